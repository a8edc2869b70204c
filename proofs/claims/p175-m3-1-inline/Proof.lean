import JvmDerived
import JvmDerived.Pilot.@@N@@Statement
import JvmDerived.Pilot.@@N@@Code
set_option linter.unusedVariables false
set_option linter.unusedSimpArgs false
namespace Jvm.RoadKit
open Sem ClassFile Op Lib Jvm.Stand Jvm.Free Jvm.LawKit
section New
variable {p : Program} {l : Launch} {e : Env} {R : Room} {s : State} {m : MethodId} {args : Array Value} {below : List Frame} {meth : Method} {c : Code} {T : State} {locs : List Loc} {cells slots : Nat}
theorem retI (X : Stand p l e R s m args below meth c T locs cells slots) (hx : p.tables.exec = Jvm.exec) {pc : Nat} {Ls : Array Slot} {z : Int32} {rest : List Value} (hret : meth.sig.returnType = some .int) (hd : decode c.code pc = .ok (.ireturn, 1)) {fs : List Frame}
    (hl : ∀ (f : JFrame) (acts : List Action), f.method = m → f.locked = none → f.entered = [] → (doReturn e (T.setTop f) acts (some (.int z))).1 = T.setFrames fs) : Steps p.tables e below (T.setTop (mkF m pc Ls (.int z :: rest))) (T.setFrames fs) := by
  have hm' : T.vm.method? m = some meth := X.method'
  have hn : narrow .int (.int z) = .int z := rfl
  show Steps p.tables e below (T.setTop { method := m, pc := pc, locals := Ls, stack := _ :: rest, locked := none }) _
  jvm_step X.here [X.here.top, hx, hd, hm', hret, hn]
  first | (intro acts; rw [hl _ acts rfl rfl rfl]) | rw [hl _ _ rfl rfl rfl]
  exact Steps.refl _
end New
end Jvm.RoadKit
namespace Jvm.Pilot.@@N@@
open Jvm Jvm.ClassFile Sem Op Lib Jvm.Free Jvm.Stand Jvm.LawKit Jvm.RoadKit Bundle Jvm.Pilot.@@N@@.Jvm.D
section Own
variable {p : Program} {l : Launch} {e : Env} {R : Room} {s : State} {m : MethodId} {args : Array Value} {below : List Frame} {meth : Method} {c : Code} {T T' : State} {locs : List Loc} {cells slots cc nn : Nat} {f f' : JFrame} {Q : Option Value → Heap → List Loc → Prop} {Z : State} {h h' : Heap} {ws : List Addr}
/-- from this state the body comes to its end, and what it leaves is as Q says -/
def own_Ends (p : Program) (e : Env) (below : List Frame) (s : State) (Q : Option Value → Heap → List Loc → Prop) (cc nn : Nat) (T : State) (f : JFrame) : Prop :=
  ∃ s₂ o, Steps p.tables e below (T.setTop f) s₂ ∧ s₂.status = .running ∧ Ended s₂ below o ∧ ∃ v L, o = .returned v ∧ Q v s₂.heap L ∧ FrameEnd s o s₂ L cc nn
theorem own_go (k : ∀ t, Steps p.tables e below (T'.setTop f') t → Steps p.tables e below (T.setTop f) t) (h : own_Ends p e below s Q cc nn T' f') : own_Ends p e below s Q cc nn T f := by
  obtain ⟨s₂, o, h1, h2⟩ := h
  exact ⟨s₂, o, k _ h1, h2⟩
theorem own_ret (X : Stand p l e R s m args below meth c T locs cells slots) {v : Option Value} (hv : meth.sig.returnType = none → v = none) (hlk : meth.locks = false)
    (st : ∀ fs, (∀ (f : JFrame) (acts : List Action), f.method = m → f.locked = none → f.entered = [] → (doReturn e (T.setTop f) acts v).1 = T.setFrames fs) → Steps p.tables e below (T.setTop f) (T.setFrames fs)) (hQ : Q v T.heap locs) (h1 : cells ≤ cc) (h2 : slots ≤ nn) :
    own_Ends p e below s Q cc nn T f := by
  obtain ⟨fs, hr, hrun, hended, hW, hsame⟩ := X.leave (v := v) hv hlk
  exact ⟨_, _, st fs hr, hrun, hended, _, _, rfl, hQ, ⟨_, rfl⟩, hW, hsame.mono h1 h2⟩
theorem own_retL (X : Stand p l e R s m args below meth c T locs cells slots) (hx : p.tables.exec = Jvm.exec) {pc : Nat} {Ls : Array Slot} {z : Int64} {rest : List Value} (hret : meth.sig.returnType = some .long) (hd : decode c.code pc = .ok (.lreturn, 1)) {fs : List Frame}
    (hl : ∀ (f : JFrame) (acts : List Action), f.method = m → f.locked = none → f.entered = [] → (doReturn e (T.setTop f) acts (some (.long z))).1 = T.setFrames fs) : Steps p.tables e below (T.setTop (mkF m pc Ls (.long z :: rest))) (T.setFrames fs) :=
  retOut X hx hret rfl (Or.inr (Or.inl ⟨rfl, rfl, _, rfl⟩)) hd hl
theorem own_retA (X : Stand p l e R s m args below meth c T locs cells slots) (hx : p.tables.exec = Jvm.exec) {pc : Nat} {Ls : Array Slot} {w : Value} {t : FieldType} {rest : List Value} (hret : meth.sig.returnType = some t) (ht : t.isReference = true) (hw : w.isRef = true) (hd : decode c.code pc = .ok (.areturn, 1)) {fs : List Frame}
    (hl : ∀ (f : JFrame) (acts : List Action), f.method = m → f.locked = none → f.entered = [] → (doReturn e (T.setTop f) acts (some w)).1 = T.setFrames fs) : Steps p.tables e below (T.setTop (mkF m pc Ls (w :: rest))) (T.setFrames fs) :=
  retOut X hx hret (by cases t <;> first | rfl | (cases ht; done)) (Or.inr (Or.inr (Or.inr (Or.inr ⟨rfl, ht, hw⟩)))) hd hl
theorem own_lc_eq {a b : Int64} : lcmpW a b = 0 ↔ a = b := by
  simp only [lcmpW, gt_iff_lt]
  by_cases h1 : b < a
  · rw [if_pos h1]; exact ⟨fun q => absurd q (by decide), fun q => absurd h1 (by rw [q, Int64.lt_iff_toInt_lt]; omega)⟩
  · rw [if_neg h1]
    by_cases h2 : a = b
    · rw [if_pos h2]; exact ⟨fun _ => h2, fun _ => rfl⟩
    · rw [if_neg h2]; exact ⟨fun q => absurd q (by decide), fun q => absurd q h2⟩
section Arr
variable {target : State} {g : JFrame} {a : Addr} {kc : ClassId} {ty : FieldType} {z : Int32} {vs : List Value} {dv : Value}
theorem own_alen (X : Stand p l e R s m args below meth c T locs cells slots) (hx : p.tables.exec = Jvm.exec) (hZ : Z.Warmed39 s.vm) (eT : T.heap = h) (V : Arv Z h a kc ty z vs dv) (hg : g.method = m) {rest : List Value} (hs : g.stack = .ref a :: rest) (hd : decode c.code g.pc = .ok (.arraylength, 1))
    (hr : Steps p.tables e below (T.setTop { g with pc := g.pc + 1, stack := .int z :: rest }) target) : Steps p.tables e below (T.setTop g) target := by
  obtain ⟨cl, Ar, -, Sz, Ng, -, -⟩ := V
  exact X.arraylength hx (by rw [eT]; exact Ar.1) (State.isArrayOf_alike hZ.alike Ar.2.1) hg hs hd _ (by rw [len_of Sz Ng]; exact hr)
theorem own_ldB (X : Stand p l e R s m args below meth c T locs cells slots) (hx : p.tables.exec = Jvm.exec) (hZ : Z.Warmed39 s.vm) (eT : T.heap = h) (V : Arv Z h a kc .byte z vs dv) {j : Int32} {x : Int32} (hin : ¬ j < 0 ∧ j < z) (hv : vs.getD j.toNatClampNeg dv = .int x) (hg : g.method = m) {rest : List Value} (hs : g.stack = .int j :: .ref a :: rest) (hd : decode c.code g.pc = .ok (.baload, 1))
    (hr : Steps p.tables e below (T.setTop { g with pc := g.pc + 1, stack := .int x :: rest }) target) : Steps p.tables e below (T.setTop g) target := by
  obtain ⟨cl, Ar, -, Sz, Ng, Hs, Ft⟩ := V
  have hq := inb_of (j := j) Sz hin
  exact X.baloadBytes hx (j := j) (v := .int x) (by rw [eT]; exact Ar.1) (State.isArrayOf_alike hZ.alike Ar.2.1) Ar.2.2 hq (Hs.at hq hv) hg hs hd _ hr
theorem own_ldC (X : Stand p l e R s m args below meth c T locs cells slots) (hx : p.tables.exec = Jvm.exec) (hZ : Z.Warmed39 s.vm) (eT : T.heap = h) (V : Arv Z h a kc .char z vs dv) {j : Int32} {x : Int32} (hin : ¬ j < 0 ∧ j < z) (hv : vs.getD j.toNatClampNeg dv = .int x) (hg : g.method = m) {rest : List Value} (hs : g.stack = .int j :: .ref a :: rest) (hd : decode c.code g.pc = .ok (.caload, 1))
    (hr : Steps p.tables e below (T.setTop { g with pc := g.pc + 1, stack := .int x :: rest }) target) : Steps p.tables e below (T.setTop g) target := by
  obtain ⟨cl, Ar, -, Sz, Ng, Hs, Ft⟩ := V
  have hq := inb_of (j := j) Sz hin
  exact X.caload hx (j := j) (v := .int x) (by rw [eT]; exact Ar.1) (State.isArrayOf_alike hZ.alike Ar.2.1) Ar.2.2 hq (Hs.at hq hv) hg hs hd _ hr
theorem own_stB (X : Stand p l e R s m args below meth c T locs cells slots) (hx : p.tables.exec = Jvm.exec) (hZ : Z.Warmed39 s.vm) (eT : T.heap = h) (V : Arv Z h a kc .byte z vs dv) {j : Int32} {x : Int32} (hin : ¬ j < 0 ∧ j < z) (i : Nat) (hj : j.toNatClampNeg = i) (hi : i < vs.length) (hg : g.method = m) {rest : List Value} (hs : g.stack = .int x :: .int j :: .ref a :: rest) (hd : decode c.code g.pc = .ok (.bastore, 1)) :
    ∃ T' h', Stand p l e R s m args below meth c T' (locs ++ [⟨a, j.toNatClampNeg⟩]) cells slots ∧ T'.heap = h' ∧ Wr h h' a j.toNatClampNeg (.int (nar .byte x)) ∧ Arv Z h' a kc .byte z (vs.set i (.int (nar .byte x))) dv ∧ ∀ target, Steps p.tables e below (T'.setTop { g with pc := g.pc + 1, stack := rest }) target → Steps p.tables e below (T.setTop g) target := by
  obtain ⟨cl, Ar, q, Sz, Ng, Hs, Ft⟩ := V
  obtain ⟨T', h', X', e', W', st⟩ := stB X hx hZ eT Ar (j := j) (inb_of Sz hin) hg hs hd
  exact ⟨T', h', X', e', W', Arv.set Ar q Sz Ng Hs Ft (fits_nar_byte _) W' i hj hi, st⟩
theorem own_stC (X : Stand p l e R s m args below meth c T locs cells slots) (hx : p.tables.exec = Jvm.exec) (hZ : Z.Warmed39 s.vm) (eT : T.heap = h) (V : Arv Z h a kc .char z vs dv) {j : Int32} {x : Int32} (hin : ¬ j < 0 ∧ j < z) (i : Nat) (hj : j.toNatClampNeg = i) (hi : i < vs.length) (hg : g.method = m) {rest : List Value} (hs : g.stack = .int x :: .int j :: .ref a :: rest) (hd : decode c.code g.pc = .ok (.castore, 1)) :
    ∃ T' h', Stand p l e R s m args below meth c T' (locs ++ [⟨a, j.toNatClampNeg⟩]) cells slots ∧ T'.heap = h' ∧ Wr h h' a j.toNatClampNeg (.int (nar .char x)) ∧ Arv Z h' a kc .char z (vs.set i (.int (nar .char x))) dv ∧ ∀ target, Steps p.tables e below (T'.setTop { g with pc := g.pc + 1, stack := rest }) target → Steps p.tables e below (T.setTop g) target := by
  obtain ⟨cl, Ar, q, Sz, Ng, Hs, Ft⟩ := V
  obtain ⟨T', h', X', e', W', st⟩ := stC X hx hZ eT Ar (j := j) (inb_of Sz hin) hg hs hd
  exact ⟨T', h', X', e', W', Arv.set Ar q Sz Ng Hs Ft (fits_nar_char _) W' i hj hi, st⟩
end Arr
section Dbl
open Jvm.Free.XS
variable {tb : Tables} [Ours tb] {target : State} {g : JFrame}
theorem own_dup2 (h : At T m c below) (hx : tb.exec = Jvm.exec) (hg : g.method = m) {x y : Value} {rest : List Value} (hd : decode c.code g.pc = .ok (.dup2, 1)) (hs : g.stack = x :: y :: rest) (h1 : x.category = 1) (h2 : y.category = 1) (hr : Steps tb e below (T.setTop { g with pc := g.pc + 1, stack := x :: y :: x :: y :: rest }) target) : Steps tb e below (T.setTop g) target := by
  subst hg
  jvm_step h [h.top, hx, hd, hs, h1, h2]
  exact hr
end Dbl
theorem own_ne0 {s : State} {args : Array Value} {t : Term} {x : Int32} (ev : t.eval args s none [] s = some (.int x)) (h : (Cond.not (Cond.eq t (.int (0 : Int32)))).before args s = true) : ¬ (x = (0 : Int32)) := fun q => by
  subst q
  have h' := Cond.before_iff.mp h
  have e2 : (Term.int (0 : Int32)).eval args s none [] s = some (.int (0 : Int32)) := rfl
  simp only [Cond.value, ev, e2] at h'
  simp at h'
abbrev oI (x : Int32) : Slot := .val (.int x)
abbrev oR (x : Addr) : Slot := .val (.ref x)
abbrev oU : Slot := .unset
abbrev oS : Slot := .second
abbrev vI (x : Int32) : Value := .int x
abbrev vR (x : Addr) : Value := .ref x
theorem own_sta_keep {C n d : String} {v : Value} (F : Sta Z h C n d v) (K : Keep h h' ws) (q : ∀ st ∈ ws, ∀ c, h[st]? = some c → c.vm.isStatics = false) : Sta Z h' C n d v := by
  obtain ⟨cf, i, k, f, st, cell, h1, h2, h3, h4, h5, h6, h7⟩ := F
  exact ⟨cf, i, k, f, st, cell, h1, h2, h3, h4, K.2.1 st cell h5 (fun z => by rw [q st z cell h5] at h6; cases h6), h6, h7⟩
theorem own_ws0 : ∀ st ∈ ([] : List Addr), ∀ c, h[st]? = some c → c.vm.isStatics = false := fun _ q => nomatch q
theorem own_wsE {a : Addr} {C : String} (F : Exa Z h a C) (q : ∀ st ∈ ws, ∀ c, h[st]? = some c → c.vm.isStatics = false) : ∀ st ∈ a :: ws, ∀ c, h[st]? = some c → c.vm.isStatics = false := fun st hs c hc => by
  rcases List.mem_cons.mp hs with rfl | hs
  · obtain ⟨cell, k, h1, -, -, h4, -⟩ := F; cases h1.symm.trans hc; exact h4
  · exact q st hs c hc
theorem own_wsV {a : Addr} {k : ClassId} {ty : FieldType} {z : Int32} {vs : List Value} {dv : Value} (F : Arv Z h a k ty z vs dv) (q : ∀ st ∈ ws, ∀ c, h[st]? = some c → c.vm.isStatics = false) : ∀ st ∈ a :: ws, ∀ c, h[st]? = some c → c.vm.isStatics = false := fun st hs c hc => by
  rcases List.mem_cons.mp hs with rfl | hs
  · obtain ⟨cl, A, -⟩ := F; cases A.1.symm.trans hc; exact A.plain
  · exact q st hs c hc
theorem own_selp {s : State} {args : Array Value} {C : String} {y : MethodName} (h : (Cond.selects C y y).before args s = true) (hp : s.PrivateAt y) (hi : (Cond.instanceMethod y).before args s = true) (hy : y.cls ≠ "java/lang/invoke/MethodHandle" ∧ y.cls ≠ "java/lang/invoke/VarHandle") : (Cond.selects y.cls y y).before args s = true := by
  obtain ⟨c2, r2, m2, -, -, q3, -, kP, hkP, hkPi⟩ := Cond.selects_spec h
  exact selects_self_of_private (findClass_of_methodNamed q3) hkP hkPi hp hi hy
theorem own_same {s : State} {args : Array Value} {C : String} {x y y2 : MethodName} (h : (Cond.selects C x y2).before args s = true) (hc : y2.cls = y.cls) (hi : (Cond.instanceMethod y).before args s = true) (hy : y.cls ≠ "java/lang/invoke/MethodHandle" ∧ y.cls ≠ "java/lang/invoke/VarHandle") : (Cond.sameMethod y.cls y.cls y.name y.desc).before args s = true := by
  obtain ⟨c2, r2, m2, -, -, q3, -, kP, hkP, hkPi⟩ := Cond.selects_spec h
  obtain ⟨mk, methM, hnamed, -, -, -⟩ := Cond.instanceMethod_spec hi
  have hf : s.methodFound? y.cls y.name y.desc = some mk := State.methodFound?_of_named hnamed hy
  have c1 : s.vm.findClass y2.cls = some m2.cls := findClass_of_methodNamed q3
  rw [hc] at c1
  have hn : s.methodNamed? ⟨y.cls, y.name, y.desc⟩ = some mk := hnamed
  refine Cond.before_iff.mpr ?_
  simp only [Cond.value, c1, hf, hn, hkP]
  simp [hkPi]
theorem own_nf {s : State} {args : Array Value} {C : String} {x y y2 : MethodName} (h : (Cond.selects C x y2).before args s = true) (hc : y2.cls = y.cls) : NotFace s y := fun r0 h0 => by
  obtain ⟨c2, r2, m2, -, -, q3, -, kP, hkP, hkPi⟩ := Cond.selects_spec h
  have c1 : s.vm.findClass y2.cls = some m2.cls := findClass_of_methodNamed q3
  have c0 : s.vm.findClass y.cls = some r0.cls := findClass_of_methodNamed h0
  rw [hc] at c1
  have e : m2.cls = r0.cls := Option.some.inj (c1.symm.trans c0)
  exact ⟨kP, by rw [← e]; exact hkP, hkPi⟩
theorem own_out {kc ks : Nat} {Q : Option Value → Heap → List Loc → Prop} {s₀ : State} {F : Option Value → JFrame} {P1 : Vm → Prop}
    (h : ∃ (v : Option Value) (vm₁ : Vm) (B : Pt), P1 vm₁ ∧ Stand p l e R s m args below meth c B.U B.locs B.cells B.slots ∧ (∃ L, Q v B.U.heap L ∧ B.locs = locs ++ L ∧ B.cells = cells + kc ∧ B.slots = slots + ks) ∧ Steps p.tables e below s₀ (B.U.setTop (F v))) :
    ∃ v T L, Stand p l e R s m args below meth c T (locs ++ L) (cells + kc) (slots + ks) ∧ Q v T.heap L ∧ Steps p.tables e below s₀ (T.setTop (F v)) := by
  obtain ⟨v, -, ⟨T, L0, k, n⟩, -, X, ⟨L, hQ, e1, e2, e3⟩, st⟩ := h
  dsimp only [Pt.U, Pt.locs, Pt.cells, Pt.slots] at X e1 e2 e3 st hQ
  subst e1 e2 e3
  exact ⟨v, T, L, X, hQ, st⟩
theorem own_outC {kc ks : Nat} {Q : Option Value → Heap → List Loc → Prop} {s₀ : State} {F : Option Value → JFrame} {P1 : Vm → Prop}
    (h : ∃ (v : Option Value) (vm₁ : Vm) (B : Pt), P1 vm₁ ∧ Stand p l e R s m args below meth c B.U B.locs B.cells B.slots ∧ (∃ L, Q v B.U.heap L ∧ B.locs = locs ++ L ∧ B.cells = cells + kc ∧ B.slots = slots + ks) ∧ ∀ target, Steps p.tables e below (B.U.setTop (F v)) target → Steps p.tables e below s₀ target) :
    ∃ v T L, Stand p l e R s m args below meth c T (locs ++ L) (cells + kc) (slots + ks) ∧ Q v T.heap L ∧ ∀ target, Steps p.tables e below (T.setTop (F v)) target → Steps p.tables e below s₀ target := by
  obtain ⟨v, -, ⟨T, L0, k, n⟩, -, X, ⟨L, hQ, e1, e2, e3⟩, st⟩ := h
  dsimp only [Pt.U, Pt.locs, Pt.cells, Pt.slots] at X e1 e2 e3 st hQ
  subst e1 e2 e3
  exact ⟨v, T, L, X, hQ, st⟩
theorem own_outS {kc ks n0 : Nat} {Q : Option Value → Heap → Vm → List Loc → Prop} {s₀ : State} {F : Option Value → JFrame} {P1 : Vm → Prop}
    (h : ∃ (v : Option Value) (vm₁ : Vm) (B : Pt), P1 vm₁ ∧ Stand p l e R (s.setVm B.U.vm) m args below meth c B.U B.locs B.cells B.slots ∧ s.Since B.U.vm B.U.heap.size ∧ n0 ≤ B.U.heap.size ∧ (∃ L, Q v B.U.heap B.U.vm L ∧ B.locs = locs ++ L ∧ B.cells = cells + kc ∧ B.slots = slots + ks) ∧ Steps p.tables e below s₀ (B.U.setTop (F v))) :
    ∃ v T L, Stand p l e R (s.setVm T.vm) m args below meth c T (locs ++ L) (cells + kc) (slots + ks) ∧ s.Since T.vm T.heap.size ∧ n0 ≤ T.heap.size ∧ Q v T.heap T.vm L ∧ Steps p.tables e below s₀ (T.setTop (F v)) := by
  obtain ⟨v, -, ⟨T, L0, k, n⟩, -, X, hS, hg, ⟨L, hQ, e1, e2, e3⟩, st⟩ := h
  dsimp only [Pt.U, Pt.locs, Pt.cells, Pt.slots] at X e1 e2 e3 st hQ hS hg
  subst e1 e2 e3
  exact ⟨v, T, L, X, hS, hg, hQ, st⟩
theorem own_hide {n0 : Nat} (X : Stand p l e R s m args below meth c T locs cells slots) (N : Fr n0 locs) : ∃ L, Stand p l e R s m args below meth c T L cells slots ∧ Fr n0 L := ⟨_, X, N⟩
theorem own_exa_ne {a b : Addr} {C D : String} (A : Exa Z h a C) (B : Exa Z h b D) (hn : C ≠ D) : a ≠ b := fun q => by
  subst q
  obtain ⟨c1, k1, h1, h2, -⟩ := A
  obtain ⟨c2, k2, g1, g2, -⟩ := B
  cases h1.symm.trans g1
  exact ids_ne h2 g2 hn rfl
end Own
theorem ow131 {Z : State} {a0 : Array Value} (hw : ∀ d ∈ tables_1, d.before a0 Z = true) : (Jvm.Cond.code ({ cls := "java/lang/Integer", name := "getChars", desc := "(II[B)I" } : Jvm.MethodName) jdk_33_method_12_code (7 : Nat) (Option.some Jvm.ClassFile.FieldType.int)).before a0 Z = true := hw _ (List.mem_of_getElem? (i := 131) rfl)
theorem ow132 {Z : State} {a0 : Array Value} (hw : ∀ d ∈ tables_1, d.before a0 Z = true) : (Jvm.Cond.fieldLink "java/lang/Integer" (83 : Nat) "java/lang/Integer" "DigitOnes" "[B").before a0 Z = true := hw _ (List.mem_of_getElem? (i := 132) rfl)
theorem ow229 {Z : State} {a0 : Array Value} (hw : ∀ d ∈ tables_1, d.before a0 Z = true) : (Jvm.Cond.fieldLink "java/lang/Integer" (87 : Nat) "java/lang/Integer" "DigitTens" "[B").before a0 Z = true := hw _ (List.mem_of_getElem? (i := 229) rfl)
theorem ow122 {Z : State} {a0 : Array Value} (hw : ∀ d ∈ tables_1, d.before a0 Z = true) : (Jvm.Cond.initialized "java/lang/Integer").before a0 Z = true := hw _ (List.mem_of_getElem? (i := 122) rfl)
abbrev mn0 : MethodName := ⟨"java/lang/Math", "min", "(II)I"⟩
abbrev mn1 : MethodName := ⟨"java/lang/Math", "max", "(II)I"⟩
theorem ow239 {Z : State} {a0 : Array Value} (hw : ∀ d ∈ tables_1, d.before a0 Z = true) : (Jvm.Cond.constant "com/example/tally_of_calls/tallyofcalls/CountsBetweenPinLaw" (7 : Nat) (100000 : Int32)).before a0 Z = true := hw _ (List.mem_of_getElem? (i := 239) rfl)
theorem ow240 {Z : State} {a0 : Array Value} (hw : ∀ d ∈ tables_1, d.before a0 Z = true) : (Jvm.Cond.constant "com/example/tally_of_calls/tallyofcalls/CountsBetweenPinLaw" (8 : Nat) (1000000 : Int32)).before a0 Z = true := hw _ (List.mem_of_getElem? (i := 240) rfl)
theorem ow241 {Z : State} {a0 : Array Value} (hw : ∀ d ∈ tables_1, d.before a0 Z = true) : (Jvm.Cond.constant "com/example/tally_of_calls/tallyofcalls/CountsBetweenPinLaw" (9 : Nat) (10000000 : Int32)).before a0 Z = true := hw _ (List.mem_of_getElem? (i := 241) rfl)
theorem ow242 {Z : State} {a0 : Array Value} (hw : ∀ d ∈ tables_1, d.before a0 Z = true) : (Jvm.Cond.constant "com/example/tally_of_calls/tallyofcalls/CountsBetweenPinLaw" (10 : Nat) (100000000 : Int32)).before a0 Z = true := hw _ (List.mem_of_getElem? (i := 242) rfl)
theorem ow243 {Z : State} {a0 : Array Value} (hw : ∀ d ∈ tables_1, d.before a0 Z = true) : (Jvm.Cond.constant "com/example/tally_of_calls/tallyofcalls/CountsBetweenPinLaw" (11 : Nat) (1000000000 : Int32)).before a0 Z = true := hw _ (List.mem_of_getElem? (i := 243) rfl)
abbrev mn2 : MethodName := ⟨"com/example/tally_of_calls/tallyofcalls/CountsBetweenPinLaw", "digits", "(I)I"⟩
abbrev mn3 : MethodName := ⟨"java/lang/Integer", "stringSize", "(I)I"⟩
theorem ow12 {Z : State} {a0 : Array Value} (hw : ∀ d ∈ tables_1, d.before a0 Z = true) : (Jvm.Cond.classLink "com/example/tally_of_calls/tallyofcalls/Counts" (35 : Nat) "com/example/tally_of_calls/tallyofcalls/Count").before a0 Z = true := hw _ (List.mem_of_getElem? (i := 12) rfl)
theorem ow13 {Z : State} {a0 : Array Value} (hw : ∀ d ∈ tables_1, d.before a0 Z = true) : (Jvm.Cond.instantiable "com/example/tally_of_calls/tallyofcalls/Count" (3 : Nat)).before a0 Z = true := hw _ (List.mem_of_getElem? (i := 13) rfl)
theorem ow14 {Z : State} {a0 : Array Value} (hw : ∀ d ∈ tables_1, d.before a0 Z = true) : (Jvm.Cond.initialized "com/example/tally_of_calls/tallyofcalls/Count").before a0 Z = true := hw _ (List.mem_of_getElem? (i := 14) rfl)
theorem ow176 {Z : State} {a0 : Array Value} (hw : ∀ d ∈ tables_1, d.before a0 Z = true) : (Jvm.Cond.laysFinal "com/example/tally_of_calls/tallyofcalls/Count" "com/example/tally_of_calls/tallyofcalls/Count" "min" "I").before a0 Z = true := hw _ (List.mem_of_getElem? (i := 176) rfl)
theorem ow178 {Z : State} {a0 : Array Value} (hw : ∀ d ∈ tables_1, d.before a0 Z = true) : (Jvm.Cond.laysFinal "com/example/tally_of_calls/tallyofcalls/Count" "com/example/tally_of_calls/tallyofcalls/Count" "max" "J").before a0 Z = true := hw _ (List.mem_of_getElem? (i := 178) rfl)
theorem ow180 {Z : State} {a0 : Array Value} (hw : ∀ d ∈ tables_1, d.before a0 Z = true) : (Jvm.Cond.laysFinal "com/example/tally_of_calls/tallyofcalls/Count" "com/example/tally_of_calls/tallyofcalls/Count" "phrase" "Ljava/lang/String;").before a0 Z = true := hw _ (List.mem_of_getElem? (i := 180) rfl)
theorem ow15 {Z : State} {a0 : Array Value} (hw : ∀ d ∈ tables_1, d.before a0 Z = true) : (Jvm.Cond.classLink "com/example/tally_of_calls/tallyofcalls/Counts" (13 : Nat) "java/lang/StringBuilder").before a0 Z = true := hw _ (List.mem_of_getElem? (i := 15) rfl)
theorem ow16 {Z : State} {a0 : Array Value} (hw : ∀ d ∈ tables_1, d.before a0 Z = true) : (Jvm.Cond.instantiable "java/lang/StringBuilder" (4 : Nat)).before a0 Z = true := hw _ (List.mem_of_getElem? (i := 16) rfl)
theorem ow17 {Z : State} {a0 : Array Value} (hw : ∀ d ∈ tables_1, d.before a0 Z = true) : (Jvm.Cond.initialized "java/lang/StringBuilder").before a0 Z = true := hw _ (List.mem_of_getElem? (i := 17) rfl)
theorem ow34 {Z : State} {a0 : Array Value} (hw : ∀ d ∈ tables_1, d.before a0 Z = true) : (Jvm.Cond.lays "java/lang/StringBuilder" "java/lang/AbstractStringBuilder" "value" "[B").before a0 Z = true := hw _ (List.mem_of_getElem? (i := 34) rfl)
theorem ow36 {Z : State} {a0 : Array Value} (hw : ∀ d ∈ tables_1, d.before a0 Z = true) : (Jvm.Cond.lays "java/lang/StringBuilder" "java/lang/AbstractStringBuilder" "coder" "B").before a0 Z = true := hw _ (List.mem_of_getElem? (i := 36) rfl)
theorem ow67 {Z : State} {a0 : Array Value} (hw : ∀ d ∈ tables_1, d.before a0 Z = true) : (Jvm.Cond.lays "java/lang/StringBuilder" "java/lang/AbstractStringBuilder" "count" "I").before a0 Z = true := hw _ (List.mem_of_getElem? (i := 67) rfl)
theorem ow18 {Z : State} {a0 : Array Value} (hw : ∀ d ∈ tables_1, d.before a0 Z = true) : (Jvm.Cond.methodLink "com/example/tally_of_calls/tallyofcalls/Counts" (15 : Nat) ({ cls := "java/lang/StringBuilder", name := "<init>", desc := "()V" } : Jvm.MethodName)).before a0 Z = true := hw _ (List.mem_of_getElem? (i := 18) rfl)
theorem ow21 {Z : State} {a0 : Array Value} (hw : ∀ d ∈ tables_1, d.before a0 Z = true) : (Jvm.Cond.methodLink "java/lang/StringBuilder" (1 : Nat) ({ cls := "java/lang/AbstractStringBuilder", name := "<init>", desc := "(I)V" } : Jvm.MethodName)).before a0 Z = true := hw _ (List.mem_of_getElem? (i := 21) rfl)
theorem ow27 {Z : State} {a0 : Array Value} (hw : ∀ d ∈ tables_1, d.before a0 Z = true) : (Jvm.Cond.methodLink "java/lang/AbstractStringBuilder" (3 : Nat) ({ cls := "java/lang/Object", name := "<init>", desc := "()V" } : Jvm.MethodName)).before a0 Z = true := hw _ (List.mem_of_getElem? (i := 27) rfl)
theorem ow29 {Z : State} {a0 : Array Value} (hw : ∀ d ∈ tables_1, d.before a0 Z = true) : (Jvm.Cond.code ({ cls := "java/lang/Object", name := "<init>", desc := "()V" } : Jvm.MethodName) object_method_1_code (1 : Nat) (Option.none : Option Jvm.ClassFile.FieldType)).before a0 Z = true := hw _ (List.mem_of_getElem? (i := 29) rfl)
theorem ow28 {Z : State} {a0 : Array Value} (hw : ∀ d ∈ tables_1, d.before a0 Z = true) : (Jvm.Cond.instanceMethod ({ cls := "java/lang/Object", name := "<init>", desc := "()V" } : Jvm.MethodName)).before a0 Z = true := hw _ (List.mem_of_getElem? (i := 28) rfl)
theorem ow30 {Z : State} {a0 : Array Value} (hw : ∀ d ∈ tables_1, d.before a0 Z = true) : (Jvm.Cond.fieldLink "java/lang/AbstractStringBuilder" (18 : Nat) "java/lang/String" "COMPACT_STRINGS" "Z").before a0 Z = true := hw _ (List.mem_of_getElem? (i := 30) rfl)
theorem ow32 {Z : State} {a0 : Array Value} (hw : ∀ d ∈ tables_1, d.before a0 Z = true) : (Jvm.Cond.arrayClass Jvm.ClassFile.FieldType.byte).before a0 Z = true := hw _ (List.mem_of_getElem? (i := 32) rfl)
def own_ls0 : List Value := [(.int (0 : Int32)), (.int (0 : Int32)), (.int (0 : Int32)), (.int (0 : Int32)), (.int (0 : Int32)), (.int (0 : Int32)), (.int (0 : Int32)), (.int (0 : Int32)), (.int (0 : Int32)), (.int (0 : Int32)), (.int (0 : Int32)), (.int (0 : Int32)), (.int (0 : Int32)), (.int (0 : Int32)), (.int (0 : Int32)), (.int (0 : Int32))]
theorem ow33 {Z : State} {a0 : Array Value} (hw : ∀ d ∈ tables_1, d.before a0 Z = true) : (Jvm.Cond.fieldLink "java/lang/AbstractStringBuilder" (15 : Nat) "java/lang/AbstractStringBuilder" "value" "[B").before a0 Z = true := hw _ (List.mem_of_getElem? (i := 33) rfl)
theorem ow35 {Z : State} {a0 : Array Value} (hw : ∀ d ∈ tables_1, d.before a0 Z = true) : (Jvm.Cond.fieldLink "java/lang/AbstractStringBuilder" (22 : Nat) "java/lang/AbstractStringBuilder" "coder" "B").before a0 Z = true := hw _ (List.mem_of_getElem? (i := 35) rfl)
abbrev mn4 : MethodName := ⟨"java/lang/AbstractStringBuilder", "<init>", "(I)V"⟩
theorem ow26 {Z : State} {a0 : Array Value} (hw : ∀ d ∈ tables_1, d.before a0 Z = true) : (Jvm.Cond.code ({ cls := "java/lang/AbstractStringBuilder", name := "<init>", desc := "(I)V" } : Jvm.MethodName) jdk_68_method_2_code (2 : Nat) (Option.none : Option Jvm.ClassFile.FieldType)).before a0 Z = true := hw _ (List.mem_of_getElem? (i := 26) rfl)
theorem ow25 {Z : State} {a0 : Array Value} (hw : ∀ d ∈ tables_1, d.before a0 Z = true) : (Jvm.Cond.initialized "java/lang/AbstractStringBuilder").before a0 Z = true := hw _ (List.mem_of_getElem? (i := 25) rfl)
theorem ow22 {Z : State} {a0 : Array Value} (hw : ∀ d ∈ tables_1, d.before a0 Z = true) : (Jvm.Cond.instanceMethod ({ cls := "java/lang/AbstractStringBuilder", name := "<init>", desc := "(I)V" } : Jvm.MethodName)).before a0 Z = true := hw _ (List.mem_of_getElem? (i := 22) rfl)
abbrev mn5 : MethodName := ⟨"java/lang/StringBuilder", "<init>", "()V"⟩
theorem ow20 {Z : State} {a0 : Array Value} (hw : ∀ d ∈ tables_1, d.before a0 Z = true) : (Jvm.Cond.code ({ cls := "java/lang/StringBuilder", name := "<init>", desc := "()V" } : Jvm.MethodName) jdk_67_method_1_code (1 : Nat) (Option.none : Option Jvm.ClassFile.FieldType)).before a0 Z = true := hw _ (List.mem_of_getElem? (i := 20) rfl)
theorem ow19 {Z : State} {a0 : Array Value} (hw : ∀ d ∈ tables_1, d.before a0 Z = true) : (Jvm.Cond.instanceMethod ({ cls := "java/lang/StringBuilder", name := "<init>", desc := "()V" } : Jvm.MethodName)).before a0 Z = true := hw _ (List.mem_of_getElem? (i := 19) rfl)
theorem ow37 {Z : State} {a0 : Array Value} (hw : ∀ d ∈ tables_1, d.before a0 Z = true) : (Jvm.Cond.stringLink "com/example/tally_of_calls/tallyofcalls/Counts" (65 : Nat) "expected between ").before a0 Z = true := hw _ (List.mem_of_getElem? (i := 37) rfl)
def own_lit0 : List Value := [(.int (101 : Int32)), (.int (120 : Int32)), (.int (112 : Int32)), (.int (101 : Int32)), (.int (99 : Int32)), (.int (116 : Int32)), (.int (101 : Int32)), (.int (100 : Int32)), (.int (32 : Int32)), (.int (98 : Int32)), (.int (101 : Int32)), (.int (116 : Int32)), (.int (119 : Int32)), (.int (101 : Int32)), (.int (101 : Int32)), (.int (110 : Int32)), (.int (32 : Int32))]
theorem own_lit0_ok : (∀ c ∈ "expected between ".toList, c.toNat < 256) ∧ "expected between ".toList.map (fun c => Value.int (Jvm.Lit.byteI c.toNat.toUInt16)) = own_lit0 := ⟨by decide +kernel, by decide +kernel⟩
theorem own_lit0_len : (17 : Int32).toNatClampNeg = own_lit0.length := by decide +kernel
theorem ow43 {Z : State} {a0 : Array Value} (hw : ∀ d ∈ tables_1, d.before a0 Z = true) : (Jvm.Cond.methodLink "com/example/tally_of_calls/tallyofcalls/Counts" (18 : Nat) ({ cls := "java/lang/StringBuilder", name := "append", desc := "(Ljava/lang/String;)Ljava/lang/StringBuilder;" } : Jvm.MethodName)).before a0 Z = true := hw _ (List.mem_of_getElem? (i := 43) rfl)
def own_ls1 : List Value := [(.int (101 : Int32)), (.int (120 : Int32)), (.int (112 : Int32)), (.int (101 : Int32)), (.int (99 : Int32)), (.int (116 : Int32)), (.int (101 : Int32)), (.int (100 : Int32)), (.int (32 : Int32)), (.int (98 : Int32)), (.int (101 : Int32)), (.int (116 : Int32)), (.int (119 : Int32)), (.int (101 : Int32)), (.int (101 : Int32)), (.int (110 : Int32)), (.int (32 : Int32))]
theorem ow48 {Z : State} {a0 : Array Value} (hw : ∀ d ∈ tables_1, d.before a0 Z = true) : (Jvm.Cond.methodLink "java/lang/StringBuilder" (29 : Nat) ({ cls := "java/lang/AbstractStringBuilder", name := "append", desc := "(Ljava/lang/String;)Ljava/lang/AbstractStringBuilder;" } : Jvm.MethodName)).before a0 Z = true := hw _ (List.mem_of_getElem? (i := 48) rfl)
theorem ow53 {Z : State} {a0 : Array Value} (hw : ∀ d ∈ tables_1, d.before a0 Z = true) : (Jvm.Cond.methodLink "java/lang/AbstractStringBuilder" (32 : Nat) ({ cls := "java/lang/String", name := "length", desc := "()I" } : Jvm.MethodName)).before a0 Z = true := hw _ (List.mem_of_getElem? (i := 53) rfl)
theorem ow58 {Z : State} {a0 : Array Value} (hw : ∀ d ∈ tables_1, d.before a0 Z = true) : (Jvm.Cond.fieldLink "java/lang/String" (9 : Nat) "java/lang/String" "value" "[B").before a0 Z = true := hw _ (List.mem_of_getElem? (i := 58) rfl)
theorem ow59 {Z : State} {a0 : Array Value} (hw : ∀ d ∈ tables_1, d.before a0 Z = true) : (Jvm.Cond.methodLink "java/lang/String" (335 : Nat) ({ cls := "java/lang/String", name := "coder", desc := "()B" } : Jvm.MethodName)).before a0 Z = true := hw _ (List.mem_of_getElem? (i := 59) rfl)
theorem ow64 {Z : State} {a0 : Array Value} (hw : ∀ d ∈ tables_1, d.before a0 Z = true) : (Jvm.Cond.fieldLink "java/lang/String" (38 : Nat) "java/lang/String" "COMPACT_STRINGS" "Z").before a0 Z = true := hw _ (List.mem_of_getElem? (i := 64) rfl)
theorem ow65 {Z : State} {a0 : Array Value} (hw : ∀ d ∈ tables_1, d.before a0 Z = true) : (Jvm.Cond.fieldLink "java/lang/String" (15 : Nat) "java/lang/String" "coder" "B").before a0 Z = true := hw _ (List.mem_of_getElem? (i := 65) rfl)
abbrev mn6 : MethodName := ⟨"java/lang/String", "coder", "()B"⟩
theorem ow63 {Z : State} {a0 : Array Value} (hw : ∀ d ∈ tables_1, d.before a0 Z = true) : (Jvm.Cond.code ({ cls := "java/lang/String", name := "coder", desc := "()B" } : Jvm.MethodName) jdk_42_method_152_code (1 : Nat) (Option.some Jvm.ClassFile.FieldType.byte)).before a0 Z = true := hw _ (List.mem_of_getElem? (i := 63) rfl)
theorem ow31 {Z : State} {a0 : Array Value} (hw : ∀ d ∈ tables_1, d.before a0 Z = true) : (Jvm.Cond.initialized "java/lang/String").before a0 Z = true := hw _ (List.mem_of_getElem? (i := 31) rfl)
theorem ow62 {Z : State} {a0 : Array Value} (hw : ∀ d ∈ tables_1, d.before a0 Z = true) : (Jvm.Cond.selects "java/lang/String" ({ cls := "java/lang/String", name := "coder", desc := "()B" } : Jvm.MethodName) ({ cls := "java/lang/String", name := "coder", desc := "()B" } : Jvm.MethodName)).before a0 Z = true := hw _ (List.mem_of_getElem? (i := 62) rfl)
theorem ow60 {Z : State} {a0 : Array Value} (hw : ∀ d ∈ tables_1, d.before a0 Z = true) : (Jvm.Cond.declares ({ cls := "java/lang/String", name := "coder", desc := "()B" } : Jvm.MethodName)).before a0 Z = true := hw _ (List.mem_of_getElem? (i := 60) rfl)
theorem ow61 {Z : State} {a0 : Array Value} (hw : ∀ d ∈ tables_1, d.before a0 Z = true) : (Jvm.Cond.instanceMethod ({ cls := "java/lang/String", name := "coder", desc := "()B" } : Jvm.MethodName)).before a0 Z = true := hw _ (List.mem_of_getElem? (i := 61) rfl)
abbrev mn7 : MethodName := ⟨"java/lang/String", "length", "()I"⟩
theorem ow57 {Z : State} {a0 : Array Value} (hw : ∀ d ∈ tables_1, d.before a0 Z = true) : (Jvm.Cond.code ({ cls := "java/lang/String", name := "length", desc := "()I" } : Jvm.MethodName) jdk_42_method_54_code (1 : Nat) (Option.some Jvm.ClassFile.FieldType.int)).before a0 Z = true := hw _ (List.mem_of_getElem? (i := 57) rfl)
theorem ow56 {Z : State} {a0 : Array Value} (hw : ∀ d ∈ tables_1, d.before a0 Z = true) : (Jvm.Cond.selects "java/lang/String" ({ cls := "java/lang/String", name := "length", desc := "()I" } : Jvm.MethodName) ({ cls := "java/lang/String", name := "length", desc := "()I" } : Jvm.MethodName)).before a0 Z = true := hw _ (List.mem_of_getElem? (i := 56) rfl)
theorem ow54 {Z : State} {a0 : Array Value} (hw : ∀ d ∈ tables_1, d.before a0 Z = true) : (Jvm.Cond.declares ({ cls := "java/lang/String", name := "length", desc := "()I" } : Jvm.MethodName)).before a0 Z = true := hw _ (List.mem_of_getElem? (i := 54) rfl)
theorem ow55 {Z : State} {a0 : Array Value} (hw : ∀ d ∈ tables_1, d.before a0 Z = true) : (Jvm.Cond.instanceMethod ({ cls := "java/lang/String", name := "length", desc := "()I" } : Jvm.MethodName)).before a0 Z = true := hw _ (List.mem_of_getElem? (i := 55) rfl)
theorem ow66 {Z : State} {a0 : Array Value} (hw : ∀ d ∈ tables_1, d.before a0 Z = true) : (Jvm.Cond.fieldLink "java/lang/AbstractStringBuilder" (79 : Nat) "java/lang/AbstractStringBuilder" "count" "I").before a0 Z = true := hw _ (List.mem_of_getElem? (i := 66) rfl)
theorem ow68 {Z : State} {a0 : Array Value} (hw : ∀ d ∈ tables_1, d.before a0 Z = true) : (Jvm.Cond.methodLink "java/lang/AbstractStringBuilder" (100 : Nat) ({ cls := "java/lang/AbstractStringBuilder", name := "ensureCapacityInternal", desc := "(I)V" } : Jvm.MethodName)).before a0 Z = true := hw _ (List.mem_of_getElem? (i := 68) rfl)
theorem ow73 {Z : State} {a0 : Array Value} (hw : ∀ d ∈ tables_1, d.before a0 Z = true) : (Jvm.Cond.methodLink "java/lang/AbstractStringBuilder" (104 : Nat) ({ cls := "java/lang/AbstractStringBuilder", name := "newCapacity", desc := "(I)I" } : Jvm.MethodName)).before a0 Z = true := hw _ (List.mem_of_getElem? (i := 73) rfl)
theorem ow78 {Z : State} {a0 : Array Value} (hw : ∀ d ∈ tables_1, d.before a0 Z = true) : (Jvm.Cond.methodLink "java/lang/AbstractStringBuilder" (114 : Nat) ({ cls := "jdk/internal/util/ArraysSupport", name := "newLength", desc := "(III)I" } : Jvm.MethodName)).before a0 Z = true := hw _ (List.mem_of_getElem? (i := 78) rfl)
theorem ow82 {Z : State} {a0 : Array Value} (hw : ∀ d ∈ tables_1, d.before a0 Z = true) : (Jvm.Cond.methodLink "jdk/internal/util/ArraysSupport" (194 : Nat) ({ cls := "java/lang/Math", name := "max", desc := "(II)I" } : Jvm.MethodName)).before a0 Z = true := hw _ (List.mem_of_getElem? (i := 82) rfl)
theorem ow7 {Z : State} {a0 : Array Value} (hw : ∀ d ∈ tables_1, d.before a0 Z = true) : (Jvm.Cond.code ({ cls := "java/lang/Math", name := "max", desc := "(II)I" } : Jvm.MethodName) jdk_29_method_65_code (2 : Nat) (Option.some Jvm.ClassFile.FieldType.int)).before a0 Z = true := hw _ (List.mem_of_getElem? (i := 7) rfl)
theorem ow3 {Z : State} {a0 : Array Value} (hw : ∀ d ∈ tables_1, d.before a0 Z = true) : (Jvm.Cond.initialized "java/lang/Math").before a0 Z = true := hw _ (List.mem_of_getElem? (i := 3) rfl)
theorem ow6 {Z : State} {a0 : Array Value} (hw : ∀ d ∈ tables_1, d.before a0 Z = true) : (Jvm.Cond.static ({ cls := "java/lang/Math", name := "max", desc := "(II)I" } : Jvm.MethodName)).before a0 Z = true := hw _ (List.mem_of_getElem? (i := 6) rfl)
theorem ow83 {Z : State} {a0 : Array Value} (hw : ∀ d ∈ tables_1, d.before a0 Z = true) : (Jvm.Cond.constant "jdk/internal/util/ArraysSupport" (200 : Nat) (2147483639 : Int32)).before a0 Z = true := hw _ (List.mem_of_getElem? (i := 83) rfl)
abbrev mn8 : MethodName := ⟨"jdk/internal/util/ArraysSupport", "newLength", "(III)I"⟩
theorem ow81 {Z : State} {a0 : Array Value} (hw : ∀ d ∈ tables_1, d.before a0 Z = true) : (Jvm.Cond.code ({ cls := "jdk/internal/util/ArraysSupport", name := "newLength", desc := "(III)I" } : Jvm.MethodName) jdk_48_method_27_code (4 : Nat) (Option.some Jvm.ClassFile.FieldType.int)).before a0 Z = true := hw _ (List.mem_of_getElem? (i := 81) rfl)
theorem ow80 {Z : State} {a0 : Array Value} (hw : ∀ d ∈ tables_1, d.before a0 Z = true) : (Jvm.Cond.initialized "jdk/internal/util/ArraysSupport").before a0 Z = true := hw _ (List.mem_of_getElem? (i := 80) rfl)
theorem ow79 {Z : State} {a0 : Array Value} (hw : ∀ d ∈ tables_1, d.before a0 Z = true) : (Jvm.Cond.static ({ cls := "jdk/internal/util/ArraysSupport", name := "newLength", desc := "(III)I" } : Jvm.MethodName)).before a0 Z = true := hw _ (List.mem_of_getElem? (i := 79) rfl)
theorem ow84 {Z : State} {a0 : Array Value} (hw : ∀ d ∈ tables_1, d.before a0 Z = true) : (Jvm.Cond.constant "java/lang/AbstractStringBuilder" (39 : Nat) (2147483647 : Int32)).before a0 Z = true := hw _ (List.mem_of_getElem? (i := 84) rfl)
abbrev mn9 : MethodName := ⟨"java/lang/AbstractStringBuilder", "newCapacity", "(I)I"⟩
theorem ow77 {Z : State} {a0 : Array Value} (hw : ∀ d ∈ tables_1, d.before a0 Z = true) : (Jvm.Cond.code ({ cls := "java/lang/AbstractStringBuilder", name := "newCapacity", desc := "(I)I" } : Jvm.MethodName) jdk_68_method_10_code (6 : Nat) (Option.some Jvm.ClassFile.FieldType.int)).before a0 Z = true := hw _ (List.mem_of_getElem? (i := 77) rfl)
theorem ow74 {Z : State} {a0 : Array Value} (hw : ∀ d ∈ tables_1, d.before a0 Z = true) : (Jvm.Cond.instanceMethod ({ cls := "java/lang/AbstractStringBuilder", name := "newCapacity", desc := "(I)I" } : Jvm.MethodName)).before a0 Z = true := hw _ (List.mem_of_getElem? (i := 74) rfl)
theorem ow76 {Z : State} {a0 : Array Value} (hw : ∀ d ∈ tables_1, d.before a0 Z = true) : (Jvm.Cond.selects "java/lang/StringBuilder" ({ cls := "java/lang/AbstractStringBuilder", name := "newCapacity", desc := "(I)I" } : Jvm.MethodName) ({ cls := "java/lang/AbstractStringBuilder", name := "newCapacity", desc := "(I)I" } : Jvm.MethodName)).before a0 Z = true := hw _ (List.mem_of_getElem? (i := 76) rfl)
theorem ow75 {Z : State} {a0 : Array Value} (hw : ∀ d ∈ tables_1, d.before a0 Z = true) : (Jvm.Cond.privateMethod ({ cls := "java/lang/AbstractStringBuilder", name := "newCapacity", desc := "(I)I" } : Jvm.MethodName)).before a0 Z = true := hw _ (List.mem_of_getElem? (i := 75) rfl)
theorem ow85 {Z : State} {a0 : Array Value} (hw : ∀ d ∈ tables_1, d.before a0 Z = true) : (Jvm.Cond.methodLink "java/lang/AbstractStringBuilder" (108 : Nat) ({ cls := "java/util/Arrays", name := "copyOf", desc := "([BI)[B" } : Jvm.MethodName)).before a0 Z = true := hw _ (List.mem_of_getElem? (i := 85) rfl)
def own_ls2 : List Value := [(.int (0 : Int32)), (.int (0 : Int32)), (.int (0 : Int32)), (.int (0 : Int32)), (.int (0 : Int32)), (.int (0 : Int32)), (.int (0 : Int32)), (.int (0 : Int32)), (.int (0 : Int32)), (.int (0 : Int32)), (.int (0 : Int32)), (.int (0 : Int32)), (.int (0 : Int32)), (.int (0 : Int32)), (.int (0 : Int32)), (.int (0 : Int32)), (.int (0 : Int32)), (.int (0 : Int32)), (.int (0 : Int32)), (.int (0 : Int32)), (.int (0 : Int32)), (.int (0 : Int32)), (.int (0 : Int32)), (.int (0 : Int32)), (.int (0 : Int32)), (.int (0 : Int32)), (.int (0 : Int32)), (.int (0 : Int32)), (.int (0 : Int32)), (.int (0 : Int32)), (.int (0 : Int32)), (.int (0 : Int32)), (.int (0 : Int32)), (.int (0 : Int32))]
theorem ow89 {Z : State} {a0 : Array Value} (hw : ∀ d ∈ tables_1, d.before a0 Z = true) : (Jvm.Cond.methodLink "java/util/Arrays" (304 : Nat) ({ cls := "java/lang/Math", name := "min", desc := "(II)I" } : Jvm.MethodName)).before a0 Z = true := hw _ (List.mem_of_getElem? (i := 89) rfl)
theorem ow4 {Z : State} {a0 : Array Value} (hw : ∀ d ∈ tables_1, d.before a0 Z = true) : (Jvm.Cond.code ({ cls := "java/lang/Math", name := "min", desc := "(II)I" } : Jvm.MethodName) jdk_29_method_69_code (2 : Nat) (Option.some Jvm.ClassFile.FieldType.int)).before a0 Z = true := hw _ (List.mem_of_getElem? (i := 4) rfl)
theorem ow2 {Z : State} {a0 : Array Value} (hw : ∀ d ∈ tables_1, d.before a0 Z = true) : (Jvm.Cond.static ({ cls := "java/lang/Math", name := "min", desc := "(II)I" } : Jvm.MethodName)).before a0 Z = true := hw _ (List.mem_of_getElem? (i := 2) rfl)
theorem ow90 {Z : State} {a0 : Array Value} (hw : ∀ d ∈ tables_1, d.before a0 Z = true) : (Jvm.Cond.methodLink "java/util/Arrays" (150 : Nat) ({ cls := "java/lang/System", name := "arraycopy", desc := "(Ljava/lang/Object;ILjava/lang/Object;II)V" } : Jvm.MethodName)).before a0 Z = true := hw _ (List.mem_of_getElem? (i := 90) rfl)
theorem ow93 {Z : State} {a0 : Array Value} (hw : ∀ d ∈ tables_1, d.before a0 Z = true) : (Jvm.Cond.native ({ cls := "java/lang/System", name := "arraycopy", desc := "(Ljava/lang/Object;ILjava/lang/Object;II)V" } : Jvm.MethodName)).before a0 Z = true := hw _ (List.mem_of_getElem? (i := 93) rfl)
theorem ow91 {Z : State} {a0 : Array Value} (hw : ∀ d ∈ tables_1, d.before a0 Z = true) : (Jvm.Cond.static ({ cls := "java/lang/System", name := "arraycopy", desc := "(Ljava/lang/Object;ILjava/lang/Object;II)V" } : Jvm.MethodName)).before a0 Z = true := hw _ (List.mem_of_getElem? (i := 91) rfl)
theorem ow92 {Z : State} {a0 : Array Value} (hw : ∀ d ∈ tables_1, d.before a0 Z = true) : (Jvm.Cond.initialized "java/lang/System").before a0 Z = true := hw _ (List.mem_of_getElem? (i := 92) rfl)
abbrev mn10 : MethodName := ⟨"java/util/Arrays", "copyOf", "([BI)[B"⟩
theorem ow88 {Z : State} {a0 : Array Value} (hw : ∀ d ∈ tables_1, d.before a0 Z = true) : (Jvm.Cond.code ({ cls := "java/util/Arrays", name := "copyOf", desc := "([BI)[B" } : Jvm.MethodName) jdk_65_method_121_code (3 : Nat) (Option.some (Jvm.ClassFile.FieldType.array Jvm.ClassFile.FieldType.byte))).before a0 Z = true := hw _ (List.mem_of_getElem? (i := 88) rfl)
theorem ow87 {Z : State} {a0 : Array Value} (hw : ∀ d ∈ tables_1, d.before a0 Z = true) : (Jvm.Cond.initialized "java/util/Arrays").before a0 Z = true := hw _ (List.mem_of_getElem? (i := 87) rfl)
theorem ow86 {Z : State} {a0 : Array Value} (hw : ∀ d ∈ tables_1, d.before a0 Z = true) : (Jvm.Cond.static ({ cls := "java/util/Arrays", name := "copyOf", desc := "([BI)[B" } : Jvm.MethodName)).before a0 Z = true := hw _ (List.mem_of_getElem? (i := 86) rfl)
abbrev mn11 : MethodName := ⟨"java/lang/AbstractStringBuilder", "ensureCapacityInternal", "(I)V"⟩
theorem ow72 {Z : State} {a0 : Array Value} (hw : ∀ d ∈ tables_1, d.before a0 Z = true) : (Jvm.Cond.code ({ cls := "java/lang/AbstractStringBuilder", name := "ensureCapacityInternal", desc := "(I)V" } : Jvm.MethodName) jdk_68_method_9_code (3 : Nat) (Option.none : Option Jvm.ClassFile.FieldType)).before a0 Z = true := hw _ (List.mem_of_getElem? (i := 72) rfl)
theorem ow69 {Z : State} {a0 : Array Value} (hw : ∀ d ∈ tables_1, d.before a0 Z = true) : (Jvm.Cond.instanceMethod ({ cls := "java/lang/AbstractStringBuilder", name := "ensureCapacityInternal", desc := "(I)V" } : Jvm.MethodName)).before a0 Z = true := hw _ (List.mem_of_getElem? (i := 69) rfl)
theorem ow71 {Z : State} {a0 : Array Value} (hw : ∀ d ∈ tables_1, d.before a0 Z = true) : (Jvm.Cond.selects "java/lang/StringBuilder" ({ cls := "java/lang/AbstractStringBuilder", name := "ensureCapacityInternal", desc := "(I)V" } : Jvm.MethodName) ({ cls := "java/lang/AbstractStringBuilder", name := "ensureCapacityInternal", desc := "(I)V" } : Jvm.MethodName)).before a0 Z = true := hw _ (List.mem_of_getElem? (i := 71) rfl)
theorem ow70 {Z : State} {a0 : Array Value} (hw : ∀ d ∈ tables_1, d.before a0 Z = true) : (Jvm.Cond.privateMethod ({ cls := "java/lang/AbstractStringBuilder", name := "ensureCapacityInternal", desc := "(I)V" } : Jvm.MethodName)).before a0 Z = true := hw _ (List.mem_of_getElem? (i := 70) rfl)
theorem ow94 {Z : State} {a0 : Array Value} (hw : ∀ d ∈ tables_1, d.before a0 Z = true) : (Jvm.Cond.methodLink "java/lang/AbstractStringBuilder" (208 : Nat) ({ cls := "java/lang/AbstractStringBuilder", name := "putStringAt", desc := "(ILjava/lang/String;)V" } : Jvm.MethodName)).before a0 Z = true := hw _ (List.mem_of_getElem? (i := 94) rfl)
theorem ow99 {Z : State} {a0 : Array Value} (hw : ∀ d ∈ tables_1, d.before a0 Z = true) : (Jvm.Cond.methodLink "java/lang/AbstractStringBuilder" (397 : Nat) ({ cls := "java/lang/AbstractStringBuilder", name := "inflateIfNeededFor", desc := "(Ljava/lang/String;)V" } : Jvm.MethodName)).before a0 Z = true := hw _ (List.mem_of_getElem? (i := 99) rfl)
theorem ow104 {Z : State} {a0 : Array Value} (hw : ∀ d ∈ tables_1, d.before a0 Z = true) : (Jvm.Cond.methodLink "java/lang/AbstractStringBuilder" (40 : Nat) ({ cls := "java/lang/String", name := "coder", desc := "()B" } : Jvm.MethodName)).before a0 Z = true := hw _ (List.mem_of_getElem? (i := 104) rfl)
abbrev mn12 : MethodName := ⟨"java/lang/AbstractStringBuilder", "inflateIfNeededFor", "(Ljava/lang/String;)V"⟩
theorem ow103 {Z : State} {a0 : Array Value} (hw : ∀ d ∈ tables_1, d.before a0 Z = true) : (Jvm.Cond.code ({ cls := "java/lang/AbstractStringBuilder", name := "inflateIfNeededFor", desc := "(Ljava/lang/String;)V" } : Jvm.MethodName) jdk_68_method_71_code (2 : Nat) (Option.none : Option Jvm.ClassFile.FieldType)).before a0 Z = true := hw _ (List.mem_of_getElem? (i := 103) rfl)
theorem ow100 {Z : State} {a0 : Array Value} (hw : ∀ d ∈ tables_1, d.before a0 Z = true) : (Jvm.Cond.instanceMethod ({ cls := "java/lang/AbstractStringBuilder", name := "inflateIfNeededFor", desc := "(Ljava/lang/String;)V" } : Jvm.MethodName)).before a0 Z = true := hw _ (List.mem_of_getElem? (i := 100) rfl)
theorem ow102 {Z : State} {a0 : Array Value} (hw : ∀ d ∈ tables_1, d.before a0 Z = true) : (Jvm.Cond.selects "java/lang/StringBuilder" ({ cls := "java/lang/AbstractStringBuilder", name := "inflateIfNeededFor", desc := "(Ljava/lang/String;)V" } : Jvm.MethodName) ({ cls := "java/lang/AbstractStringBuilder", name := "inflateIfNeededFor", desc := "(Ljava/lang/String;)V" } : Jvm.MethodName)).before a0 Z = true := hw _ (List.mem_of_getElem? (i := 102) rfl)
theorem ow101 {Z : State} {a0 : Array Value} (hw : ∀ d ∈ tables_1, d.before a0 Z = true) : (Jvm.Cond.privateMethod ({ cls := "java/lang/AbstractStringBuilder", name := "inflateIfNeededFor", desc := "(Ljava/lang/String;)V" } : Jvm.MethodName)).before a0 Z = true := hw _ (List.mem_of_getElem? (i := 101) rfl)
theorem ow105 {Z : State} {a0 : Array Value} (hw : ∀ d ∈ tables_1, d.before a0 Z = true) : (Jvm.Cond.methodLink "java/lang/AbstractStringBuilder" (399 : Nat) ({ cls := "java/lang/String", name := "getBytes", desc := "([BIB)V" } : Jvm.MethodName)).before a0 Z = true := hw _ (List.mem_of_getElem? (i := 105) rfl)
theorem ow110 {Z : State} {a0 : Array Value} (hw : ∀ d ∈ tables_1, d.before a0 Z = true) : (Jvm.Cond.methodLink "java/lang/String" (212 : Nat) ({ cls := "java/lang/System", name := "arraycopy", desc := "(Ljava/lang/Object;ILjava/lang/Object;II)V" } : Jvm.MethodName)).before a0 Z = true := hw _ (List.mem_of_getElem? (i := 110) rfl)
def own_ls3 : List Value := [(.int (101 : Int32)), (.int (120 : Int32)), (.int (112 : Int32)), (.int (101 : Int32)), (.int (99 : Int32)), (.int (116 : Int32)), (.int (101 : Int32)), (.int (100 : Int32)), (.int (32 : Int32)), (.int (98 : Int32)), (.int (101 : Int32)), (.int (116 : Int32)), (.int (119 : Int32)), (.int (101 : Int32)), (.int (101 : Int32)), (.int (110 : Int32)), (.int (32 : Int32)), (.int (0 : Int32)), (.int (0 : Int32)), (.int (0 : Int32)), (.int (0 : Int32)), (.int (0 : Int32)), (.int (0 : Int32)), (.int (0 : Int32)), (.int (0 : Int32)), (.int (0 : Int32)), (.int (0 : Int32)), (.int (0 : Int32)), (.int (0 : Int32)), (.int (0 : Int32)), (.int (0 : Int32)), (.int (0 : Int32)), (.int (0 : Int32)), (.int (0 : Int32))]
abbrev mn13 : MethodName := ⟨"java/lang/String", "getBytes", "([BIB)V"⟩
theorem ow109 {Z : State} {a0 : Array Value} (hw : ∀ d ∈ tables_1, d.before a0 Z = true) : (Jvm.Cond.code ({ cls := "java/lang/String", name := "getBytes", desc := "([BIB)V" } : Jvm.MethodName) jdk_42_method_147_code (4 : Nat) (Option.none : Option Jvm.ClassFile.FieldType)).before a0 Z = true := hw _ (List.mem_of_getElem? (i := 109) rfl)
theorem ow108 {Z : State} {a0 : Array Value} (hw : ∀ d ∈ tables_1, d.before a0 Z = true) : (Jvm.Cond.selects "java/lang/String" ({ cls := "java/lang/String", name := "getBytes", desc := "([BIB)V" } : Jvm.MethodName) ({ cls := "java/lang/String", name := "getBytes", desc := "([BIB)V" } : Jvm.MethodName)).before a0 Z = true := hw _ (List.mem_of_getElem? (i := 108) rfl)
theorem ow106 {Z : State} {a0 : Array Value} (hw : ∀ d ∈ tables_1, d.before a0 Z = true) : (Jvm.Cond.declares ({ cls := "java/lang/String", name := "getBytes", desc := "([BIB)V" } : Jvm.MethodName)).before a0 Z = true := hw _ (List.mem_of_getElem? (i := 106) rfl)
theorem ow107 {Z : State} {a0 : Array Value} (hw : ∀ d ∈ tables_1, d.before a0 Z = true) : (Jvm.Cond.instanceMethod ({ cls := "java/lang/String", name := "getBytes", desc := "([BIB)V" } : Jvm.MethodName)).before a0 Z = true := hw _ (List.mem_of_getElem? (i := 107) rfl)
abbrev mn14 : MethodName := ⟨"java/lang/AbstractStringBuilder", "putStringAt", "(ILjava/lang/String;)V"⟩
theorem ow98 {Z : State} {a0 : Array Value} (hw : ∀ d ∈ tables_1, d.before a0 Z = true) : (Jvm.Cond.code ({ cls := "java/lang/AbstractStringBuilder", name := "putStringAt", desc := "(ILjava/lang/String;)V" } : Jvm.MethodName) jdk_68_method_73_code (3 : Nat) (Option.none : Option Jvm.ClassFile.FieldType)).before a0 Z = true := hw _ (List.mem_of_getElem? (i := 98) rfl)
theorem ow95 {Z : State} {a0 : Array Value} (hw : ∀ d ∈ tables_1, d.before a0 Z = true) : (Jvm.Cond.instanceMethod ({ cls := "java/lang/AbstractStringBuilder", name := "putStringAt", desc := "(ILjava/lang/String;)V" } : Jvm.MethodName)).before a0 Z = true := hw _ (List.mem_of_getElem? (i := 95) rfl)
theorem ow97 {Z : State} {a0 : Array Value} (hw : ∀ d ∈ tables_1, d.before a0 Z = true) : (Jvm.Cond.selects "java/lang/StringBuilder" ({ cls := "java/lang/AbstractStringBuilder", name := "putStringAt", desc := "(ILjava/lang/String;)V" } : Jvm.MethodName) ({ cls := "java/lang/AbstractStringBuilder", name := "putStringAt", desc := "(ILjava/lang/String;)V" } : Jvm.MethodName)).before a0 Z = true := hw _ (List.mem_of_getElem? (i := 97) rfl)
theorem ow96 {Z : State} {a0 : Array Value} (hw : ∀ d ∈ tables_1, d.before a0 Z = true) : (Jvm.Cond.privateMethod ({ cls := "java/lang/AbstractStringBuilder", name := "putStringAt", desc := "(ILjava/lang/String;)V" } : Jvm.MethodName)).before a0 Z = true := hw _ (List.mem_of_getElem? (i := 96) rfl)
abbrev mn15 : MethodName := ⟨"java/lang/AbstractStringBuilder", "append", "(Ljava/lang/String;)Ljava/lang/AbstractStringBuilder;"⟩
theorem ow52 {Z : State} {a0 : Array Value} (hw : ∀ d ∈ tables_1, d.before a0 Z = true) : (Jvm.Cond.code ({ cls := "java/lang/AbstractStringBuilder", name := "append", desc := "(Ljava/lang/String;)Ljava/lang/AbstractStringBuilder;" } : Jvm.MethodName) jdk_68_method_22_code (3 : Nat) (Option.some (Jvm.ClassFile.FieldType.object "java/lang/AbstractStringBuilder"))).before a0 Z = true := hw _ (List.mem_of_getElem? (i := 52) rfl)
theorem ow49 {Z : State} {a0 : Array Value} (hw : ∀ d ∈ tables_1, d.before a0 Z = true) : (Jvm.Cond.instanceMethod ({ cls := "java/lang/AbstractStringBuilder", name := "append", desc := "(Ljava/lang/String;)Ljava/lang/AbstractStringBuilder;" } : Jvm.MethodName)).before a0 Z = true := hw _ (List.mem_of_getElem? (i := 49) rfl)
theorem ow50 {Z : State} {a0 : Array Value} (hw : ∀ d ∈ tables_1, d.before a0 Z = true) : (Jvm.Cond.superclass "java/lang/StringBuilder" "java/lang/AbstractStringBuilder").before a0 Z = true := hw _ (List.mem_of_getElem? (i := 50) rfl)
abbrev mn16 : MethodName := ⟨"java/lang/StringBuilder", "append", "(Ljava/lang/String;)Ljava/lang/StringBuilder;"⟩
theorem ow47 {Z : State} {a0 : Array Value} (hw : ∀ d ∈ tables_1, d.before a0 Z = true) : (Jvm.Cond.code ({ cls := "java/lang/StringBuilder", name := "append", desc := "(Ljava/lang/String;)Ljava/lang/StringBuilder;" } : Jvm.MethodName) jdk_67_method_7_code (2 : Nat) (Option.some (Jvm.ClassFile.FieldType.object "java/lang/StringBuilder"))).before a0 Z = true := hw _ (List.mem_of_getElem? (i := 47) rfl)
theorem ow46 {Z : State} {a0 : Array Value} (hw : ∀ d ∈ tables_1, d.before a0 Z = true) : (Jvm.Cond.selects "java/lang/StringBuilder" ({ cls := "java/lang/StringBuilder", name := "append", desc := "(Ljava/lang/String;)Ljava/lang/StringBuilder;" } : Jvm.MethodName) ({ cls := "java/lang/StringBuilder", name := "append", desc := "(Ljava/lang/String;)Ljava/lang/StringBuilder;" } : Jvm.MethodName)).before a0 Z = true := hw _ (List.mem_of_getElem? (i := 46) rfl)
theorem ow44 {Z : State} {a0 : Array Value} (hw : ∀ d ∈ tables_1, d.before a0 Z = true) : (Jvm.Cond.declares ({ cls := "java/lang/StringBuilder", name := "append", desc := "(Ljava/lang/String;)Ljava/lang/StringBuilder;" } : Jvm.MethodName)).before a0 Z = true := hw _ (List.mem_of_getElem? (i := 44) rfl)
theorem ow45 {Z : State} {a0 : Array Value} (hw : ∀ d ∈ tables_1, d.before a0 Z = true) : (Jvm.Cond.instanceMethod ({ cls := "java/lang/StringBuilder", name := "append", desc := "(Ljava/lang/String;)Ljava/lang/StringBuilder;" } : Jvm.MethodName)).before a0 Z = true := hw _ (List.mem_of_getElem? (i := 45) rfl)
theorem ow111 {Z : State} {a0 : Array Value} (hw : ∀ d ∈ tables_1, d.before a0 Z = true) : (Jvm.Cond.methodLink "com/example/tally_of_calls/tallyofcalls/Counts" (22 : Nat) ({ cls := "java/lang/StringBuilder", name := "append", desc := "(I)Ljava/lang/StringBuilder;" } : Jvm.MethodName)).before a0 Z = true := hw _ (List.mem_of_getElem? (i := 111) rfl)
theorem ow116 {Z : State} {a0 : Array Value} (hw : ∀ d ∈ tables_1, d.before a0 Z = true) : (Jvm.Cond.methodLink "java/lang/StringBuilder" (53 : Nat) ({ cls := "java/lang/AbstractStringBuilder", name := "append", desc := "(I)Ljava/lang/AbstractStringBuilder;" } : Jvm.MethodName)).before a0 Z = true := hw _ (List.mem_of_getElem? (i := 116) rfl)
theorem ow120 {Z : State} {a0 : Array Value} (hw : ∀ d ∈ tables_1, d.before a0 Z = true) : (Jvm.Cond.methodLink "java/lang/AbstractStringBuilder" (245 : Nat) ({ cls := "java/lang/Integer", name := "stringSize", desc := "(I)I" } : Jvm.MethodName)).before a0 Z = true := hw _ (List.mem_of_getElem? (i := 120) rfl)
theorem ow123 {Z : State} {a0 : Array Value} (hw : ∀ d ∈ tables_1, d.before a0 Z = true) : (Jvm.Cond.code ({ cls := "java/lang/Integer", name := "stringSize", desc := "(I)I" } : Jvm.MethodName) jdk_33_method_13_code (4 : Nat) (Option.some Jvm.ClassFile.FieldType.int)).before a0 Z = true := hw _ (List.mem_of_getElem? (i := 123) rfl)
theorem ow121 {Z : State} {a0 : Array Value} (hw : ∀ d ∈ tables_1, d.before a0 Z = true) : (Jvm.Cond.static ({ cls := "java/lang/Integer", name := "stringSize", desc := "(I)I" } : Jvm.MethodName)).before a0 Z = true := hw _ (List.mem_of_getElem? (i := 121) rfl)
theorem ow124 {Z : State} {a0 : Array Value} (hw : ∀ d ∈ tables_1, d.before a0 Z = true) : (Jvm.Cond.methodLink "java/lang/AbstractStringBuilder" (83 : Nat) ({ cls := "java/lang/AbstractStringBuilder", name := "isLatin1", desc := "()Z" } : Jvm.MethodName)).before a0 Z = true := hw _ (List.mem_of_getElem? (i := 124) rfl)
abbrev mn17 : MethodName := ⟨"java/lang/AbstractStringBuilder", "isLatin1", "()Z"⟩
theorem ow128 {Z : State} {a0 : Array Value} (hw : ∀ d ∈ tables_1, d.before a0 Z = true) : (Jvm.Cond.code ({ cls := "java/lang/AbstractStringBuilder", name := "isLatin1", desc := "()Z" } : Jvm.MethodName) jdk_68_method_68_code (1 : Nat) (Option.some Jvm.ClassFile.FieldType.boolean)).before a0 Z = true := hw _ (List.mem_of_getElem? (i := 128) rfl)
theorem ow127 {Z : State} {a0 : Array Value} (hw : ∀ d ∈ tables_1, d.before a0 Z = true) : (Jvm.Cond.selects "java/lang/StringBuilder" ({ cls := "java/lang/AbstractStringBuilder", name := "isLatin1", desc := "()Z" } : Jvm.MethodName) ({ cls := "java/lang/AbstractStringBuilder", name := "isLatin1", desc := "()Z" } : Jvm.MethodName)).before a0 Z = true := hw _ (List.mem_of_getElem? (i := 127) rfl)
theorem ow125 {Z : State} {a0 : Array Value} (hw : ∀ d ∈ tables_1, d.before a0 Z = true) : (Jvm.Cond.declares ({ cls := "java/lang/AbstractStringBuilder", name := "isLatin1", desc := "()Z" } : Jvm.MethodName)).before a0 Z = true := hw _ (List.mem_of_getElem? (i := 125) rfl)
theorem ow126 {Z : State} {a0 : Array Value} (hw : ∀ d ∈ tables_1, d.before a0 Z = true) : (Jvm.Cond.instanceMethod ({ cls := "java/lang/AbstractStringBuilder", name := "isLatin1", desc := "()Z" } : Jvm.MethodName)).before a0 Z = true := hw _ (List.mem_of_getElem? (i := 126) rfl)
theorem ow129 {Z : State} {a0 : Array Value} (hw : ∀ d ∈ tables_1, d.before a0 Z = true) : (Jvm.Cond.methodLink "java/lang/AbstractStringBuilder" (248 : Nat) ({ cls := "java/lang/Integer", name := "getChars", desc := "(II[B)I" } : Jvm.MethodName)).before a0 Z = true := hw _ (List.mem_of_getElem? (i := 129) rfl)
abbrev mn18 : MethodName := ⟨"java/lang/Integer", "getChars", "(II[B)I"⟩
theorem ow130 {Z : State} {a0 : Array Value} (hw : ∀ d ∈ tables_1, d.before a0 Z = true) : (Jvm.Cond.static ({ cls := "java/lang/Integer", name := "getChars", desc := "(II[B)I" } : Jvm.MethodName)).before a0 Z = true := hw _ (List.mem_of_getElem? (i := 130) rfl)
abbrev mn19 : MethodName := ⟨"java/lang/AbstractStringBuilder", "append", "(I)Ljava/lang/AbstractStringBuilder;"⟩
theorem ow119 {Z : State} {a0 : Array Value} (hw : ∀ d ∈ tables_1, d.before a0 Z = true) : (Jvm.Cond.code ({ cls := "java/lang/AbstractStringBuilder", name := "append", desc := "(I)Ljava/lang/AbstractStringBuilder;" } : Jvm.MethodName) jdk_68_method_32_code (4 : Nat) (Option.some (Jvm.ClassFile.FieldType.object "java/lang/AbstractStringBuilder"))).before a0 Z = true := hw _ (List.mem_of_getElem? (i := 119) rfl)
theorem ow117 {Z : State} {a0 : Array Value} (hw : ∀ d ∈ tables_1, d.before a0 Z = true) : (Jvm.Cond.instanceMethod ({ cls := "java/lang/AbstractStringBuilder", name := "append", desc := "(I)Ljava/lang/AbstractStringBuilder;" } : Jvm.MethodName)).before a0 Z = true := hw _ (List.mem_of_getElem? (i := 117) rfl)
abbrev mn20 : MethodName := ⟨"java/lang/StringBuilder", "append", "(I)Ljava/lang/StringBuilder;"⟩
theorem ow115 {Z : State} {a0 : Array Value} (hw : ∀ d ∈ tables_1, d.before a0 Z = true) : (Jvm.Cond.code ({ cls := "java/lang/StringBuilder", name := "append", desc := "(I)Ljava/lang/StringBuilder;" } : Jvm.MethodName) jdk_67_method_15_code (2 : Nat) (Option.some (Jvm.ClassFile.FieldType.object "java/lang/StringBuilder"))).before a0 Z = true := hw _ (List.mem_of_getElem? (i := 115) rfl)
theorem ow114 {Z : State} {a0 : Array Value} (hw : ∀ d ∈ tables_1, d.before a0 Z = true) : (Jvm.Cond.selects "java/lang/StringBuilder" ({ cls := "java/lang/StringBuilder", name := "append", desc := "(I)Ljava/lang/StringBuilder;" } : Jvm.MethodName) ({ cls := "java/lang/StringBuilder", name := "append", desc := "(I)Ljava/lang/StringBuilder;" } : Jvm.MethodName)).before a0 Z = true := hw _ (List.mem_of_getElem? (i := 114) rfl)
theorem ow112 {Z : State} {a0 : Array Value} (hw : ∀ d ∈ tables_1, d.before a0 Z = true) : (Jvm.Cond.declares ({ cls := "java/lang/StringBuilder", name := "append", desc := "(I)Ljava/lang/StringBuilder;" } : Jvm.MethodName)).before a0 Z = true := hw _ (List.mem_of_getElem? (i := 112) rfl)
theorem ow113 {Z : State} {a0 : Array Value} (hw : ∀ d ∈ tables_1, d.before a0 Z = true) : (Jvm.Cond.instanceMethod ({ cls := "java/lang/StringBuilder", name := "append", desc := "(I)Ljava/lang/StringBuilder;" } : Jvm.MethodName)).before a0 Z = true := hw _ (List.mem_of_getElem? (i := 113) rfl)
theorem ow133 {Z : State} {a0 : Array Value} (hw : ∀ d ∈ tables_1, d.before a0 Z = true) : (Jvm.Cond.stringLink "com/example/tally_of_calls/tallyofcalls/Counts" (67 : Nat) " and ").before a0 Z = true := hw _ (List.mem_of_getElem? (i := 133) rfl)
def own_lit1 : List Value := [(.int (32 : Int32)), (.int (97 : Int32)), (.int (110 : Int32)), (.int (100 : Int32)), (.int (32 : Int32))]
theorem own_lit1_ok : (∀ c ∈ " and ".toList, c.toNat < 256) ∧ " and ".toList.map (fun c => Value.int (Jvm.Lit.byteI c.toNat.toUInt16)) = own_lit1 := ⟨by decide +kernel, by decide +kernel⟩
theorem own_lit1_len : (5 : Int32).toNatClampNeg = own_lit1.length := by decide +kernel
def own_ls4 : List Value := [(.int (32 : Int32)), (.int (97 : Int32)), (.int (110 : Int32)), (.int (100 : Int32)), (.int (32 : Int32))]
theorem ow134 {Z : State} {a0 : Array Value} (hw : ∀ d ∈ tables_1, d.before a0 Z = true) : (Jvm.Cond.methodLink "com/example/tally_of_calls/tallyofcalls/Counts" (27 : Nat) ({ cls := "java/lang/StringBuilder", name := "toString", desc := "()Ljava/lang/String;" } : Jvm.MethodName)).before a0 Z = true := hw _ (List.mem_of_getElem? (i := 134) rfl)
theorem ow139 {Z : State} {a0 : Array Value} (hw : ∀ d ∈ tables_1, d.before a0 Z = true) : (Jvm.Cond.classLink "java/lang/StringBuilder" (18 : Nat) "java/lang/String").before a0 Z = true := hw _ (List.mem_of_getElem? (i := 139) rfl)
theorem ow38 {Z : State} {a0 : Array Value} (hw : ∀ d ∈ tables_1, d.before a0 Z = true) : (Jvm.Cond.instantiable "java/lang/String" (4 : Nat)).before a0 Z = true := hw _ (List.mem_of_getElem? (i := 38) rfl)
theorem ow39 {Z : State} {a0 : Array Value} (hw : ∀ d ∈ tables_1, d.before a0 Z = true) : (Jvm.Cond.laysFinal "java/lang/String" "java/lang/String" "value" "[B").before a0 Z = true := hw _ (List.mem_of_getElem? (i := 39) rfl)
theorem ow40 {Z : State} {a0 : Array Value} (hw : ∀ d ∈ tables_1, d.before a0 Z = true) : (Jvm.Cond.laysFinal "java/lang/String" "java/lang/String" "coder" "B").before a0 Z = true := hw _ (List.mem_of_getElem? (i := 40) rfl)
theorem ow140 {Z : State} {a0 : Array Value} (hw : ∀ d ∈ tables_1, d.before a0 Z = true) : (Jvm.Cond.methodLink "java/lang/StringBuilder" (137 : Nat) ({ cls := "java/lang/String", name := "<init>", desc := "(Ljava/lang/StringBuilder;)V" } : Jvm.MethodName)).before a0 Z = true := hw _ (List.mem_of_getElem? (i := 140) rfl)
theorem ow144 {Z : State} {a0 : Array Value} (hw : ∀ d ∈ tables_1, d.before a0 Z = true) : (Jvm.Cond.methodLink "java/lang/String" (489 : Nat) ({ cls := "java/lang/String", name := "<init>", desc := "(Ljava/lang/AbstractStringBuilder;Ljava/lang/Void;)V" } : Jvm.MethodName)).before a0 Z = true := hw _ (List.mem_of_getElem? (i := 144) rfl)
theorem ow147 {Z : State} {a0 : Array Value} (hw : ∀ d ∈ tables_1, d.before a0 Z = true) : (Jvm.Cond.methodLink "java/lang/String" (1 : Nat) ({ cls := "java/lang/Object", name := "<init>", desc := "()V" } : Jvm.MethodName)).before a0 Z = true := hw _ (List.mem_of_getElem? (i := 147) rfl)
theorem ow148 {Z : State} {a0 : Array Value} (hw : ∀ d ∈ tables_1, d.before a0 Z = true) : (Jvm.Cond.methodLink "java/lang/String" (552 : Nat) ({ cls := "java/lang/AbstractStringBuilder", name := "getValue", desc := "()[B" } : Jvm.MethodName)).before a0 Z = true := hw _ (List.mem_of_getElem? (i := 148) rfl)
abbrev mn21 : MethodName := ⟨"java/lang/AbstractStringBuilder", "getValue", "()[B"⟩
theorem ow152 {Z : State} {a0 : Array Value} (hw : ∀ d ∈ tables_1, d.before a0 Z = true) : (Jvm.Cond.code ({ cls := "java/lang/AbstractStringBuilder", name := "getValue", desc := "()[B" } : Jvm.MethodName) jdk_68_method_64_code (1 : Nat) (Option.some (Jvm.ClassFile.FieldType.array Jvm.ClassFile.FieldType.byte))).before a0 Z = true := hw _ (List.mem_of_getElem? (i := 152) rfl)
theorem ow151 {Z : State} {a0 : Array Value} (hw : ∀ d ∈ tables_1, d.before a0 Z = true) : (Jvm.Cond.selects "java/lang/StringBuilder" ({ cls := "java/lang/AbstractStringBuilder", name := "getValue", desc := "()[B" } : Jvm.MethodName) ({ cls := "java/lang/AbstractStringBuilder", name := "getValue", desc := "()[B" } : Jvm.MethodName)).before a0 Z = true := hw _ (List.mem_of_getElem? (i := 151) rfl)
theorem ow149 {Z : State} {a0 : Array Value} (hw : ∀ d ∈ tables_1, d.before a0 Z = true) : (Jvm.Cond.declares ({ cls := "java/lang/AbstractStringBuilder", name := "getValue", desc := "()[B" } : Jvm.MethodName)).before a0 Z = true := hw _ (List.mem_of_getElem? (i := 149) rfl)
theorem ow150 {Z : State} {a0 : Array Value} (hw : ∀ d ∈ tables_1, d.before a0 Z = true) : (Jvm.Cond.instanceMethod ({ cls := "java/lang/AbstractStringBuilder", name := "getValue", desc := "()[B" } : Jvm.MethodName)).before a0 Z = true := hw _ (List.mem_of_getElem? (i := 150) rfl)
theorem ow153 {Z : State} {a0 : Array Value} (hw : ∀ d ∈ tables_1, d.before a0 Z = true) : (Jvm.Cond.methodLink "java/lang/String" (549 : Nat) ({ cls := "java/lang/AbstractStringBuilder", name := "length", desc := "()I" } : Jvm.MethodName)).before a0 Z = true := hw _ (List.mem_of_getElem? (i := 153) rfl)
theorem ow159 {Z : State} {a0 : Array Value} (hw : ∀ d ∈ tables_1, d.before a0 Z = true) : (Jvm.Cond.methodLink "java/lang/StringBuilder" (343 : Nat) ({ cls := "java/lang/AbstractStringBuilder", name := "length", desc := "()I" } : Jvm.MethodName)).before a0 Z = true := hw _ (List.mem_of_getElem? (i := 159) rfl)
abbrev mn22 : MethodName := ⟨"java/lang/AbstractStringBuilder", "length", "()I"⟩
theorem ow160 {Z : State} {a0 : Array Value} (hw : ∀ d ∈ tables_1, d.before a0 Z = true) : (Jvm.Cond.code ({ cls := "java/lang/AbstractStringBuilder", name := "length", desc := "()I" } : Jvm.MethodName) jdk_68_method_6_code (1 : Nat) (Option.some Jvm.ClassFile.FieldType.int)).before a0 Z = true := hw _ (List.mem_of_getElem? (i := 160) rfl)
theorem ow155 {Z : State} {a0 : Array Value} (hw : ∀ d ∈ tables_1, d.before a0 Z = true) : (Jvm.Cond.instanceMethod ({ cls := "java/lang/AbstractStringBuilder", name := "length", desc := "()I" } : Jvm.MethodName)).before a0 Z = true := hw _ (List.mem_of_getElem? (i := 155) rfl)
abbrev mn23 : MethodName := ⟨"java/lang/StringBuilder", "length", "()I"⟩
theorem ow158 {Z : State} {a0 : Array Value} (hw : ∀ d ∈ tables_1, d.before a0 Z = true) : (Jvm.Cond.code ({ cls := "java/lang/StringBuilder", name := "length", desc := "()I" } : Jvm.MethodName) jdk_67_method_93_code (1 : Nat) (Option.some Jvm.ClassFile.FieldType.int)).before a0 Z = true := hw _ (List.mem_of_getElem? (i := 158) rfl)
theorem ow156 {Z : State} {a0 : Array Value} (hw : ∀ d ∈ tables_1, d.before a0 Z = true) : (Jvm.Cond.selects "java/lang/StringBuilder" ({ cls := "java/lang/AbstractStringBuilder", name := "length", desc := "()I" } : Jvm.MethodName) ({ cls := "java/lang/StringBuilder", name := "length", desc := "()I" } : Jvm.MethodName)).before a0 Z = true := hw _ (List.mem_of_getElem? (i := 156) rfl)
theorem ow154 {Z : State} {a0 : Array Value} (hw : ∀ d ∈ tables_1, d.before a0 Z = true) : (Jvm.Cond.declares ({ cls := "java/lang/AbstractStringBuilder", name := "length", desc := "()I" } : Jvm.MethodName)).before a0 Z = true := hw _ (List.mem_of_getElem? (i := 154) rfl)
theorem ow157 {Z : State} {a0 : Array Value} (hw : ∀ d ∈ tables_1, d.before a0 Z = true) : (Jvm.Cond.instanceMethod ({ cls := "java/lang/StringBuilder", name := "length", desc := "()I" } : Jvm.MethodName)).before a0 Z = true := hw _ (List.mem_of_getElem? (i := 157) rfl)
theorem ow161 {Z : State} {a0 : Array Value} (hw : ∀ d ∈ tables_1, d.before a0 Z = true) : (Jvm.Cond.methodLink "java/lang/String" (1047 : Nat) ({ cls := "java/lang/AbstractStringBuilder", name := "isLatin1", desc := "()Z" } : Jvm.MethodName)).before a0 Z = true := hw _ (List.mem_of_getElem? (i := 161) rfl)
theorem ow162 {Z : State} {a0 : Array Value} (hw : ∀ d ∈ tables_1, d.before a0 Z = true) : (Jvm.Cond.methodLink "java/lang/String" (54 : Nat) ({ cls := "java/util/Arrays", name := "copyOfRange", desc := "([BII)[B" } : Jvm.MethodName)).before a0 Z = true := hw _ (List.mem_of_getElem? (i := 162) rfl)
theorem ow165 {Z : State} {a0 : Array Value} (hw : ∀ d ∈ tables_1, d.before a0 Z = true) : (Jvm.Cond.methodLink "java/util/Arrays" (339 : Nat) ({ cls := "java/util/Arrays", name := "copyOfRangeByte", desc := "([BII)[B" } : Jvm.MethodName)).before a0 Z = true := hw _ (List.mem_of_getElem? (i := 165) rfl)
theorem ow168 {Z : State} {a0 : Array Value} (hw : ∀ d ∈ tables_1, d.before a0 Z = true) : (Jvm.Cond.methodLink "java/util/Arrays" (343 : Nat) ({ cls := "java/util/Arrays", name := "checkLength", desc := "(II)V" } : Jvm.MethodName)).before a0 Z = true := hw _ (List.mem_of_getElem? (i := 168) rfl)
abbrev mn24 : MethodName := ⟨"java/util/Arrays", "checkLength", "(II)V"⟩
theorem ow170 {Z : State} {a0 : Array Value} (hw : ∀ d ∈ tables_1, d.before a0 Z = true) : (Jvm.Cond.code ({ cls := "java/util/Arrays", name := "checkLength", desc := "(II)V" } : Jvm.MethodName) jdk_65_method_131_code (2 : Nat) (Option.none : Option Jvm.ClassFile.FieldType)).before a0 Z = true := hw _ (List.mem_of_getElem? (i := 170) rfl)
theorem ow169 {Z : State} {a0 : Array Value} (hw : ∀ d ∈ tables_1, d.before a0 Z = true) : (Jvm.Cond.static ({ cls := "java/util/Arrays", name := "checkLength", desc := "(II)V" } : Jvm.MethodName)).before a0 Z = true := hw _ (List.mem_of_getElem? (i := 169) rfl)
abbrev mn25 : MethodName := ⟨"java/util/Arrays", "copyOfRangeByte", "([BII)[B"⟩
theorem ow167 {Z : State} {a0 : Array Value} (hw : ∀ d ∈ tables_1, d.before a0 Z = true) : (Jvm.Cond.code ({ cls := "java/util/Arrays", name := "copyOfRangeByte", desc := "([BII)[B" } : Jvm.MethodName) jdk_65_method_133_code (5 : Nat) (Option.some (Jvm.ClassFile.FieldType.array Jvm.ClassFile.FieldType.byte))).before a0 Z = true := hw _ (List.mem_of_getElem? (i := 167) rfl)
theorem ow166 {Z : State} {a0 : Array Value} (hw : ∀ d ∈ tables_1, d.before a0 Z = true) : (Jvm.Cond.static ({ cls := "java/util/Arrays", name := "copyOfRangeByte", desc := "([BII)[B" } : Jvm.MethodName)).before a0 Z = true := hw _ (List.mem_of_getElem? (i := 166) rfl)
abbrev mn26 : MethodName := ⟨"java/util/Arrays", "copyOfRange", "([BII)[B"⟩
theorem ow164 {Z : State} {a0 : Array Value} (hw : ∀ d ∈ tables_1, d.before a0 Z = true) : (Jvm.Cond.code ({ cls := "java/util/Arrays", name := "copyOfRange", desc := "([BII)[B" } : Jvm.MethodName) jdk_65_method_132_code (3 : Nat) (Option.some (Jvm.ClassFile.FieldType.array Jvm.ClassFile.FieldType.byte))).before a0 Z = true := hw _ (List.mem_of_getElem? (i := 164) rfl)
theorem ow163 {Z : State} {a0 : Array Value} (hw : ∀ d ∈ tables_1, d.before a0 Z = true) : (Jvm.Cond.static ({ cls := "java/util/Arrays", name := "copyOfRange", desc := "([BII)[B" } : Jvm.MethodName)).before a0 Z = true := hw _ (List.mem_of_getElem? (i := 163) rfl)
abbrev mn27 : MethodName := ⟨"java/lang/String", "<init>", "(Ljava/lang/AbstractStringBuilder;Ljava/lang/Void;)V"⟩
theorem ow146 {Z : State} {a0 : Array Value} (hw : ∀ d ∈ tables_1, d.before a0 Z = true) : (Jvm.Cond.code ({ cls := "java/lang/String", name := "<init>", desc := "(Ljava/lang/AbstractStringBuilder;Ljava/lang/Void;)V" } : Jvm.MethodName) jdk_42_method_150_code (5 : Nat) (Option.none : Option Jvm.ClassFile.FieldType)).before a0 Z = true := hw _ (List.mem_of_getElem? (i := 146) rfl)
theorem ow145 {Z : State} {a0 : Array Value} (hw : ∀ d ∈ tables_1, d.before a0 Z = true) : (Jvm.Cond.instanceMethod ({ cls := "java/lang/String", name := "<init>", desc := "(Ljava/lang/AbstractStringBuilder;Ljava/lang/Void;)V" } : Jvm.MethodName)).before a0 Z = true := hw _ (List.mem_of_getElem? (i := 145) rfl)
abbrev mn28 : MethodName := ⟨"java/lang/String", "<init>", "(Ljava/lang/StringBuilder;)V"⟩
theorem ow143 {Z : State} {a0 : Array Value} (hw : ∀ d ∈ tables_1, d.before a0 Z = true) : (Jvm.Cond.code ({ cls := "java/lang/String", name := "<init>", desc := "(Ljava/lang/StringBuilder;)V" } : Jvm.MethodName) jdk_42_method_53_code (2 : Nat) (Option.none : Option Jvm.ClassFile.FieldType)).before a0 Z = true := hw _ (List.mem_of_getElem? (i := 143) rfl)
theorem ow141 {Z : State} {a0 : Array Value} (hw : ∀ d ∈ tables_1, d.before a0 Z = true) : (Jvm.Cond.instanceMethod ({ cls := "java/lang/String", name := "<init>", desc := "(Ljava/lang/StringBuilder;)V" } : Jvm.MethodName)).before a0 Z = true := hw _ (List.mem_of_getElem? (i := 141) rfl)
abbrev mn29 : MethodName := ⟨"java/lang/StringBuilder", "toString", "()Ljava/lang/String;"⟩
theorem ow138 {Z : State} {a0 : Array Value} (hw : ∀ d ∈ tables_1, d.before a0 Z = true) : (Jvm.Cond.code ({ cls := "java/lang/StringBuilder", name := "toString", desc := "()Ljava/lang/String;" } : Jvm.MethodName) jdk_67_method_42_code (1 : Nat) (Option.some (Jvm.ClassFile.FieldType.object "java/lang/String"))).before a0 Z = true := hw _ (List.mem_of_getElem? (i := 138) rfl)
theorem ow137 {Z : State} {a0 : Array Value} (hw : ∀ d ∈ tables_1, d.before a0 Z = true) : (Jvm.Cond.selects "java/lang/StringBuilder" ({ cls := "java/lang/StringBuilder", name := "toString", desc := "()Ljava/lang/String;" } : Jvm.MethodName) ({ cls := "java/lang/StringBuilder", name := "toString", desc := "()Ljava/lang/String;" } : Jvm.MethodName)).before a0 Z = true := hw _ (List.mem_of_getElem? (i := 137) rfl)
theorem ow135 {Z : State} {a0 : Array Value} (hw : ∀ d ∈ tables_1, d.before a0 Z = true) : (Jvm.Cond.declares ({ cls := "java/lang/StringBuilder", name := "toString", desc := "()Ljava/lang/String;" } : Jvm.MethodName)).before a0 Z = true := hw _ (List.mem_of_getElem? (i := 135) rfl)
theorem ow136 {Z : State} {a0 : Array Value} (hw : ∀ d ∈ tables_1, d.before a0 Z = true) : (Jvm.Cond.instanceMethod ({ cls := "java/lang/StringBuilder", name := "toString", desc := "()Ljava/lang/String;" } : Jvm.MethodName)).before a0 Z = true := hw _ (List.mem_of_getElem? (i := 136) rfl)
theorem ow171 {Z : State} {a0 : Array Value} (hw : ∀ d ∈ tables_1, d.before a0 Z = true) : (Jvm.Cond.methodLink "com/example/tally_of_calls/tallyofcalls/Counts" (41 : Nat) ({ cls := "com/example/tally_of_calls/tallyofcalls/Count", name := "<init>", desc := "(IJLjava/lang/String;)V" } : Jvm.MethodName)).before a0 Z = true := hw _ (List.mem_of_getElem? (i := 171) rfl)
theorem ow174 {Z : State} {a0 : Array Value} (hw : ∀ d ∈ tables_1, d.before a0 Z = true) : (Jvm.Cond.methodLink "com/example/tally_of_calls/tallyofcalls/Count" (3 : Nat) ({ cls := "java/lang/Object", name := "<init>", desc := "()V" } : Jvm.MethodName)).before a0 Z = true := hw _ (List.mem_of_getElem? (i := 174) rfl)
theorem ow175 {Z : State} {a0 : Array Value} (hw : ∀ d ∈ tables_1, d.before a0 Z = true) : (Jvm.Cond.fieldLink "com/example/tally_of_calls/tallyofcalls/Count" (9 : Nat) "com/example/tally_of_calls/tallyofcalls/Count" "min" "I").before a0 Z = true := hw _ (List.mem_of_getElem? (i := 175) rfl)
theorem ow177 {Z : State} {a0 : Array Value} (hw : ∀ d ∈ tables_1, d.before a0 Z = true) : (Jvm.Cond.fieldLink "com/example/tally_of_calls/tallyofcalls/Count" (15 : Nat) "com/example/tally_of_calls/tallyofcalls/Count" "max" "J").before a0 Z = true := hw _ (List.mem_of_getElem? (i := 177) rfl)
theorem ow179 {Z : State} {a0 : Array Value} (hw : ∀ d ∈ tables_1, d.before a0 Z = true) : (Jvm.Cond.fieldLink "com/example/tally_of_calls/tallyofcalls/Count" (19 : Nat) "com/example/tally_of_calls/tallyofcalls/Count" "phrase" "Ljava/lang/String;").before a0 Z = true := hw _ (List.mem_of_getElem? (i := 179) rfl)
abbrev mn30 : MethodName := ⟨"com/example/tally_of_calls/tallyofcalls/Count", "<init>", "(IJLjava/lang/String;)V"⟩
theorem ow173 {Z : State} {a0 : Array Value} (hw : ∀ d ∈ tables_1, d.before a0 Z = true) : (Jvm.Cond.code ({ cls := "com/example/tally_of_calls/tallyofcalls/Count", name := "<init>", desc := "(IJLjava/lang/String;)V" } : Jvm.MethodName) prog_4_method_1_code (5 : Nat) (Option.none : Option Jvm.ClassFile.FieldType)).before a0 Z = true := hw _ (List.mem_of_getElem? (i := 173) rfl)
theorem ow172 {Z : State} {a0 : Array Value} (hw : ∀ d ∈ tables_1, d.before a0 Z = true) : (Jvm.Cond.instanceMethod ({ cls := "com/example/tally_of_calls/tallyofcalls/Count", name := "<init>", desc := "(IJLjava/lang/String;)V" } : Jvm.MethodName)).before a0 Z = true := hw _ (List.mem_of_getElem? (i := 172) rfl)
theorem ow230 {Z : State} {a0 : Array Value} (hw : ∀ d ∈ tables_1, d.before a0 Z = true) : (Jvm.Cond.methodLink "java/util/Arrays" (310 : Nat) ({ cls := "[B", name := "clone", desc := "()Ljava/lang/Object;" } : Jvm.MethodName)).before a0 Z = true := hw _ (List.mem_of_getElem? (i := 230) rfl)
theorem ow231 {Z : State} {a0 : Array Value} (hw : ∀ d ∈ tables_1, d.before a0 Z = true) : (Jvm.Cond.sameMethod "[B" "java/lang/Object" "clone" "()Ljava/lang/Object;").before a0 Z = true := hw _ (List.mem_of_getElem? (i := 231) rfl)
theorem ow235 {Z : State} {a0 : Array Value} (hw : ∀ d ∈ tables_1, d.before a0 Z = true) : (Jvm.Cond.native ({ cls := "java/lang/Object", name := "clone", desc := "()Ljava/lang/Object;" } : Jvm.MethodName)).before a0 Z = true := hw _ (List.mem_of_getElem? (i := 235) rfl)
theorem ow233 {Z : State} {a0 : Array Value} (hw : ∀ d ∈ tables_1, d.before a0 Z = true) : (Jvm.Cond.instanceMethod ({ cls := "java/lang/Object", name := "clone", desc := "()Ljava/lang/Object;" } : Jvm.MethodName)).before a0 Z = true := hw _ (List.mem_of_getElem? (i := 233) rfl)
theorem ow234 {Z : State} {a0 : Array Value} (hw : ∀ d ∈ tables_1, d.before a0 Z = true) : (Jvm.Cond.selects "[B" ({ cls := "[B", name := "clone", desc := "()Ljava/lang/Object;" } : Jvm.MethodName) ({ cls := "java/lang/Object", name := "clone", desc := "()Ljava/lang/Object;" } : Jvm.MethodName)).before a0 Z = true := hw _ (List.mem_of_getElem? (i := 234) rfl)
theorem ow236 {Z : State} {a0 : Array Value} (hw : ∀ d ∈ tables_1, d.before a0 Z = true) : (Jvm.Cond.castable "[B" "java/lang/Cloneable").before a0 Z = true := hw _ (List.mem_of_getElem? (i := 236) rfl)
theorem ow237 {Z : State} {a0 : Array Value} (hw : ∀ d ∈ tables_1, d.before a0 Z = true) : (Jvm.Cond.classLink "java/util/Arrays" (311 : Nat) "[B").before a0 Z = true := hw _ (List.mem_of_getElem? (i := 237) rfl)
abbrev mn31 : MethodName := ⟨"com/example/tally_of_calls/tallyofcalls/Counts", "between", "(II)Lcom/example/tally_of_calls/tallyofcalls/Count;"⟩
def own_ls5 : List Value := [(.int (0 : Int32)), (.int (0 : Int32)), (.int (0 : Int32)), (.int (0 : Int32)), (.int (0 : Int32)), (.int (0 : Int32)), (.int (0 : Int32)), (.int (0 : Int32)), (.int (0 : Int32)), (.int (0 : Int32)), (.int (0 : Int32)), (.int (0 : Int32)), (.int (0 : Int32)), (.int (0 : Int32)), (.int (0 : Int32)), (.int (0 : Int32)), (.int (0 : Int32)), (.int (0 : Int32)), (.int (0 : Int32)), (.int (0 : Int32)), (.int (0 : Int32)), (.int (0 : Int32)), (.int (0 : Int32)), (.int (0 : Int32))]
theorem ow0 {Z : State} {a0 : Array Value} (hw : ∀ d ∈ tables_1, d.before a0 Z = true) : (Jvm.Cond.constant "com/example/tally_of_calls/tallyofcalls/CountsBetweenPinLaw" (12 : Nat) (2147483647 : Int32)).before a0 Z = true := hw _ (List.mem_of_getElem? (i := 0) rfl)
theorem ow1 {Z : State} {a0 : Array Value} (hw : ∀ d ∈ tables_1, d.before a0 Z = true) : (Jvm.Cond.methodLink "com/example/tally_of_calls/tallyofcalls/CountsBetweenPinLaw" (13 : Nat) ({ cls := "java/lang/Math", name := "min", desc := "(II)I" } : Jvm.MethodName)).before a0 Z = true := hw _ (List.mem_of_getElem? (i := 1) rfl)
theorem ow5 {Z : State} {a0 : Array Value} (hw : ∀ d ∈ tables_1, d.before a0 Z = true) : (Jvm.Cond.methodLink "com/example/tally_of_calls/tallyofcalls/CountsBetweenPinLaw" (19 : Nat) ({ cls := "java/lang/Math", name := "max", desc := "(II)I" } : Jvm.MethodName)).before a0 Z = true := hw _ (List.mem_of_getElem? (i := 5) rfl)
theorem ow8 {Z : State} {a0 : Array Value} (hw : ∀ d ∈ tables_1, d.before a0 Z = true) : (Jvm.Cond.methodLink "com/example/tally_of_calls/tallyofcalls/CountsBetweenPinLaw" (22 : Nat) ({ cls := "com/example/tally_of_calls/tallyofcalls/Counts", name := "between", desc := "(II)Lcom/example/tally_of_calls/tallyofcalls/Count;" } : Jvm.MethodName)).before a0 Z = true := hw _ (List.mem_of_getElem? (i := 8) rfl)
theorem ow11 {Z : State} {a0 : Array Value} (hw : ∀ d ∈ tables_1, d.before a0 Z = true) : (Jvm.Cond.code ({ cls := "com/example/tally_of_calls/tallyofcalls/Counts", name := "between", desc := "(II)Lcom/example/tally_of_calls/tallyofcalls/Count;" } : Jvm.MethodName) prog_5_method_6_code (3 : Nat) (Option.some (Jvm.ClassFile.FieldType.object "com/example/tally_of_calls/tallyofcalls/Count"))).before a0 Z = true := hw _ (List.mem_of_getElem? (i := 11) rfl)
theorem ow10 {Z : State} {a0 : Array Value} (hw : ∀ d ∈ tables_1, d.before a0 Z = true) : (Jvm.Cond.initialized "com/example/tally_of_calls/tallyofcalls/Counts").before a0 Z = true := hw _ (List.mem_of_getElem? (i := 10) rfl)
theorem ow9 {Z : State} {a0 : Array Value} (hw : ∀ d ∈ tables_1, d.before a0 Z = true) : (Jvm.Cond.static ({ cls := "com/example/tally_of_calls/tallyofcalls/Counts", name := "between", desc := "(II)Lcom/example/tally_of_calls/tallyofcalls/Count;" } : Jvm.MethodName)).before a0 Z = true := hw _ (List.mem_of_getElem? (i := 9) rfl)
theorem ow181 {Z : State} {a0 : Array Value} (hw : ∀ d ∈ tables_1, d.before a0 Z = true) : (Jvm.Cond.methodLink "com/example/tally_of_calls/tallyofcalls/CountsBetweenPinLaw" (28 : Nat) ({ cls := "com/example/tally_of_calls/tallyofcalls/Count", name := "min", desc := "()I" } : Jvm.MethodName)).before a0 Z = true := hw _ (List.mem_of_getElem? (i := 181) rfl)
abbrev mn32 : MethodName := ⟨"com/example/tally_of_calls/tallyofcalls/Count", "min", "()I"⟩
theorem ow185 {Z : State} {a0 : Array Value} (hw : ∀ d ∈ tables_1, d.before a0 Z = true) : (Jvm.Cond.code ({ cls := "com/example/tally_of_calls/tallyofcalls/Count", name := "min", desc := "()I" } : Jvm.MethodName) prog_4_method_2_code (1 : Nat) (Option.some Jvm.ClassFile.FieldType.int)).before a0 Z = true := hw _ (List.mem_of_getElem? (i := 185) rfl)
theorem ow184 {Z : State} {a0 : Array Value} (hw : ∀ d ∈ tables_1, d.before a0 Z = true) : (Jvm.Cond.selects "com/example/tally_of_calls/tallyofcalls/Count" ({ cls := "com/example/tally_of_calls/tallyofcalls/Count", name := "min", desc := "()I" } : Jvm.MethodName) ({ cls := "com/example/tally_of_calls/tallyofcalls/Count", name := "min", desc := "()I" } : Jvm.MethodName)).before a0 Z = true := hw _ (List.mem_of_getElem? (i := 184) rfl)
theorem ow182 {Z : State} {a0 : Array Value} (hw : ∀ d ∈ tables_1, d.before a0 Z = true) : (Jvm.Cond.declares ({ cls := "com/example/tally_of_calls/tallyofcalls/Count", name := "min", desc := "()I" } : Jvm.MethodName)).before a0 Z = true := hw _ (List.mem_of_getElem? (i := 182) rfl)
theorem ow183 {Z : State} {a0 : Array Value} (hw : ∀ d ∈ tables_1, d.before a0 Z = true) : (Jvm.Cond.instanceMethod ({ cls := "com/example/tally_of_calls/tallyofcalls/Count", name := "min", desc := "()I" } : Jvm.MethodName)).before a0 Z = true := hw _ (List.mem_of_getElem? (i := 183) rfl)
theorem ow186 {Z : State} {a0 : Array Value} (hw : ∀ d ∈ tables_1, d.before a0 Z = true) : (Jvm.Cond.methodLink "com/example/tally_of_calls/tallyofcalls/CountsBetweenPinLaw" (33 : Nat) ({ cls := "com/example/tally_of_calls/tallyofcalls/Count", name := "max", desc := "()J" } : Jvm.MethodName)).before a0 Z = true := hw _ (List.mem_of_getElem? (i := 186) rfl)
abbrev mn33 : MethodName := ⟨"com/example/tally_of_calls/tallyofcalls/Count", "max", "()J"⟩
theorem ow190 {Z : State} {a0 : Array Value} (hw : ∀ d ∈ tables_1, d.before a0 Z = true) : (Jvm.Cond.code ({ cls := "com/example/tally_of_calls/tallyofcalls/Count", name := "max", desc := "()J" } : Jvm.MethodName) prog_4_method_3_code (1 : Nat) (Option.some Jvm.ClassFile.FieldType.long)).before a0 Z = true := hw _ (List.mem_of_getElem? (i := 190) rfl)
theorem ow189 {Z : State} {a0 : Array Value} (hw : ∀ d ∈ tables_1, d.before a0 Z = true) : (Jvm.Cond.selects "com/example/tally_of_calls/tallyofcalls/Count" ({ cls := "com/example/tally_of_calls/tallyofcalls/Count", name := "max", desc := "()J" } : Jvm.MethodName) ({ cls := "com/example/tally_of_calls/tallyofcalls/Count", name := "max", desc := "()J" } : Jvm.MethodName)).before a0 Z = true := hw _ (List.mem_of_getElem? (i := 189) rfl)
theorem ow187 {Z : State} {a0 : Array Value} (hw : ∀ d ∈ tables_1, d.before a0 Z = true) : (Jvm.Cond.declares ({ cls := "com/example/tally_of_calls/tallyofcalls/Count", name := "max", desc := "()J" } : Jvm.MethodName)).before a0 Z = true := hw _ (List.mem_of_getElem? (i := 187) rfl)
theorem ow188 {Z : State} {a0 : Array Value} (hw : ∀ d ∈ tables_1, d.before a0 Z = true) : (Jvm.Cond.instanceMethod ({ cls := "com/example/tally_of_calls/tallyofcalls/Count", name := "max", desc := "()J" } : Jvm.MethodName)).before a0 Z = true := hw _ (List.mem_of_getElem? (i := 188) rfl)
theorem ow191 {Z : State} {a0 : Array Value} (hw : ∀ d ∈ tables_1, d.before a0 Z = true) : (Jvm.Cond.methodLink "com/example/tally_of_calls/tallyofcalls/CountsBetweenPinLaw" (36 : Nat) ({ cls := "com/example/tally_of_calls/tallyofcalls/Count", name := "phrase", desc := "()Ljava/lang/String;" } : Jvm.MethodName)).before a0 Z = true := hw _ (List.mem_of_getElem? (i := 191) rfl)
abbrev mn34 : MethodName := ⟨"com/example/tally_of_calls/tallyofcalls/Count", "phrase", "()Ljava/lang/String;"⟩
theorem ow195 {Z : State} {a0 : Array Value} (hw : ∀ d ∈ tables_1, d.before a0 Z = true) : (Jvm.Cond.code ({ cls := "com/example/tally_of_calls/tallyofcalls/Count", name := "phrase", desc := "()Ljava/lang/String;" } : Jvm.MethodName) prog_4_method_4_code (1 : Nat) (Option.some (Jvm.ClassFile.FieldType.object "java/lang/String"))).before a0 Z = true := hw _ (List.mem_of_getElem? (i := 195) rfl)
theorem ow194 {Z : State} {a0 : Array Value} (hw : ∀ d ∈ tables_1, d.before a0 Z = true) : (Jvm.Cond.selects "com/example/tally_of_calls/tallyofcalls/Count" ({ cls := "com/example/tally_of_calls/tallyofcalls/Count", name := "phrase", desc := "()Ljava/lang/String;" } : Jvm.MethodName) ({ cls := "com/example/tally_of_calls/tallyofcalls/Count", name := "phrase", desc := "()Ljava/lang/String;" } : Jvm.MethodName)).before a0 Z = true := hw _ (List.mem_of_getElem? (i := 194) rfl)
theorem ow192 {Z : State} {a0 : Array Value} (hw : ∀ d ∈ tables_1, d.before a0 Z = true) : (Jvm.Cond.declares ({ cls := "com/example/tally_of_calls/tallyofcalls/Count", name := "phrase", desc := "()Ljava/lang/String;" } : Jvm.MethodName)).before a0 Z = true := hw _ (List.mem_of_getElem? (i := 192) rfl)
theorem ow193 {Z : State} {a0 : Array Value} (hw : ∀ d ∈ tables_1, d.before a0 Z = true) : (Jvm.Cond.instanceMethod ({ cls := "com/example/tally_of_calls/tallyofcalls/Count", name := "phrase", desc := "()Ljava/lang/String;" } : Jvm.MethodName)).before a0 Z = true := hw _ (List.mem_of_getElem? (i := 193) rfl)
theorem ow196 {Z : State} {a0 : Array Value} (hw : ∀ d ∈ tables_1, d.before a0 Z = true) : (Jvm.Cond.methodLink "com/example/tally_of_calls/tallyofcalls/CountsBetweenPinLaw" (40 : Nat) ({ cls := "java/lang/String", name := "length", desc := "()I" } : Jvm.MethodName)).before a0 Z = true := hw _ (List.mem_of_getElem? (i := 196) rfl)
theorem ow197 {Z : State} {a0 : Array Value} (hw : ∀ d ∈ tables_1, d.before a0 Z = true) : (Jvm.Cond.methodLink "com/example/tally_of_calls/tallyofcalls/CountsBetweenPinLaw" (45 : Nat) ({ cls := "com/example/tally_of_calls/tallyofcalls/CountsBetweenPinLaw", name := "digits", desc := "(I)I" } : Jvm.MethodName)).before a0 Z = true := hw _ (List.mem_of_getElem? (i := 197) rfl)
theorem ow200 {Z : State} {a0 : Array Value} (hw : ∀ d ∈ tables_1, d.before a0 Z = true) : (Jvm.Cond.code ({ cls := "com/example/tally_of_calls/tallyofcalls/CountsBetweenPinLaw", name := "digits", desc := "(I)I" } : Jvm.MethodName) method_2_code (1 : Nat) (Option.some Jvm.ClassFile.FieldType.int)).before a0 Z = true := hw _ (List.mem_of_getElem? (i := 200) rfl)
theorem ow199 {Z : State} {a0 : Array Value} (hw : ∀ d ∈ tables_1, d.before a0 Z = true) : (Jvm.Cond.initialized "com/example/tally_of_calls/tallyofcalls/CountsBetweenPinLaw").before a0 Z = true := hw _ (List.mem_of_getElem? (i := 199) rfl)
theorem ow198 {Z : State} {a0 : Array Value} (hw : ∀ d ∈ tables_1, d.before a0 Z = true) : (Jvm.Cond.static ({ cls := "com/example/tally_of_calls/tallyofcalls/CountsBetweenPinLaw", name := "digits", desc := "(I)I" } : Jvm.MethodName)).before a0 Z = true := hw _ (List.mem_of_getElem? (i := 198) rfl)
theorem ow201 {Z : State} {a0 : Array Value} (hw : ∀ d ∈ tables_1, d.before a0 Z = true) : (Jvm.Cond.arrayClass Jvm.ClassFile.FieldType.char).before a0 Z = true := hw _ (List.mem_of_getElem? (i := 201) rfl)
def own_ls6 : List Value := [(.int (101 : Int32)), (.int (0 : Int32)), (.int (0 : Int32)), (.int (0 : Int32)), (.int (0 : Int32)), (.int (0 : Int32)), (.int (0 : Int32)), (.int (0 : Int32)), (.int (0 : Int32)), (.int (0 : Int32)), (.int (0 : Int32)), (.int (0 : Int32)), (.int (0 : Int32)), (.int (0 : Int32)), (.int (0 : Int32)), (.int (0 : Int32)), (.int (0 : Int32)), (.int (0 : Int32)), (.int (0 : Int32)), (.int (0 : Int32)), (.int (0 : Int32)), (.int (0 : Int32)), (.int (0 : Int32)), (.int (0 : Int32))]
def own_ls7 : List Value := [(.int (101 : Int32)), (.int (120 : Int32)), (.int (0 : Int32)), (.int (0 : Int32)), (.int (0 : Int32)), (.int (0 : Int32)), (.int (0 : Int32)), (.int (0 : Int32)), (.int (0 : Int32)), (.int (0 : Int32)), (.int (0 : Int32)), (.int (0 : Int32)), (.int (0 : Int32)), (.int (0 : Int32)), (.int (0 : Int32)), (.int (0 : Int32)), (.int (0 : Int32)), (.int (0 : Int32)), (.int (0 : Int32)), (.int (0 : Int32)), (.int (0 : Int32)), (.int (0 : Int32)), (.int (0 : Int32)), (.int (0 : Int32))]
def own_ls8 : List Value := [(.int (101 : Int32)), (.int (120 : Int32)), (.int (112 : Int32)), (.int (0 : Int32)), (.int (0 : Int32)), (.int (0 : Int32)), (.int (0 : Int32)), (.int (0 : Int32)), (.int (0 : Int32)), (.int (0 : Int32)), (.int (0 : Int32)), (.int (0 : Int32)), (.int (0 : Int32)), (.int (0 : Int32)), (.int (0 : Int32)), (.int (0 : Int32)), (.int (0 : Int32)), (.int (0 : Int32)), (.int (0 : Int32)), (.int (0 : Int32)), (.int (0 : Int32)), (.int (0 : Int32)), (.int (0 : Int32)), (.int (0 : Int32))]
def own_ls9 : List Value := [(.int (101 : Int32)), (.int (120 : Int32)), (.int (112 : Int32)), (.int (101 : Int32)), (.int (0 : Int32)), (.int (0 : Int32)), (.int (0 : Int32)), (.int (0 : Int32)), (.int (0 : Int32)), (.int (0 : Int32)), (.int (0 : Int32)), (.int (0 : Int32)), (.int (0 : Int32)), (.int (0 : Int32)), (.int (0 : Int32)), (.int (0 : Int32)), (.int (0 : Int32)), (.int (0 : Int32)), (.int (0 : Int32)), (.int (0 : Int32)), (.int (0 : Int32)), (.int (0 : Int32)), (.int (0 : Int32)), (.int (0 : Int32))]
def own_ls10 : List Value := [(.int (101 : Int32)), (.int (120 : Int32)), (.int (112 : Int32)), (.int (101 : Int32)), (.int (99 : Int32)), (.int (0 : Int32)), (.int (0 : Int32)), (.int (0 : Int32)), (.int (0 : Int32)), (.int (0 : Int32)), (.int (0 : Int32)), (.int (0 : Int32)), (.int (0 : Int32)), (.int (0 : Int32)), (.int (0 : Int32)), (.int (0 : Int32)), (.int (0 : Int32)), (.int (0 : Int32)), (.int (0 : Int32)), (.int (0 : Int32)), (.int (0 : Int32)), (.int (0 : Int32)), (.int (0 : Int32)), (.int (0 : Int32))]
def own_ls11 : List Value := [(.int (101 : Int32)), (.int (120 : Int32)), (.int (112 : Int32)), (.int (101 : Int32)), (.int (99 : Int32)), (.int (116 : Int32)), (.int (0 : Int32)), (.int (0 : Int32)), (.int (0 : Int32)), (.int (0 : Int32)), (.int (0 : Int32)), (.int (0 : Int32)), (.int (0 : Int32)), (.int (0 : Int32)), (.int (0 : Int32)), (.int (0 : Int32)), (.int (0 : Int32)), (.int (0 : Int32)), (.int (0 : Int32)), (.int (0 : Int32)), (.int (0 : Int32)), (.int (0 : Int32)), (.int (0 : Int32)), (.int (0 : Int32))]
def own_ls12 : List Value := [(.int (101 : Int32)), (.int (120 : Int32)), (.int (112 : Int32)), (.int (101 : Int32)), (.int (99 : Int32)), (.int (116 : Int32)), (.int (101 : Int32)), (.int (0 : Int32)), (.int (0 : Int32)), (.int (0 : Int32)), (.int (0 : Int32)), (.int (0 : Int32)), (.int (0 : Int32)), (.int (0 : Int32)), (.int (0 : Int32)), (.int (0 : Int32)), (.int (0 : Int32)), (.int (0 : Int32)), (.int (0 : Int32)), (.int (0 : Int32)), (.int (0 : Int32)), (.int (0 : Int32)), (.int (0 : Int32)), (.int (0 : Int32))]
def own_ls13 : List Value := [(.int (101 : Int32)), (.int (120 : Int32)), (.int (112 : Int32)), (.int (101 : Int32)), (.int (99 : Int32)), (.int (116 : Int32)), (.int (101 : Int32)), (.int (100 : Int32)), (.int (0 : Int32)), (.int (0 : Int32)), (.int (0 : Int32)), (.int (0 : Int32)), (.int (0 : Int32)), (.int (0 : Int32)), (.int (0 : Int32)), (.int (0 : Int32)), (.int (0 : Int32)), (.int (0 : Int32)), (.int (0 : Int32)), (.int (0 : Int32)), (.int (0 : Int32)), (.int (0 : Int32)), (.int (0 : Int32)), (.int (0 : Int32))]
def own_ls14 : List Value := [(.int (101 : Int32)), (.int (120 : Int32)), (.int (112 : Int32)), (.int (101 : Int32)), (.int (99 : Int32)), (.int (116 : Int32)), (.int (101 : Int32)), (.int (100 : Int32)), (.int (32 : Int32)), (.int (0 : Int32)), (.int (0 : Int32)), (.int (0 : Int32)), (.int (0 : Int32)), (.int (0 : Int32)), (.int (0 : Int32)), (.int (0 : Int32)), (.int (0 : Int32)), (.int (0 : Int32)), (.int (0 : Int32)), (.int (0 : Int32)), (.int (0 : Int32)), (.int (0 : Int32)), (.int (0 : Int32)), (.int (0 : Int32))]
def own_ls15 : List Value := [(.int (101 : Int32)), (.int (120 : Int32)), (.int (112 : Int32)), (.int (101 : Int32)), (.int (99 : Int32)), (.int (116 : Int32)), (.int (101 : Int32)), (.int (100 : Int32)), (.int (32 : Int32)), (.int (98 : Int32)), (.int (0 : Int32)), (.int (0 : Int32)), (.int (0 : Int32)), (.int (0 : Int32)), (.int (0 : Int32)), (.int (0 : Int32)), (.int (0 : Int32)), (.int (0 : Int32)), (.int (0 : Int32)), (.int (0 : Int32)), (.int (0 : Int32)), (.int (0 : Int32)), (.int (0 : Int32)), (.int (0 : Int32))]
def own_ls16 : List Value := [(.int (101 : Int32)), (.int (120 : Int32)), (.int (112 : Int32)), (.int (101 : Int32)), (.int (99 : Int32)), (.int (116 : Int32)), (.int (101 : Int32)), (.int (100 : Int32)), (.int (32 : Int32)), (.int (98 : Int32)), (.int (101 : Int32)), (.int (0 : Int32)), (.int (0 : Int32)), (.int (0 : Int32)), (.int (0 : Int32)), (.int (0 : Int32)), (.int (0 : Int32)), (.int (0 : Int32)), (.int (0 : Int32)), (.int (0 : Int32)), (.int (0 : Int32)), (.int (0 : Int32)), (.int (0 : Int32)), (.int (0 : Int32))]
def own_ls17 : List Value := [(.int (101 : Int32)), (.int (120 : Int32)), (.int (112 : Int32)), (.int (101 : Int32)), (.int (99 : Int32)), (.int (116 : Int32)), (.int (101 : Int32)), (.int (100 : Int32)), (.int (32 : Int32)), (.int (98 : Int32)), (.int (101 : Int32)), (.int (116 : Int32)), (.int (0 : Int32)), (.int (0 : Int32)), (.int (0 : Int32)), (.int (0 : Int32)), (.int (0 : Int32)), (.int (0 : Int32)), (.int (0 : Int32)), (.int (0 : Int32)), (.int (0 : Int32)), (.int (0 : Int32)), (.int (0 : Int32)), (.int (0 : Int32))]
def own_ls18 : List Value := [(.int (101 : Int32)), (.int (120 : Int32)), (.int (112 : Int32)), (.int (101 : Int32)), (.int (99 : Int32)), (.int (116 : Int32)), (.int (101 : Int32)), (.int (100 : Int32)), (.int (32 : Int32)), (.int (98 : Int32)), (.int (101 : Int32)), (.int (116 : Int32)), (.int (119 : Int32)), (.int (0 : Int32)), (.int (0 : Int32)), (.int (0 : Int32)), (.int (0 : Int32)), (.int (0 : Int32)), (.int (0 : Int32)), (.int (0 : Int32)), (.int (0 : Int32)), (.int (0 : Int32)), (.int (0 : Int32)), (.int (0 : Int32))]
def own_ls19 : List Value := [(.int (101 : Int32)), (.int (120 : Int32)), (.int (112 : Int32)), (.int (101 : Int32)), (.int (99 : Int32)), (.int (116 : Int32)), (.int (101 : Int32)), (.int (100 : Int32)), (.int (32 : Int32)), (.int (98 : Int32)), (.int (101 : Int32)), (.int (116 : Int32)), (.int (119 : Int32)), (.int (101 : Int32)), (.int (0 : Int32)), (.int (0 : Int32)), (.int (0 : Int32)), (.int (0 : Int32)), (.int (0 : Int32)), (.int (0 : Int32)), (.int (0 : Int32)), (.int (0 : Int32)), (.int (0 : Int32)), (.int (0 : Int32))]
def own_ls20 : List Value := [(.int (101 : Int32)), (.int (120 : Int32)), (.int (112 : Int32)), (.int (101 : Int32)), (.int (99 : Int32)), (.int (116 : Int32)), (.int (101 : Int32)), (.int (100 : Int32)), (.int (32 : Int32)), (.int (98 : Int32)), (.int (101 : Int32)), (.int (116 : Int32)), (.int (119 : Int32)), (.int (101 : Int32)), (.int (101 : Int32)), (.int (0 : Int32)), (.int (0 : Int32)), (.int (0 : Int32)), (.int (0 : Int32)), (.int (0 : Int32)), (.int (0 : Int32)), (.int (0 : Int32)), (.int (0 : Int32)), (.int (0 : Int32))]
def own_ls21 : List Value := [(.int (101 : Int32)), (.int (120 : Int32)), (.int (112 : Int32)), (.int (101 : Int32)), (.int (99 : Int32)), (.int (116 : Int32)), (.int (101 : Int32)), (.int (100 : Int32)), (.int (32 : Int32)), (.int (98 : Int32)), (.int (101 : Int32)), (.int (116 : Int32)), (.int (119 : Int32)), (.int (101 : Int32)), (.int (101 : Int32)), (.int (110 : Int32)), (.int (0 : Int32)), (.int (0 : Int32)), (.int (0 : Int32)), (.int (0 : Int32)), (.int (0 : Int32)), (.int (0 : Int32)), (.int (0 : Int32)), (.int (0 : Int32))]
def own_ls22 : List Value := [(.int (101 : Int32)), (.int (120 : Int32)), (.int (112 : Int32)), (.int (101 : Int32)), (.int (99 : Int32)), (.int (116 : Int32)), (.int (101 : Int32)), (.int (100 : Int32)), (.int (32 : Int32)), (.int (98 : Int32)), (.int (101 : Int32)), (.int (116 : Int32)), (.int (119 : Int32)), (.int (101 : Int32)), (.int (101 : Int32)), (.int (110 : Int32)), (.int (32 : Int32)), (.int (0 : Int32)), (.int (0 : Int32)), (.int (0 : Int32)), (.int (0 : Int32)), (.int (0 : Int32)), (.int (0 : Int32)), (.int (0 : Int32))]
theorem ow202 {Z : State} {a0 : Array Value} (hw : ∀ d ∈ tables_1, d.before a0 Z = true) : (Jvm.Cond.classLink "com/example/tally_of_calls/tallyofcalls/CountsBetweenPinLaw" (41 : Nat) "java/lang/String").before a0 Z = true := hw _ (List.mem_of_getElem? (i := 202) rfl)
theorem ow203 {Z : State} {a0 : Array Value} (hw : ∀ d ∈ tables_1, d.before a0 Z = true) : (Jvm.Cond.methodLink "com/example/tally_of_calls/tallyofcalls/CountsBetweenPinLaw" (51 : Nat) ({ cls := "java/lang/String", name := "<init>", desc := "([C)V" } : Jvm.MethodName)).before a0 Z = true := hw _ (List.mem_of_getElem? (i := 203) rfl)
theorem ow206 {Z : State} {a0 : Array Value} (hw : ∀ d ∈ tables_1, d.before a0 Z = true) : (Jvm.Cond.methodLink "java/lang/String" (27 : Nat) ({ cls := "java/lang/String", name := "<init>", desc := "([CIILjava/lang/Void;)V" } : Jvm.MethodName)).before a0 Z = true := hw _ (List.mem_of_getElem? (i := 206) rfl)
theorem ow209 {Z : State} {a0 : Array Value} (hw : ∀ d ∈ tables_1, d.before a0 Z = true) : (Jvm.Cond.methodLink "java/lang/String" (177 : Nat) ({ cls := "java/lang/StringUTF16", name := "compress", desc := "([CII)[B" } : Jvm.MethodName)).before a0 Z = true := hw _ (List.mem_of_getElem? (i := 209) rfl)
theorem ow213 {Z : State} {a0 : Array Value} (hw : ∀ d ∈ tables_1, d.before a0 Z = true) : (Jvm.Cond.methodLink "java/lang/StringUTF16" (115 : Nat) ({ cls := "java/lang/StringUTF16", name := "compress", desc := "([CI[BII)I" } : Jvm.MethodName)).before a0 Z = true := hw _ (List.mem_of_getElem? (i := 213) rfl)
abbrev mn35 : MethodName := ⟨"java/lang/StringUTF16", "compress", "([CI[BII)I"⟩
theorem ow215 {Z : State} {a0 : Array Value} (hw : ∀ d ∈ tables_1, d.before a0 Z = true) : (Jvm.Cond.code ({ cls := "java/lang/StringUTF16", name := "compress", desc := "([CI[BII)I" } : Jvm.MethodName) jdk_52_method_21_code (7 : Nat) (Option.some Jvm.ClassFile.FieldType.int)).before a0 Z = true := hw _ (List.mem_of_getElem? (i := 215) rfl)
theorem ow211 {Z : State} {a0 : Array Value} (hw : ∀ d ∈ tables_1, d.before a0 Z = true) : (Jvm.Cond.initialized "java/lang/StringUTF16").before a0 Z = true := hw _ (List.mem_of_getElem? (i := 211) rfl)
theorem ow214 {Z : State} {a0 : Array Value} (hw : ∀ d ∈ tables_1, d.before a0 Z = true) : (Jvm.Cond.static ({ cls := "java/lang/StringUTF16", name := "compress", desc := "([CI[BII)I" } : Jvm.MethodName)).before a0 Z = true := hw _ (List.mem_of_getElem? (i := 214) rfl)
abbrev mn36 : MethodName := ⟨"java/lang/StringUTF16", "compress", "([CII)[B"⟩
theorem ow212 {Z : State} {a0 : Array Value} (hw : ∀ d ∈ tables_1, d.before a0 Z = true) : (Jvm.Cond.code ({ cls := "java/lang/StringUTF16", name := "compress", desc := "([CII)[B" } : Jvm.MethodName) jdk_52_method_16_code (6 : Nat) (Option.some (Jvm.ClassFile.FieldType.array Jvm.ClassFile.FieldType.byte))).before a0 Z = true := hw _ (List.mem_of_getElem? (i := 212) rfl)
theorem ow210 {Z : State} {a0 : Array Value} (hw : ∀ d ∈ tables_1, d.before a0 Z = true) : (Jvm.Cond.static ({ cls := "java/lang/StringUTF16", name := "compress", desc := "([CII)[B" } : Jvm.MethodName)).before a0 Z = true := hw _ (List.mem_of_getElem? (i := 210) rfl)
theorem ow216 {Z : State} {a0 : Array Value} (hw : ∀ d ∈ tables_1, d.before a0 Z = true) : (Jvm.Cond.methodLink "java/lang/String" (47 : Nat) ({ cls := "java/lang/StringUTF16", name := "coderFromArrayLen", desc := "([BI)B" } : Jvm.MethodName)).before a0 Z = true := hw _ (List.mem_of_getElem? (i := 216) rfl)
abbrev mn37 : MethodName := ⟨"java/lang/StringUTF16", "coderFromArrayLen", "([BI)B"⟩
theorem ow218 {Z : State} {a0 : Array Value} (hw : ∀ d ∈ tables_1, d.before a0 Z = true) : (Jvm.Cond.code ({ cls := "java/lang/StringUTF16", name := "coderFromArrayLen", desc := "([BI)B" } : Jvm.MethodName) jdk_52_method_15_code (2 : Nat) (Option.some Jvm.ClassFile.FieldType.byte)).before a0 Z = true := hw _ (List.mem_of_getElem? (i := 218) rfl)
theorem ow217 {Z : State} {a0 : Array Value} (hw : ∀ d ∈ tables_1, d.before a0 Z = true) : (Jvm.Cond.static ({ cls := "java/lang/StringUTF16", name := "coderFromArrayLen", desc := "([BI)B" } : Jvm.MethodName)).before a0 Z = true := hw _ (List.mem_of_getElem? (i := 217) rfl)
abbrev mn38 : MethodName := ⟨"java/lang/String", "<init>", "([CIILjava/lang/Void;)V"⟩
theorem ow208 {Z : State} {a0 : Array Value} (hw : ∀ d ∈ tables_1, d.before a0 Z = true) : (Jvm.Cond.code ({ cls := "java/lang/String", name := "<init>", desc := "([CIILjava/lang/Void;)V" } : Jvm.MethodName) jdk_42_method_149_code (6 : Nat) (Option.none : Option Jvm.ClassFile.FieldType)).before a0 Z = true := hw _ (List.mem_of_getElem? (i := 208) rfl)
theorem ow207 {Z : State} {a0 : Array Value} (hw : ∀ d ∈ tables_1, d.before a0 Z = true) : (Jvm.Cond.instanceMethod ({ cls := "java/lang/String", name := "<init>", desc := "([CIILjava/lang/Void;)V" } : Jvm.MethodName)).before a0 Z = true := hw _ (List.mem_of_getElem? (i := 207) rfl)
abbrev mn39 : MethodName := ⟨"java/lang/String", "<init>", "([C)V"⟩
theorem ow205 {Z : State} {a0 : Array Value} (hw : ∀ d ∈ tables_1, d.before a0 Z = true) : (Jvm.Cond.code ({ cls := "java/lang/String", name := "<init>", desc := "([C)V" } : Jvm.MethodName) jdk_42_method_3_code (2 : Nat) (Option.none : Option Jvm.ClassFile.FieldType)).before a0 Z = true := hw _ (List.mem_of_getElem? (i := 205) rfl)
theorem ow204 {Z : State} {a0 : Array Value} (hw : ∀ d ∈ tables_1, d.before a0 Z = true) : (Jvm.Cond.instanceMethod ({ cls := "java/lang/String", name := "<init>", desc := "([C)V" } : Jvm.MethodName)).before a0 Z = true := hw _ (List.mem_of_getElem? (i := 204) rfl)
theorem ow219 {Z : State} {a0 : Array Value} (hw : ∀ d ∈ tables_1, d.before a0 Z = true) : (Jvm.Cond.methodLink "com/example/tally_of_calls/tallyofcalls/CountsBetweenPinLaw" (54 : Nat) ({ cls := "java/lang/String", name := "equals", desc := "(Ljava/lang/Object;)Z" } : Jvm.MethodName)).before a0 Z = true := hw _ (List.mem_of_getElem? (i := 219) rfl)
theorem ow224 {Z : State} {a0 : Array Value} (hw : ∀ d ∈ tables_1, d.before a0 Z = true) : (Jvm.Cond.classLink "java/lang/String" (10 : Nat) "java/lang/String").before a0 Z = true := hw _ (List.mem_of_getElem? (i := 224) rfl)
theorem ow225 {Z : State} {a0 : Array Value} (hw : ∀ d ∈ tables_1, d.before a0 Z = true) : (Jvm.Cond.methodLink "java/lang/String" (541 : Nat) ({ cls := "java/lang/StringLatin1", name := "equals", desc := "([B[B)Z" } : Jvm.MethodName)).before a0 Z = true := hw _ (List.mem_of_getElem? (i := 225) rfl)
abbrev mn40 : MethodName := ⟨"java/lang/StringLatin1", "equals", "([B[B)Z"⟩
theorem ow228 {Z : State} {a0 : Array Value} (hw : ∀ d ∈ tables_1, d.before a0 Z = true) : (Jvm.Cond.code ({ cls := "java/lang/StringLatin1", name := "equals", desc := "([B[B)Z" } : Jvm.MethodName) jdk_43_method_13_code (3 : Nat) (Option.some Jvm.ClassFile.FieldType.boolean)).before a0 Z = true := hw _ (List.mem_of_getElem? (i := 228) rfl)
theorem ow227 {Z : State} {a0 : Array Value} (hw : ∀ d ∈ tables_1, d.before a0 Z = true) : (Jvm.Cond.initialized "java/lang/StringLatin1").before a0 Z = true := hw _ (List.mem_of_getElem? (i := 227) rfl)
theorem ow226 {Z : State} {a0 : Array Value} (hw : ∀ d ∈ tables_1, d.before a0 Z = true) : (Jvm.Cond.static ({ cls := "java/lang/StringLatin1", name := "equals", desc := "([B[B)Z" } : Jvm.MethodName)).before a0 Z = true := hw _ (List.mem_of_getElem? (i := 226) rfl)
abbrev mn41 : MethodName := ⟨"java/lang/String", "equals", "(Ljava/lang/Object;)Z"⟩
theorem ow223 {Z : State} {a0 : Array Value} (hw : ∀ d ∈ tables_1, d.before a0 Z = true) : (Jvm.Cond.code ({ cls := "java/lang/String", name := "equals", desc := "(Ljava/lang/Object;)Z" } : Jvm.MethodName) jdk_42_method_66_code (3 : Nat) (Option.some Jvm.ClassFile.FieldType.boolean)).before a0 Z = true := hw _ (List.mem_of_getElem? (i := 223) rfl)
theorem ow222 {Z : State} {a0 : Array Value} (hw : ∀ d ∈ tables_1, d.before a0 Z = true) : (Jvm.Cond.selects "java/lang/String" ({ cls := "java/lang/String", name := "equals", desc := "(Ljava/lang/Object;)Z" } : Jvm.MethodName) ({ cls := "java/lang/String", name := "equals", desc := "(Ljava/lang/Object;)Z" } : Jvm.MethodName)).before a0 Z = true := hw _ (List.mem_of_getElem? (i := 222) rfl)
theorem ow220 {Z : State} {a0 : Array Value} (hw : ∀ d ∈ tables_1, d.before a0 Z = true) : (Jvm.Cond.declares ({ cls := "java/lang/String", name := "equals", desc := "(Ljava/lang/Object;)Z" } : Jvm.MethodName)).before a0 Z = true := hw _ (List.mem_of_getElem? (i := 220) rfl)
theorem ow221 {Z : State} {a0 : Array Value} (hw : ∀ d ∈ tables_1, d.before a0 Z = true) : (Jvm.Cond.instanceMethod ({ cls := "java/lang/String", name := "equals", desc := "(Ljava/lang/Object;)Z" } : Jvm.MethodName)).before a0 Z = true := hw _ (List.mem_of_getElem? (i := 221) rfl)
section Run
variable {p : Program} {l : Launch} {e : Env} {R : Room} {s : State} {m : MethodId} {args : Array Value} {below : List Frame} {meth : Method} {c : Code} {T : State} {locs : List Loc} {cells slots cc nn : Nat}
abbrev own_R := Option (Nat × Array Slot × List Value)
variable {pc k n a b : Nat} {ls : Array Slot} {st : List Value} {r : Nat × Array Slot × List Value} {q : own_R}
def own_g (a b : Nat) (q : own_R) : own_R := bif Nat.beq a b then q else none
theorem own_g_ok (h : own_g a b q = some r) : a = b ∧ q = some r := by
  unfold own_g at h
  cases w : Nat.beq a b with
  | true => rw [w] at h; exact ⟨Nat.eq_of_beq_eq_true w, h⟩
  | false => rw [w] at h; exact nomatch h
def own_ldi (pc : Nat) (ls : Array Slot) (st : List Value) (k n : Nat) : own_R := match ls[k]? with
  | some (.val (.int v)) => some (pc + n, ls, (.int v) :: st)
  | _ => none
theorem own_ldi_ok (h : own_ldi pc ls st k n = some r) : ∃ v, ls[k]? = some (.val (.int v)) ∧ r = (pc + n, ls, (.int v) :: st) := by
  unfold own_ldi at h
  split at h
  · exact ⟨_, by assumption, (Option.some.inj h).symm⟩
  · exact nomatch h
def own_ldl (pc : Nat) (ls : Array Slot) (st : List Value) (k n : Nat) : own_R := match ls[k]? with
  | some (.val (.long v)) => some (pc + n, ls, (.long v) :: st)
  | _ => none
theorem own_ldl_ok (h : own_ldl pc ls st k n = some r) : ∃ v, ls[k]? = some (.val (.long v)) ∧ r = (pc + n, ls, (.long v) :: st) := by
  unfold own_ldl at h
  split at h
  · exact ⟨_, by assumption, (Option.some.inj h).symm⟩
  · exact nomatch h
def own_lda (pc : Nat) (ls : Array Slot) (st : List Value) (k n : Nat) : own_R := match ls[k]? with
  | some (.val (.ref v)) => some (pc + n, ls, (.ref v) :: st)
  | some (.val .null) => some (pc + n, ls, .null :: st)
  | _ => none
theorem own_lda_ok (h : own_lda pc ls st k n = some r) : ∃ v, ls[k]? = some (.val v) ∧ v.isRef = true ∧ r = (pc + n, ls, v :: st) := by
  unfold own_lda at h
  split at h
  · exact ⟨_, by assumption, rfl, (Option.some.inj h).symm⟩
  · exact ⟨_, by assumption, rfl, (Option.some.inj h).symm⟩
  · exact nomatch h
def own_sti (pc : Nat) (ls : Array Slot) (st : List Value) (k n : Nat) : own_R := match st with
  | (.int v) :: u => (match storeLocals ls k (.int v) with | some l' => some (pc + n, l', u) | none => none)
  | _ => none
theorem own_sti_ok (h : own_sti pc ls st k n = some r) : ∃ v u l', st = (.int v) :: u ∧ storeLocals ls k (.int v) = some l' ∧ r = (pc + n, l', u) := by
  unfold own_sti at h
  split at h
  · split at h
    · exact ⟨_, _, _, rfl, by assumption, (Option.some.inj h).symm⟩
    · exact nomatch h
  · exact nomatch h
def own_stl (pc : Nat) (ls : Array Slot) (st : List Value) (k n : Nat) : own_R := match st with
  | (.long v) :: u => (match storeLocals ls k (.long v) with | some l' => some (pc + n, l', u) | none => none)
  | _ => none
theorem own_stl_ok (h : own_stl pc ls st k n = some r) : ∃ v u l', st = (.long v) :: u ∧ storeLocals ls k (.long v) = some l' ∧ r = (pc + n, l', u) := by
  unfold own_stl at h
  split at h
  · split at h
    · exact ⟨_, _, _, rfl, by assumption, (Option.some.inj h).symm⟩
    · exact nomatch h
  · exact nomatch h
def own_sta (pc : Nat) (ls : Array Slot) (st : List Value) (k n : Nat) : own_R := match st with
  | (.ref v) :: u => (match storeLocals ls k (.ref v) with | some l' => some (pc + n, l', u) | none => none)
  | .null :: u => (match storeLocals ls k .null with | some l' => some (pc + n, l', u) | none => none)
  | _ => none
theorem own_sta_ok (h : own_sta pc ls st k n = some r) : ∃ v u l', st = v :: u ∧ v.isRef = true ∧ storeLocals ls k v = some l' ∧ r = (pc + n, l', u) := by
  unfold own_sta at h
  split at h
  · split at h
    · exact ⟨_, _, _, rfl, rfl, by assumption, (Option.some.inj h).symm⟩
    · exact nomatch h
  · split at h
    · exact ⟨_, _, _, rfl, rfl, by assumption, (Option.some.inj h).symm⟩
    · exact nomatch h
  · exact nomatch h
def own_bii (f : Int32 → Int32 → Int32) (pc : Nat) (ls : Array Slot) (st : List Value) : own_R := match st with
  | .int y :: .int x :: u => some (pc + 1, ls, .int (f x y) :: u)
  | _ => none
theorem own_bii_ok {f : Int32 → Int32 → Int32} (h : own_bii f pc ls st = some r) : ∃ x y u, st = .int y :: .int x :: u ∧ r = (pc + 1, ls, .int (f x y) :: u) := by
  unfold own_bii at h
  split at h
  · exact ⟨_, _, _, rfl, (Option.some.inj h).symm⟩
  · exact nomatch h
def own_bll (f : Int64 → Int64 → Int64) (pc : Nat) (ls : Array Slot) (st : List Value) : own_R := match st with
  | .long y :: .long x :: u => some (pc + 1, ls, .long (f x y) :: u)
  | _ => none
theorem own_bll_ok {f : Int64 → Int64 → Int64} (h : own_bll f pc ls st = some r) : ∃ x y u, st = .long y :: .long x :: u ∧ r = (pc + 1, ls, .long (f x y) :: u) := by
  unfold own_bll at h
  split at h
  · exact ⟨_, _, _, rfl, (Option.some.inj h).symm⟩
  · exact nomatch h
def own_bli (f : Int64 → Int32 → Int64) (pc : Nat) (ls : Array Slot) (st : List Value) : own_R := match st with
  | .int y :: .long x :: u => some (pc + 1, ls, .long (f x y) :: u)
  | _ => none
theorem own_bli_ok {f : Int64 → Int32 → Int64} (h : own_bli f pc ls st = some r) : ∃ x y u, st = .int y :: .long x :: u ∧ r = (pc + 1, ls, .long (f x y) :: u) := by
  unfold own_bli at h
  split at h
  · exact ⟨_, _, _, rfl, (Option.some.inj h).symm⟩
  · exact nomatch h
def own_bci (f : Int64 → Int64 → Int32) (pc : Nat) (ls : Array Slot) (st : List Value) : own_R := match st with
  | .long y :: .long x :: u => some (pc + 1, ls, .int (f x y) :: u)
  | _ => none
theorem own_bci_ok {f : Int64 → Int64 → Int32} (h : own_bci f pc ls st = some r) : ∃ x y u, st = .long y :: .long x :: u ∧ r = (pc + 1, ls, .int (f x y) :: u) := by
  unfold own_bci at h
  split at h
  · exact ⟨_, _, _, rfl, (Option.some.inj h).symm⟩
  · exact nomatch h
def own_uii (f : Int32 → Int32) (pc : Nat) (ls : Array Slot) (st : List Value) : own_R := match st with
  | .int x :: u => some (pc + 1, ls, .int (f x) :: u)
  | _ => none
theorem own_uii_ok {f : Int32 → Int32} (h : own_uii f pc ls st = some r) : ∃ x u, st = .int x :: u ∧ r = (pc + 1, ls, .int (f x) :: u) := by
  unfold own_uii at h
  split at h
  · exact ⟨_, _, rfl, (Option.some.inj h).symm⟩
  · exact nomatch h
def own_uil (f : Int32 → Int64) (pc : Nat) (ls : Array Slot) (st : List Value) : own_R := match st with
  | .int x :: u => some (pc + 1, ls, .long (f x) :: u)
  | _ => none
theorem own_uil_ok {f : Int32 → Int64} (h : own_uil f pc ls st = some r) : ∃ x u, st = .int x :: u ∧ r = (pc + 1, ls, .long (f x) :: u) := by
  unfold own_uil at h
  split at h
  · exact ⟨_, _, rfl, (Option.some.inj h).symm⟩
  · exact nomatch h
def own_uli (f : Int64 → Int32) (pc : Nat) (ls : Array Slot) (st : List Value) : own_R := match st with
  | .long x :: u => some (pc + 1, ls, .int (f x) :: u)
  | _ => none
theorem own_uli_ok {f : Int64 → Int32} (h : own_uli f pc ls st = some r) : ∃ x u, st = .long x :: u ∧ r = (pc + 1, ls, .int (f x) :: u) := by
  unfold own_uli at h
  split at h
  · exact ⟨_, _, rfl, (Option.some.inj h).symm⟩
  · exact nomatch h
def own_ull (f : Int64 → Int64) (pc : Nat) (ls : Array Slot) (st : List Value) : own_R := match st with
  | .long x :: u => some (pc + 1, ls, .long (f x) :: u)
  | _ => none
theorem own_ull_ok {f : Int64 → Int64} (h : own_ull f pc ls st = some r) : ∃ x u, st = .long x :: u ∧ r = (pc + 1, ls, .long (f x) :: u) := by
  unfold own_ull at h
  split at h
  · exact ⟨_, _, rfl, (Option.some.inj h).symm⟩
  · exact nomatch h
def own_inc (pc : Nat) (ls : Array Slot) (st : List Value) (k : Nat) (z : Int) : own_R := match ls[k]? with
  | some (.val (.int x)) => (match storeLocals ls k (.int (x + Int32.ofInt z)) with | some l' => some (pc + 3, l', st) | none => none)
  | _ => none
theorem own_inc_ok {z : Int} (h : own_inc pc ls st k z = some r) : ∃ x l', ls[k]? = some (.val (.int x)) ∧ storeLocals ls k (.int (x + Int32.ofInt z)) = some l' ∧ r = (pc + 3, l', st) := by
  unfold own_inc at h
  split at h
  · split at h
    · exact ⟨_, _, by assumption, by assumption, (Option.some.inj h).symm⟩
    · exact nomatch h
  · exact nomatch h
def own_dp1 (pc : Nat) (ls : Array Slot) (st : List Value) : own_R := match st with
  | x :: u => own_g x.category 1 (some (pc + 1, ls, x :: x :: u))
  | _ => none
theorem own_dp1_ok (h : own_dp1 pc ls st = some r) : ∃ x u, st = x :: u ∧ x.category = 1 ∧ r = (pc + 1, ls, x :: x :: u) := by
  unfold own_dp1 at h
  split at h
  · obtain ⟨w, h⟩ := own_g_ok h; exact ⟨_, _, rfl, w, (Option.some.inj h).symm⟩
  · exact nomatch h
def own_pp1 (pc : Nat) (ls : Array Slot) (st : List Value) : own_R := match st with
  | x :: u => own_g x.category 1 (some (pc + 1, ls, u))
  | _ => none
theorem own_pp1_ok (h : own_pp1 pc ls st = some r) : ∃ x u, st = x :: u ∧ x.category = 1 ∧ r = (pc + 1, ls, u) := by
  unfold own_pp1 at h
  split at h
  · obtain ⟨w, h⟩ := own_g_ok h; exact ⟨_, _, rfl, w, (Option.some.inj h).symm⟩
  · exact nomatch h
def own_dx1 (pc : Nat) (ls : Array Slot) (st : List Value) : own_R := match st with
  | x :: y :: u => own_g x.category 1 (own_g y.category 1 (some (pc + 1, ls, x :: y :: x :: u)))
  | _ => none
theorem own_dx1_ok (h : own_dx1 pc ls st = some r) : ∃ x y u, st = x :: y :: u ∧ x.category = 1 ∧ y.category = 1 ∧ r = (pc + 1, ls, x :: y :: x :: u) := by
  unfold own_dx1 at h
  split at h
  · obtain ⟨w, h⟩ := own_g_ok h; obtain ⟨w', h⟩ := own_g_ok h; exact ⟨_, _, _, rfl, w, w', (Option.some.inj h).symm⟩
  · exact nomatch h
def own_dp2 (pc : Nat) (ls : Array Slot) (st : List Value) : own_R := match st with
  | x :: y :: u => own_g x.category 1 (own_g y.category 1 (some (pc + 1, ls, x :: y :: x :: y :: u)))
  | _ => none
theorem own_dp2_ok (h : own_dp2 pc ls st = some r) : ∃ x y u, st = x :: y :: u ∧ x.category = 1 ∧ y.category = 1 ∧ r = (pc + 1, ls, x :: y :: x :: y :: u) := by
  unfold own_dp2 at h
  split at h
  · obtain ⟨w, h⟩ := own_g_ok h; obtain ⟨w', h⟩ := own_g_ok h; exact ⟨_, _, _, rfl, w, w', (Option.some.inj h).symm⟩
  · exact nomatch h
def own_jmp (pc : Nat) (ls : Array Slot) (st : List Value) (o : Int) : own_R := match (pc : Int) + o with
  | .ofNat n => some (n, ls, st)
  | .negSucc _ => none
theorem own_jmp_ok {o : Int} (h : own_jmp pc ls st o = some r) : 0 ≤ (pc : Int) + o ∧ r = (((pc : Int) + o).toNat, ls, st) := by
  unfold own_jmp at h
  split at h
  · rename_i n w; rw [w]; exact ⟨Int.natCast_nonneg n, (Option.some.inj h).symm⟩
  · exact nomatch h
def own_ifc (cd : ClassFile.Cond) (o : Int) (pc : Nat) (ls : Array Slot) (st : List Value) : own_R := match st with
  | .int x :: u => (match ifCond.holds cd x with | true => own_jmp pc ls u o | false => some (pc + 3, ls, u))
  | _ => none
theorem own_ifc_ok {cd : ClassFile.Cond} {o : Int} (h : own_ifc cd o pc ls st = some r) : ∃ x u, st = .int x :: u ∧ ((ifCond.holds cd x = true ∧ 0 ≤ (pc : Int) + o ∧ r = (((pc : Int) + o).toNat, ls, u)) ∨ (ifCond.holds cd x = false ∧ r = (pc + 3, ls, u))) := by
  unfold own_ifc at h
  split at h
  · refine ⟨_, _, rfl, ?_⟩
    split at h
    · exact Or.inl ⟨by assumption, own_jmp_ok h⟩
    · exact Or.inr ⟨by assumption, (Option.some.inj h).symm⟩
  · exact nomatch h
def own_icm (cd : ClassFile.Cond) (o : Int) (pc : Nat) (ls : Array Slot) (st : List Value) : own_R := match st with
  | .int y :: .int x :: u => (match if_icmp.holds cd x y with | true => own_jmp pc ls u o | false => some (pc + 3, ls, u))
  | _ => none
theorem own_icm_ok {cd : ClassFile.Cond} {o : Int} (h : own_icm cd o pc ls st = some r) : ∃ x y u, st = .int y :: .int x :: u ∧ ((if_icmp.holds cd x y = true ∧ 0 ≤ (pc : Int) + o ∧ r = (((pc : Int) + o).toNat, ls, u)) ∨ (if_icmp.holds cd x y = false ∧ r = (pc + 3, ls, u))) := by
  unfold own_icm at h
  split at h
  · refine ⟨_, _, _, rfl, ?_⟩
    split at h
    · exact Or.inl ⟨by assumption, own_jmp_ok h⟩
    · exact Or.inr ⟨by assumption, (Option.some.inj h).symm⟩
  · exact nomatch h
def own_ifn (o : Int) (pc : Nat) (ls : Array Slot) (st : List Value) : own_R := match st with
  | .null :: u => own_jmp pc ls u o
  | .ref b :: u => some (pc + 3, ls, u)
  | _ => none
theorem own_ifn_ok {o : Int} (h : own_ifn o pc ls st = some r) : ∃ u, (st = .null :: u ∧ 0 ≤ (pc : Int) + o ∧ r = (((pc : Int) + o).toNat, ls, u)) ∨ (∃ b, st = .ref b :: u ∧ r = (pc + 3, ls, u)) := by
  unfold own_ifn at h
  split at h
  · exact ⟨_, Or.inl ⟨rfl, own_jmp_ok h⟩⟩
  · exact ⟨_, Or.inr ⟨_, rfl, (Option.some.inj h).symm⟩⟩
  · exact nomatch h
def own_inn (o : Int) (pc : Nat) (ls : Array Slot) (st : List Value) : own_R := match st with
  | .ref b :: u => own_jmp pc ls u o
  | .null :: u => some (pc + 3, ls, u)
  | _ => none
theorem own_inn_ok {o : Int} (h : own_inn o pc ls st = some r) : ∃ u, (∃ b, st = .ref b :: u ∧ 0 ≤ (pc : Int) + o ∧ r = (((pc : Int) + o).toNat, ls, u)) ∨ (st = .null :: u ∧ r = (pc + 3, ls, u)) := by
  unfold own_inn at h
  split at h
  · exact ⟨_, Or.inl ⟨_, rfl, own_jmp_ok h⟩⟩
  · exact ⟨_, Or.inr ⟨rfl, (Option.some.inj h).symm⟩⟩
  · exact nomatch h
def own_step (i : Instr) (ln : Nat) (pc : Nat) (ls : Array Slot) (st : List Value) : own_R := match i with
  | .iload k => own_g ln 2 (own_ldi pc ls st k 2)
  | .iload_n k => own_g ln 1 (own_ldi pc ls st k.val 1)
  | .lload k => own_g ln 2 (own_ldl pc ls st k 2)
  | .lload_n k => own_g ln 1 (own_ldl pc ls st k.val 1)
  | .aload k => own_g ln 2 (own_lda pc ls st k 2)
  | .aload_n k => own_g ln 1 (own_lda pc ls st k.val 1)
  | .istore k => own_g ln 2 (own_sti pc ls st k 2)
  | .istore_n k => own_g ln 1 (own_sti pc ls st k.val 1)
  | .lstore k => own_g ln 2 (own_stl pc ls st k 2)
  | .lstore_n k => own_g ln 1 (own_stl pc ls st k.val 1)
  | .astore k => own_g ln 2 (own_sta pc ls st k 2)
  | .astore_n k => own_g ln 1 (own_sta pc ls st k.val 1)
  | .iconst i => own_g ln 1 (some (pc + 1, ls, .int (Int32.ofInt i) :: st))
  | .bipush i => own_g ln 2 (some (pc + 2, ls, .int (Int8.ofInt i).toInt32 :: st))
  | .sipush i => own_g ln 3 (some (pc + 3, ls, .int (Int16.ofInt i).toInt32 :: st))
  | .lconst i => own_g ln 1 (some (pc + 1, ls, .long (Int64.ofNat i) :: st))
  | .aconst_null => own_g ln 1 (some (pc + 1, ls, .null :: st))
  | .iadd => own_g ln 1 (own_bii (fun x y => x + y) pc ls st)
  | .ladd => own_g ln 1 (own_bll (fun x y => x + y) pc ls st)
  | .isub => own_g ln 1 (own_bii (fun x y => x - y) pc ls st)
  | .lsub => own_g ln 1 (own_bll (fun x y => x - y) pc ls st)
  | .imul => own_g ln 1 (own_bii (fun x y => x * y) pc ls st)
  | .lmul => own_g ln 1 (own_bll (fun x y => x * y) pc ls st)
  | .iand => own_g ln 1 (own_bii (fun x y => x &&& y) pc ls st)
  | .land => own_g ln 1 (own_bll (fun x y => x &&& y) pc ls st)
  | .ior => own_g ln 1 (own_bii (fun x y => x ||| y) pc ls st)
  | .lor => own_g ln 1 (own_bll (fun x y => x ||| y) pc ls st)
  | .ixor => own_g ln 1 (own_bii (fun x y => x ^^^ y) pc ls st)
  | .lxor => own_g ln 1 (own_bll (fun x y => x ^^^ y) pc ls st)
  | .ishl => own_g ln 1 (own_bii (fun x y => x <<< (y &&& 31)) pc ls st)
  | .ishr => own_g ln 1 (own_bii (fun x y => x >>> (y &&& 31)) pc ls st)
  | .iushr => own_g ln 1 (own_bii (fun x y => (x.toUInt32 >>> (y &&& 31).toUInt32).toInt32) pc ls st)
  | .lshl => own_g ln 1 (own_bli (fun x y => x <<< (y &&& 0x3f).toInt64) pc ls st)
  | .lshr => own_g ln 1 (own_bli (fun x y => x >>> (y &&& 0x3f).toInt64) pc ls st)
  | .lushr => own_g ln 1 (own_bli (fun x y => (x.toUInt64 >>> (y &&& 0x3f).toInt64.toUInt64).toInt64) pc ls st)
  | .lcmp => own_g ln 1 (own_bci (fun x y => if x > y then 1 else if x = y then 0 else -1) pc ls st)
  | .ineg => own_g ln 1 (own_uii (fun x => -x) pc ls st)
  | .lneg => own_g ln 1 (own_ull (fun x => -x) pc ls st)
  | .i2l => own_g ln 1 (own_uil (fun x => x.toInt64) pc ls st)
  | .l2i => own_g ln 1 (own_uli (fun x => x.toInt32) pc ls st)
  | .i2b => own_g ln 1 (own_uii (fun x => x.toInt8.toInt32) pc ls st)
  | .i2s => own_g ln 1 (own_uii (fun x => x.toInt16.toInt32) pc ls st)
  | .i2c => own_g ln 1 (own_uii (fun x => x.toUInt32.toUInt16.toUInt32.toInt32) pc ls st)
  | .iinc k z => own_g ln 3 (own_inc pc ls st k z)
  | .dup => own_g ln 1 (own_dp1 pc ls st)
  | .pop => own_g ln 1 (own_pp1 pc ls st)
  | .dup_x1 => own_g ln 1 (own_dx1 pc ls st)
  | .dup2 => own_g ln 1 (own_dp2 pc ls st)
  | .goto o => own_g ln 3 (own_jmp pc ls st o)
  | .ifCond cd o => own_g ln 3 (own_ifc cd o pc ls st)
  | .if_icmp cd o => own_g ln 3 (own_icm cd o pc ls st)
  | .ifnull o => own_g ln 3 (own_ifn o pc ls st)
  | .ifnonnull o => own_g ln 3 (own_inn o pc ls st)
  | _ => none
theorem own_step_ok (X : Stand p l e R s m args below meth c T locs cells slots) (hx : p.tables.exec = Jvm.exec) {ln : Nat} (i : Instr) (hd : decode c.code pc = .ok (i, ln)) (h : own_step i ln pc ls st = some r) {t : State} (kk : Steps p.tables e below (T.setTop (mkF m r.1 r.2.1 r.2.2)) t) : Steps p.tables e below (T.setTop (mkF m pc ls st)) t := by
  cases i
  case iload k =>
    obtain ⟨rfl, h⟩ := own_g_ok h
    obtain ⟨v, hl, rfl⟩ := own_ldi_ok h
    exact XS.iload X.here hx rfl hd hl kk
  case iload_n k =>
    obtain ⟨rfl, h⟩ := own_g_ok h
    obtain ⟨v, hl, rfl⟩ := own_ldi_ok h
    exact XS.iloadN X.here hx rfl hd hl kk
  case lload k =>
    obtain ⟨rfl, h⟩ := own_g_ok h
    obtain ⟨v, hl, rfl⟩ := own_ldl_ok h
    exact XS.lload X.here hx rfl hd hl kk
  case lload_n k =>
    obtain ⟨rfl, h⟩ := own_g_ok h
    obtain ⟨v, hl, rfl⟩ := own_ldl_ok h
    exact XS.lloadN X.here hx rfl hd hl kk
  case aload k =>
    obtain ⟨rfl, h⟩ := own_g_ok h
    obtain ⟨v, hl, hv, rfl⟩ := own_lda_ok h
    exact XS.aload X.here hx rfl hd hl hv kk
  case aload_n k =>
    obtain ⟨rfl, h⟩ := own_g_ok h
    obtain ⟨v, hl, hv, rfl⟩ := own_lda_ok h
    exact XS.aloadN X.here hx rfl hd hl hv kk
  case istore k =>
    obtain ⟨rfl, h⟩ := own_g_ok h
    obtain ⟨v, u, l', rfl, hl, rfl⟩ := own_sti_ok h
    exact XS.istore X.here hx rfl hd rfl hl kk
  case istore_n k =>
    obtain ⟨rfl, h⟩ := own_g_ok h
    obtain ⟨v, u, l', rfl, hl, rfl⟩ := own_sti_ok h
    exact XS.istoreN X.here hx rfl hd rfl hl kk
  case lstore k =>
    obtain ⟨rfl, h⟩ := own_g_ok h
    obtain ⟨v, u, l', rfl, hl, rfl⟩ := own_stl_ok h
    exact XS.lstore X.here hx rfl hd rfl hl kk
  case lstore_n k =>
    obtain ⟨rfl, h⟩ := own_g_ok h
    obtain ⟨v, u, l', rfl, hl, rfl⟩ := own_stl_ok h
    exact XS.lstoreN X.here hx rfl hd rfl hl kk
  case astore k =>
    obtain ⟨rfl, h⟩ := own_g_ok h
    obtain ⟨v, u, l', rfl, hv, hl, rfl⟩ := own_sta_ok h
    exact XS.astore X.here hx rfl hd rfl hv hl kk
  case astore_n k =>
    obtain ⟨rfl, h⟩ := own_g_ok h
    obtain ⟨v, u, l', rfl, hv, hl, rfl⟩ := own_sta_ok h
    exact XS.astoreN X.here hx rfl hd rfl hv hl kk
  case iconst i =>
    obtain ⟨rfl, h⟩ := own_g_ok h
    obtain rfl := Option.some.inj h
    exact XS.iconst X.here hx rfl hd kk
  case bipush i =>
    obtain ⟨rfl, h⟩ := own_g_ok h
    obtain rfl := Option.some.inj h
    exact XS.bipush X.here hx rfl hd kk
  case sipush i =>
    obtain ⟨rfl, h⟩ := own_g_ok h
    obtain rfl := Option.some.inj h
    exact XS.sipush X.here hx rfl hd kk
  case lconst i =>
    obtain ⟨rfl, h⟩ := own_g_ok h
    obtain rfl := Option.some.inj h
    exact XS.lconst X.here hx rfl hd kk
  case aconst_null =>
    obtain ⟨rfl, h⟩ := own_g_ok h
    obtain rfl := Option.some.inj h
    exact XS.aconstNull X.here hx rfl hd kk
  case iadd =>
    obtain ⟨rfl, h⟩ := own_g_ok h
    obtain ⟨x, y, u, rfl, rfl⟩ := own_bii_ok h
    exact XS.iadd X.here hx rfl hd rfl kk
  case ladd =>
    obtain ⟨rfl, h⟩ := own_g_ok h
    obtain ⟨x, y, u, rfl, rfl⟩ := own_bll_ok h
    exact XS.ladd X.here hx rfl hd rfl kk
  case isub =>
    obtain ⟨rfl, h⟩ := own_g_ok h
    obtain ⟨x, y, u, rfl, rfl⟩ := own_bii_ok h
    exact XS.isub X.here hx rfl hd rfl kk
  case lsub =>
    obtain ⟨rfl, h⟩ := own_g_ok h
    obtain ⟨x, y, u, rfl, rfl⟩ := own_bll_ok h
    exact XS.lsub X.here hx rfl hd rfl kk
  case imul =>
    obtain ⟨rfl, h⟩ := own_g_ok h
    obtain ⟨x, y, u, rfl, rfl⟩ := own_bii_ok h
    exact XS.imul X.here hx rfl hd rfl kk
  case lmul =>
    obtain ⟨rfl, h⟩ := own_g_ok h
    obtain ⟨x, y, u, rfl, rfl⟩ := own_bll_ok h
    exact XS.lmul X.here hx rfl hd rfl kk
  case iand =>
    obtain ⟨rfl, h⟩ := own_g_ok h
    obtain ⟨x, y, u, rfl, rfl⟩ := own_bii_ok h
    exact XS.iand X.here hx rfl hd rfl kk
  case land =>
    obtain ⟨rfl, h⟩ := own_g_ok h
    obtain ⟨x, y, u, rfl, rfl⟩ := own_bll_ok h
    exact XS.land X.here hx rfl hd rfl kk
  case ior =>
    obtain ⟨rfl, h⟩ := own_g_ok h
    obtain ⟨x, y, u, rfl, rfl⟩ := own_bii_ok h
    exact XS.ior X.here hx rfl hd rfl kk
  case lor =>
    obtain ⟨rfl, h⟩ := own_g_ok h
    obtain ⟨x, y, u, rfl, rfl⟩ := own_bll_ok h
    exact XS.lor X.here hx rfl hd rfl kk
  case ixor =>
    obtain ⟨rfl, h⟩ := own_g_ok h
    obtain ⟨x, y, u, rfl, rfl⟩ := own_bii_ok h
    exact XS.ixor X.here hx rfl hd rfl kk
  case lxor =>
    obtain ⟨rfl, h⟩ := own_g_ok h
    obtain ⟨x, y, u, rfl, rfl⟩ := own_bll_ok h
    exact XS.lxor X.here hx rfl hd rfl kk
  case ishl =>
    obtain ⟨rfl, h⟩ := own_g_ok h
    obtain ⟨x, y, u, rfl, rfl⟩ := own_bii_ok h
    exact XS.ishl X.here hx rfl hd rfl kk
  case ishr =>
    obtain ⟨rfl, h⟩ := own_g_ok h
    obtain ⟨x, y, u, rfl, rfl⟩ := own_bii_ok h
    exact XS.ishr X.here hx rfl hd rfl kk
  case iushr =>
    obtain ⟨rfl, h⟩ := own_g_ok h
    obtain ⟨x, y, u, rfl, rfl⟩ := own_bii_ok h
    exact XS.iushr X.here hx rfl hd rfl kk
  case lshl =>
    obtain ⟨rfl, h⟩ := own_g_ok h
    obtain ⟨x, y, u, rfl, rfl⟩ := own_bli_ok h
    exact XS.lshl X.here hx rfl hd rfl kk
  case lshr =>
    obtain ⟨rfl, h⟩ := own_g_ok h
    obtain ⟨x, y, u, rfl, rfl⟩ := own_bli_ok h
    exact XS.lshr X.here hx rfl hd rfl kk
  case lushr =>
    obtain ⟨rfl, h⟩ := own_g_ok h
    obtain ⟨x, y, u, rfl, rfl⟩ := own_bli_ok h
    exact XS.lushr X.here hx rfl hd rfl kk
  case lcmp =>
    obtain ⟨rfl, h⟩ := own_g_ok h
    obtain ⟨x, y, u, rfl, rfl⟩ := own_bci_ok h
    exact XS.lcmp X.here hx rfl hd rfl kk
  case ineg =>
    obtain ⟨rfl, h⟩ := own_g_ok h
    obtain ⟨x, u, rfl, rfl⟩ := own_uii_ok h
    exact XS.ineg X.here hx rfl hd rfl kk
  case lneg =>
    obtain ⟨rfl, h⟩ := own_g_ok h
    obtain ⟨x, u, rfl, rfl⟩ := own_ull_ok h
    exact XS.lneg X.here hx rfl hd rfl kk
  case i2l =>
    obtain ⟨rfl, h⟩ := own_g_ok h
    obtain ⟨x, u, rfl, rfl⟩ := own_uil_ok h
    exact XS.i2l X.here hx rfl hd rfl kk
  case l2i =>
    obtain ⟨rfl, h⟩ := own_g_ok h
    obtain ⟨x, u, rfl, rfl⟩ := own_uli_ok h
    exact XS.l2i X.here hx rfl hd rfl kk
  case i2b =>
    obtain ⟨rfl, h⟩ := own_g_ok h
    obtain ⟨x, u, rfl, rfl⟩ := own_uii_ok h
    exact XS.i2b X.here hx rfl hd rfl kk
  case i2s =>
    obtain ⟨rfl, h⟩ := own_g_ok h
    obtain ⟨x, u, rfl, rfl⟩ := own_uii_ok h
    exact XS.i2s X.here hx rfl hd rfl kk
  case i2c =>
    obtain ⟨rfl, h⟩ := own_g_ok h
    obtain ⟨x, u, rfl, rfl⟩ := own_uii_ok h
    exact XS.i2c X.here hx rfl hd rfl kk
  case iinc k z =>
    obtain ⟨rfl, h⟩ := own_g_ok h
    obtain ⟨x, l', hl, hl', rfl⟩ := own_inc_ok h
    exact XS.iinc X.here hx rfl hd hl hl' kk
  case dup =>
    obtain ⟨rfl, h⟩ := own_g_ok h
    obtain ⟨x, u, rfl, w, rfl⟩ := own_dp1_ok h
    exact XS.dup X.here hx rfl hd rfl w kk
  case pop =>
    obtain ⟨rfl, h⟩ := own_g_ok h
    obtain ⟨x, u, rfl, w, rfl⟩ := own_pp1_ok h
    exact XS.pop X.here hx rfl hd rfl w kk
  case dup_x1 =>
    obtain ⟨rfl, h⟩ := own_g_ok h
    obtain ⟨x, y, u, rfl, w, w', rfl⟩ := own_dx1_ok h
    exact XS.dupX1 X.here hx rfl hd rfl w w' kk
  case dup2 =>
    obtain ⟨rfl, h⟩ := own_g_ok h
    obtain ⟨x, y, u, rfl, w, w', rfl⟩ := own_dp2_ok h
    exact own_dup2 X.here hx rfl hd rfl w w' kk
  case goto o =>
    obtain ⟨rfl, h⟩ := own_g_ok h
    obtain ⟨w, rfl⟩ := own_jmp_ok h
    exact XS.goto X.here hx rfl (pc0 := pc) rfl hd w rfl kk
  case ifCond cd o =>
    obtain ⟨rfl, h⟩ := own_g_ok h
    obtain ⟨x, u, rfl, ⟨w, w', rfl⟩ | ⟨w, rfl⟩⟩ := own_ifc_ok h
    · exact XS.ifYes X.here hx rfl (pc0 := pc) rfl hd rfl w w' rfl kk
    · exact XS.ifNo X.here hx rfl hd rfl w kk
  case if_icmp cd o =>
    obtain ⟨rfl, h⟩ := own_g_ok h
    obtain ⟨x, y, u, rfl, ⟨w, w', rfl⟩ | ⟨w, rfl⟩⟩ := own_icm_ok h
    · exact XS.icmpYes X.here hx rfl (pc0 := pc) rfl hd rfl w w' rfl kk
    · exact XS.icmpNo X.here hx rfl hd rfl w kk
  case ifnull o =>
    obtain ⟨rfl, h⟩ := own_g_ok h
    obtain ⟨u, ⟨rfl, w', rfl⟩ | ⟨b, rfl, rfl⟩⟩ := own_ifn_ok h
    · exact XS.ifnullYes X.here hx rfl (pc0 := pc) rfl hd rfl w' rfl kk
    · exact XS.ifnullNo X.here hx rfl hd rfl kk
  case ifnonnull o =>
    obtain ⟨rfl, h⟩ := own_g_ok h
    obtain ⟨u, ⟨b, rfl, w', rfl⟩ | ⟨rfl, rfl⟩⟩ := own_inn_ok h
    · exact XS.ifnonnullYes X.here hx rfl (pc0 := pc) rfl hd rfl w' rfl kk
    · exact XS.ifnonnullNo X.here hx rfl hd rfl kk
  all_goals exact nomatch (show (none : own_R) = some _ from h)
def own_fetch (M : Nat) (f : Nat → Option (Instr × Nat)) (pc : Nat) : Option (Instr × Nat) := bif Nat.ble pc M then f pc else none
def own_exec (M : Nat) (f : Nat → Option (Instr × Nat)) : Nat → Nat → Array Slot → List Value → own_R
  | 0, pc, ls, st => some (pc, ls, st)
  | n + 1, pc, ls, st => match own_fetch M f pc with
    | some (i, ln) => (match own_step i ln pc ls st with
      | some (pc', ls', st') => own_exec M f n pc' ls' st'
      | none => none)
    | none => none
def own_chk (code : ByteArray) (f : Nat → Option (Instr × Nat)) (pc : Nat) : Bool := match f pc with
  | some q => decide (decode code pc = .ok q)
  | none => true
theorem own_tab {M : Nat} {f : Nat → Option (Instr × Nat)} {code : ByteArray} (H : ∀ pc, pc < M + 1 → own_chk code f pc = true) (pc : Nat) (q : Instr × Nat) (h : own_fetch M f pc = some q) : decode code pc = .ok q := by
  unfold own_fetch at h
  cases w : Nat.ble pc M with
  | false => rw [w] at h; exact nomatch h
  | true =>
    rw [w] at h
    have h' : f pc = some q := h
    have u := H pc (Nat.lt_succ_of_le (Nat.le_of_ble_eq_true w))
    unfold own_chk at u
    rw [h'] at u
    exact of_decide_eq_true u
def own_T (p : Program) (c : Code) (M : Nat) (f : Nat → Option (Instr × Nat)) : Prop := p.tables.exec = Jvm.exec ∧ ∀ pc q, own_fetch M f pc = some q → decode c.code pc = .ok q
theorem own_tt {M : Nat} {f : Nat → Option (Instr × Nat)} {code : ByteArray} (hx : p.tables.exec = Jvm.exec) (hby : c.code = code) (H : ∀ pc q, own_fetch M f pc = some q → decode code pc = .ok q) : own_T p c M f := ⟨hx, fun pc q h => hb hby (H pc q h)⟩
theorem own_r {M : Nat} {f : Nat → Option (Instr × Nat)} (X : Stand p l e R s m args below meth c T locs cells slots) (tt : own_T p c M f) (pc n : Nat) {ls : Array Slot} {st : List Value} {pc' : Nat} {ls' : Array Slot} {st' : List Value} (h : own_exec M f n pc ls st = some (pc', ls', st')) {t : State} (kk : Steps p.tables e below (T.setTop (mkF m pc' ls' st')) t) : Steps p.tables e below (T.setTop (mkF m pc ls st)) t := by
  induction n generalizing pc ls st with
  | zero => cases h; exact kk
  | succ n ih =>
    unfold own_exec at h
    split at h
    · split at h
      · exact own_step_ok X tt.1 _ (tt.2 _ _ (by assumption)) (by assumption) (ih _ h)
      · exact nomatch h
    · exact nomatch h
theorem own_e {M : Nat} {f : Nat → Option (Instr × Nat)} (X : Stand p l e R s m args below meth c T locs cells slots) (tt : own_T p c M f) (pc n : Nat) {ls : Array Slot} {st : List Value} {pc' : Nat} {ls' : Array Slot} {st' : List Value} {t : State} (kk : Steps p.tables e below (T.setTop (mkF m pc' ls' st')) t) (h : own_exec M f n pc ls st = some (pc', ls', st')) : Steps p.tables e below (T.setTop (mkF m pc ls st)) t := own_r X tt pc n h kk
abbrev oRm (f c s l : Nat) : Room := { frames := f, cells := c, slots := s, locals := l }
abbrev own_Met (l : Launch) (y : MethodName) (b : ByteArray) (ml : Nat) (ret : Option FieldType) (ws : List Jvm.Cond) (rm : Room) (A : Array Value) (Z : State) (h0 : Heap) (Q : Option Value → Heap → List Loc → Prop) : Prop :=
  MetFree l y (head1 (Jvm.Cond.code y b ml ret :: ws) rm) (fun a U => a = A ∧ Z.Warmed39 U.vm ∧ U.heap = h0) (fun _ _ _ _ _ => True) (fun _ U o U' => ∃ v L, o = .returned v ∧ Q v U'.heap L ∧ FrameEnd U o U' L rm.cells rm.slots)
theorem own_met {l : Launch} {y : MethodName} {b : ByteArray} {ml : Nat} {ret : Option FieldType} {ws : List Jvm.Cond} {rm : Room} {A : Array Value} {Z : State} {h0 : Heap} {Q : Option Value → Heap → List Loc → Prop} {own : String} (ho : y.cls = own) (hp : plainFor y = true)
    (H : ∀ (p : Program) (e : Env) (s : State) (m : MethodId) (below : List Frame) (meth : Method) (c : Code) (s₁ : State), p.tables.exec = Jvm.exec → c.code = b → c.maxLocals = ml → Z.Warmed39 s.vm → s.vm.findClass own = some m.cls → meth.name = y.name → Stand p l e rm s m A below meth c s₁ [] 0 0 → s₁.heap = h0 → meth.sig.returnType = ret → meth.locks = false → own_Ends p e below s Q rm.cells rm.slots s₁ (entryFrame m A ml)) : own_Met l y b ml ret ws rm A Z h0 Q := by
  subst ho
  refine MetFree.of_bodySF hp hisR ?_
  intro p e s m args below meth c s₁ Bd hml0 hP hK
  obtain ⟨rfl, hZ, hh⟩ := hP
  exact H p e s m below meth c s₁ Bd.exec Bd.bytes hml0 hZ (findClass_of_methodNamed Bd.named) (name_of_methodNamed Bd.named Bd.method).1 (Stand.of_body Bd) (by rw [← hh, Bd.state]; rfl) Bd.returns Bd.notSynchronized
end Run
theorem own_addI {a b : Int32} (h1 : -2147483648 ≤ a.toInt + b.toInt) (h2 : a.toInt + b.toInt < 2147483648) : (a + b).toInt = a.toInt + b.toInt := by
  rw [Int32.toInt_add]; exact Int.bmod_eq_of_le (by omega) (by omega)
theorem own_subI {a b : Int32} (h1 : -2147483648 ≤ a.toInt - b.toInt) (h2 : a.toInt - b.toInt < 2147483648) : (a - b).toInt = a.toInt - b.toInt := by
  rw [Int32.toInt_sub]; exact Int.bmod_eq_of_le (by omega) (by omega)
theorem own_nat32 (x : Int32) (h : 0 ≤ x.toInt) : x.toInt = (x.toBitVec.toNat : Int) := by
  have e : x.toInt = x.toBitVec.toInt := rfl
  rw [BitVec.toInt_eq_toNat_cond] at e
  have := x.toBitVec.isLt
  split at e <;> omega
theorem own_maskI (x m : Int32) (h : 0 ≤ m.toInt) : 0 ≤ (x &&& m).toInt ∧ (x &&& m).toInt ≤ m.toInt := by
  have hm := own_nat32 m h
  have h1 : (x &&& m).toBitVec.toNat ≤ m.toBitVec.toNat := by rw [Int32.toBitVec_and, BitVec.toNat_and]; exact Nat.and_le_right
  have e : (x &&& m).toInt = (x &&& m).toBitVec.toInt := rfl
  have hl := Int32.toInt_lt m
  rw [e, BitVec.toInt_eq_toNat_cond]
  split <;> omega
theorem own_ltI {a b : Int32} : a < b ↔ a.toInt < b.toInt := Int32.lt_iff_toInt_lt
section OwnW
variable {p : Program} {l : Launch} {e : Env} {R : Room} {s : State} {m : MethodId} {args : Array Value} {below : List Frame} {meth : Method} {c : Code} {T T' : State} {locs : List Loc} {cells slots cc nn : Nat} {f f' : JFrame} {Q : Option Value → Heap → Vm → List Loc → Prop} {Z B : State} {h h' : Heap} {a0 : Array Value}
/-- the same where String constants may have been loaded since the start -/
def own_EndsW (p : Program) (e : Env) (below : List Frame) (s : State) (Q : Option Value → Heap → Vm → List Loc → Prop) (cc nn : Nat) (T : State) (f : JFrame) : Prop :=
  ∃ s₂ o, Steps p.tables e below (T.setTop f) s₂ ∧ s₂.status = .running ∧ Ended s₂ below o ∧ ∃ v L, o = .returned v ∧ Q v s₂.heap s₂.vm L ∧ ReturnedEndW s o s₂ L cc nn
theorem own_goW (k : ∀ t, Steps p.tables e below (T'.setTop f') t → Steps p.tables e below (T.setTop f) t) (h : own_EndsW p e below s Q cc nn T' f') : own_EndsW p e below s Q cc nn T f := by
  obtain ⟨s₂, o, h1, h2⟩ := h
  exact ⟨s₂, o, k _ h1, h2⟩
theorem own_retW {vm₁ : Vm} {n : Nat} (X : Stand p l e R (s.setVm vm₁) m args below meth c T locs cells slots) (hS : s.Since vm₁ n) (hn : n ≤ T.heap.size) {v : Option Value} (hv : meth.sig.returnType = none → v = none) (hlk : meth.locks = false)
    (st : ∀ fs, (∀ (f : JFrame) (acts : List Action), f.method = m → f.locked = none → f.entered = [] → (doReturn e (T.setTop f) acts v).1 = T.setFrames fs) → Steps p.tables e below (T.setTop f) (T.setFrames fs)) (hQ : Q v T.heap T.vm locs) (h1 : cells ≤ cc) (h2 : slots ≤ nn) :
    own_EndsW p e below s Q cc nn T f := by
  obtain ⟨fs, hr, hrun, hended, ⟨ha, hb, hc, hd⟩⟩ := X.leaveW hS hn (v := v) hv hlk
  exact ⟨_, _, st fs hr, hrun, hended, _, _, rfl, hQ, ha, hb, hc, hd.mono h1 h2⟩
theorem own_sm {vm₁ : Vm} {n n' : Nat} (h : s.Since vm₁ n) (hn : n ≤ n') : s.Since vm₁ n' := ⟨h.1, fun j p hj hp => by obtain ⟨x, y⟩ := h.2 j p hj hp; exact ⟨x, Nat.lt_of_lt_of_le y hn⟩⟩
theorem own_ib {Ts : List String} (I : IB Z B.vm Ts) (hB : B.WarmedH s.vm) : IB Z s.vm Ts := by
  obtain ⟨more, h1, h2⟩ := I
  exact ⟨more, by rw [hB.interned_eq]; exact h1, h2⟩
theorem own_backS {y : MethodName} {bytes : ByteArray} {maxL : Nat} {ret : Option FieldType} {rm : Room} {len W : Nat} {as' : Array Value}
    (hM : MetFree l y (head1 [Cond.code y bytes maxL ret] rm) (fun a U => a = as' ∧ Z.Warmed39 U.vm ∧ s.WarmedH U.vm ∧ U.heap = h) (fun _ _ _ _ _ => True) (fun _ U o U' => ∃ v L, o = .returned v ∧ Q v U'.heap U'.vm L ∧ ReturnedEndW U o U' L rm.cells rm.slots))
    (hZ : Z.Warmed39 s.vm) (wc : (Cond.code y bytes maxL ret).before a0 Z = true) (wz : (Cond.initialized y.cls).before a0 Z = true) (hf : rm.frames + 1 ≤ R.frames) (hl : W + (maxL + 11) + rm.locals ≤ R.locals) :
    BackS l R p e below s args y len W (fun A a => a = as' ∧ A.U.heap = h ∧ A.cells + rm.cells ≤ R.cells ∧ A.slots + rm.slots ≤ R.slots)
      (fun A _ v B => ∃ L, Q v B.U.heap B.U.vm L ∧ B.locs = A.locs ++ L ∧ B.cells = A.cells + rm.cells ∧ B.slots = A.slots + rm.slots) :=
  BackS.of_freeW (bytes := bytes) (maxL := maxL) (ret := ret) (E := fun _ _ o t L k n => k = rm.cells ∧ n = rm.slots ∧ ∃ v, o = .returned v ∧ Q v t.heap t.vm L) hM hf hl
    (fun _ _ _ A a Y hp => have hU : Z.Warmed39 A.U.vm := wtrans hZ Y.warmed
      ⟨by show (Cond.and _ .tt).before a A.U = true; rw [Cond.before_and, mv hU wc]; rfl, mv hU wc, mv hU wz, hp.2.2.1, hp.2.2.2⟩)
    (fun _ _ _ _ _ _ _ Y hp => ⟨hp.1, wtrans hZ Y.warmed, Y.warmed, hp.2.1⟩) (fun _ _ _ _ _ _ _ _ _ => trivial)
    (fun _ _ _ _ ⟨v, L, h1, h2, h3⟩ => ⟨L, _, _, h3, rfl, rfl, v, h1, h2⟩)
    (fun _ _ _ _ _ _ _ _ _ L _ _ _ _ _ _ ⟨e1, e2, _, e3, e4⟩ => by cases e3; subst e1 e2; exact ⟨L, e4, rfl, rfl, rfl⟩)
end OwnW
theorem own_wS {Z : State} {a0 : Array Value} (hw : ∀ d ∈ tables_1, d.before a0 Z = true) : ∀ a ∈ Bundle.stringAtoms, a.before a0 Z = true := by
  intro a ha
  have H := fun (k : Nat) (d : Jvm.Cond) (e : tables_1[k]? = some d) => hw d (List.mem_of_getElem? e)
  simp only [Bundle.stringAtoms, List.mem_cons, List.not_mem_nil, or_false] at ha
  rcases ha with rfl | rfl | rfl | rfl | rfl | rfl | rfl
  all_goals first | exact H 31 _ rfl | exact H 38 _ rfl | exact H 32 _ rfl | exact H 39 _ rfl | exact H 40 _ rfl | exact H 41 _ rfl | exact H 42 _ rfl
def own_min (x y : Int32) : Int32 := if y < x then y else x
def own_max (x y : Int32) : Int32 := if x < y then y else x
def own_dg (x : Int32) : Int32 := if x < 10 then 1 else if x < 100 then 2 else if x < 1000 then 3 else if x < 10000 then 4 else if x < 100000 then 5 else if x < 1000000 then 6 else if x < 10000000 then 7 else if x < 100000000 then 8 else if x < 1000000000 then 9 else 10
theorem own_dgb (x : Int32) : 1 ≤ (own_dg x).toInt ∧ (own_dg x).toInt ≤ 10 := by
  unfold own_dg
  repeat' split
  all_goals decide
theorem own_negI {a : Int32} (h : -2147483648 < a.toInt) : (-a).toInt = -a.toInt := by
  have h2 := Int32.toInt_lt a
  rw [Int32.toInt_neg]; exact Int.bmod_eq_of_le (by omega) (by omega)
theorem own_z32 : (0 : Int32).toInt = 0 := rfl
theorem own_ngc {x k m : Int32} (hx : ¬ x < (0 : Int32)) (h1 : m.toInt = -k.toInt) (h2 : 0 ≤ k.toInt) (h3 : k.toInt < 2147483648) : m < -x ↔ x < k := by
  have e := mt own_ltI.mpr hx
  rw [own_z32] at e
  rw [own_ltI, own_ltI, own_negI (by omega), h1]
  omega
theorem own_cl0 {nn z : Int32} (h : ¬ z < nn) : (0 : Int32).toNatClampNeg + nn.toNatClampNeg ≤ z.toNatClampNeg := by
  have e := mt own_ltI.mpr h
  show (0 : Int32).toInt.toNat + nn.toInt.toNat ≤ z.toInt.toNat
  rw [own_z32]; omega
theorem own_cl {dp nn z k : Int32} (h1 : k.toInt + nn.toInt = z.toInt) (h2 : 0 ≤ nn.toInt) (h3 : 0 ≤ k.toInt) (h : ¬ k < dp) : dp.toNatClampNeg + nn.toNatClampNeg ≤ z.toNatClampNeg := by
  have e := mt own_ltI.mpr h
  show dp.toInt.toNat + nn.toInt.toNat ≤ z.toInt.toNat
  omega
theorem own_cap {z k : Int32} {c : Nat} (h1 : k.toInt = c) (h : ¬ k < z) : z.toNatClampNeg ≤ c := by
  have e := mt own_ltI.mpr h
  show z.toInt.toNat ≤ c
  omega
theorem own_shr0 (x : Int32) : (x >>> ((0 : Int32) &&& 31)) = x := by
  rw [show ((0 : Int32) &&& 31) = 0 from by decide]
  first | exact Int32.shiftRight_zero | simp
theorem own_shl0 (x : Int32) : (x <<< ((0 : Int32) &&& 31)) = x := by
  rw [show ((0 : Int32) &&& 31) = 0 from by decide]
  first | exact Int32.shiftLeft_zero | simp
theorem own_mm {x y : Int32} (hx : ¬ x < (0 : Int32)) (hy : ¬ y < (0 : Int32)) : ¬ own_min x y < (0 : Int32) ∧ ¬ own_max x y < own_min x y := by
  have e1 := mt own_ltI.mpr hx
  have e2 := mt own_ltI.mpr hy
  unfold own_min own_max
  by_cases q : y < x
  · have q' := own_ltI.mp q
    rw [if_pos q, if_neg (fun r => by have := own_ltI.mp r; omega)]
    exact ⟨hy, fun r => by have := own_ltI.mp r; omega⟩
  · rw [if_neg q]
    refine ⟨hx, ?_⟩
    by_cases r : x < y
    · rw [if_pos r]; exact fun t => q t
    · rw [if_neg r]; exact fun t => by have := own_ltI.mp t; omega
theorem own_mk (x : Int32) : ¬ (x &&& (2147483647 : Int32)) < (0 : Int32) := by
  have h := own_maskI x 2147483647 (by decide)
  intro q
  have := own_ltI.mp q
  rw [own_z32] at this
  omega
theorem own_m10 {x : Int32} (hx : ¬ x < (0 : Int32)) : ¬ (x % (10 : Int32)) < (0 : Int32) ∧ (x % (10 : Int32)) < (10 : Int32) := by
  have e := mt own_ltI.mpr hx
  rw [own_z32] at e
  have t : (10 : Int32).toInt = 10 := rfl
  have h : (x % (10 : Int32)).toInt = x.toInt.tmod 10 := Int32.toInt_mod _ _
  rw [Int.tmod_eq_emod_of_nonneg (by omega)] at h
  refine ⟨fun q => ?_, own_ltI.mpr ?_⟩
  · have := own_ltI.mp q; rw [own_z32] at this; omega
  · rw [t]; omega
theorem own_mx10 {x y : Int32} (hx : x < (10 : Int32)) (hy : y < (10 : Int32)) : own_max x y < (10 : Int32) := by
  unfold own_max
  split
  · exact hy
  · exact hx
theorem own_ll {x y : Int32} (h : ¬ y < x) (h2 : y < (10 : Int32)) : x < (10 : Int32) := by
  have a := mt own_ltI.mpr h
  have b := own_ltI.mp h2
  exact own_ltI.mpr (by omega)
theorem own_l0 {x y : Int32} (h : ¬ x < (0 : Int32)) (h2 : ¬ y < x) : ¬ y < (0 : Int32) := by
  have a := mt own_ltI.mpr h
  have b := mt own_ltI.mpr h2
  exact fun q => by have := own_ltI.mp q; omega
theorem own_dg1 {x : Int32} (h : x < (10 : Int32)) : own_dg x = 1 := by rw [own_dg, if_pos h]
theorem own_l24 {x y : Int32} (hl : ¬ x < (0 : Int32)) (hle : ¬ y < x) (h : y < (10 : Int32)) : (24 : Int32) = (((22 : Int32) + (own_dg x)) + (own_dg y)) := by
  rw [own_dg1 h, own_dg1 (own_ll hle h)]; decide
theorem own_lg (x y : Int32) : (((((17 : Int32) + (own_dg x)) + (5 : Int32)) + (own_dg y)) >>> ((0 : Int32) &&& 31)) = (((22 : Int32) + (own_dg x)) + (own_dg y)) := by
  rw [own_shr0]
  have a := own_dgb x
  have b := own_dgb y
  have e17 : (17 : Int32).toInt = 17 := rfl
  have e5 : (5 : Int32).toInt = 5 := rfl
  have e22 : (22 : Int32).toInt = 22 := rfl
  have t1 : ((17 : Int32) + (own_dg x)).toInt = (17 : Int32).toInt + (own_dg x).toInt := own_addI (by omega) (by omega)
  have t2 : (((17 : Int32) + (own_dg x)) + (5 : Int32)).toInt = ((17 : Int32) + (own_dg x)).toInt + (5 : Int32).toInt := own_addI (by omega) (by omega)
  have t3 : ((((17 : Int32) + (own_dg x)) + (5 : Int32)) + (own_dg y)).toInt = (((17 : Int32) + (own_dg x)) + (5 : Int32)).toInt + (own_dg y).toInt := own_addI (by omega) (by omega)
  have t4 : ((22 : Int32) + (own_dg x)).toInt = (22 : Int32).toInt + (own_dg x).toInt := own_addI (by omega) (by omega)
  have t5 : (((22 : Int32) + (own_dg x)) + (own_dg y)).toInt = ((22 : Int32) + (own_dg x)).toInt + (own_dg y).toInt := own_addI (by omega) (by omega)
  exact Int32.toInt_inj.mp (by omega)
theorem own_10 {z : Int32} (h1 : ¬ z < (0 : Int32)) (h2 : z < (10 : Int32)) : z = 0 ∨ z = 1 ∨ z = 2 ∨ z = 3 ∨ z = 4 ∨ z = 5 ∨ z = 6 ∨ z = 7 ∨ z = 8 ∨ z = 9 := by
  have a := mt own_ltI.mpr h1
  have b := own_ltI.mp h2
  have t : (10 : Int32).toInt = 10 := rfl
  rw [own_z32] at a
  rw [t] at b
  have c : z.toInt = 0 ∨ z.toInt = 1 ∨ z.toInt = 2 ∨ z.toInt = 3 ∨ z.toInt = 4 ∨ z.toInt = 5 ∨ z.toInt = 6 ∨ z.toInt = 7 ∨ z.toInt = 8 ∨ z.toInt = 9 := by omega
  rcases c with q | q | q | q | q | q | q | q | q | q
  · exact Or.inl (Int32.toInt_inj.mp q)
  · exact Or.inr (Or.inl (Int32.toInt_inj.mp q))
  · exact Or.inr (Or.inr (Or.inl (Int32.toInt_inj.mp q)))
  · exact Or.inr (Or.inr (Or.inr (Or.inl (Int32.toInt_inj.mp q))))
  · exact Or.inr (Or.inr (Or.inr (Or.inr (Or.inl (Int32.toInt_inj.mp q)))))
  · exact Or.inr (Or.inr (Or.inr (Or.inr (Or.inr (Or.inl (Int32.toInt_inj.mp q))))))
  · exact Or.inr (Or.inr (Or.inr (Or.inr (Or.inr (Or.inr (Or.inl (Int32.toInt_inj.mp q)))))))
  · exact Or.inr (Or.inr (Or.inr (Or.inr (Or.inr (Or.inr (Or.inr (Or.inl (Int32.toInt_inj.mp q))))))))
  · exact Or.inr (Or.inr (Or.inr (Or.inr (Or.inr (Or.inr (Or.inr (Or.inr (Or.inl (Int32.toInt_inj.mp q)))))))))
  · exact Or.inr (Or.inr (Or.inr (Or.inr (Or.inr (Or.inr (Or.inr (Or.inr (Or.inr (Int32.toInt_inj.mp q)))))))))
theorem own_c255 {z : Int32} (h1 : ¬ z < (0 : Int32)) (h2 : z < (10 : Int32)) : ¬ (255 : Int32) < (nar .char (((48 : Int32) + z).toUInt32.toUInt16.toUInt32.toInt32)) := by
  rcases own_10 h1 h2 with rfl | rfl | rfl | rfl | rfl | rfl | rfl | rfl | rfl | rfl <;> decide +kernel
theorem own_bc {z : Int32} (h1 : ¬ z < (0 : Int32)) (h2 : z < (10 : Int32)) : (nar .byte ((48 : Int32) + z)) = (nar .byte ((nar .char (((48 : Int32) + z).toUInt32.toUInt16.toUInt32.toInt32)).toInt8.toInt32)) := by
  rcases own_10 h1 h2 with rfl | rfl | rfl | rfl | rfl | rfl | rfl | rfl | rfl | rfl <;> decide +kernel
def own_D10 (vd : List Value) : Prop := ∀ x : Int32, ¬ x < (0 : Int32) → x < (10 : Int32) → vd.getD x.toNatClampNeg (.int (0 : Int32)) = .int ((48 : Int32) + x)
theorem own_d10 {vd : List Value} {x : Int32} (h : own_D10 vd) (h1 : ¬ x < (0 : Int32)) (h2 : x < (10 : Int32)) : vd.getD (-(-x)).toNatClampNeg (.int (0 : Int32)) = .int ((48 : Int32) + x) := by
  rw [Int32.neg_neg]; exact h x h1 h2
def own_SameSt (Z : State) : Prop := ∀ (cf1 i1 : Nat) (k1 : Class) (f1 : Field) (cf2 i2 : Nat) (k2 : Class) (f2 : Field), Z.fieldFound? "java/lang/Integer" "DigitOnes" "[B" = some (cf1, k1, i1, f1) → Z.fieldFound? "java/lang/Integer" "DigitTens" "[B" = some (cf2, k2, i2, f2) → k1.statics = k2.statics
theorem own_gd {n : Nat} {f : Nat → Value} {dv : Value} {i : Nat} (h : i < n) : ((List.range n).map f).getD i dv = f i := by
  simp [List.getD_eq_getElem?_getD, h]
theorem own_open {Z : State} {h : Heap} {a : Addr} {k : ClassId} {ty : FieldType} {z : Int32} {vs : List Value} {dv : Value} (V : Arv Z h a k ty z vs dv) : ∃ us : List Value, us.length = (z).toNatClampNeg ∧ Arv Z h a k ty z us dv := by
  obtain ⟨c, A, q1, S, q3, H, G⟩ := V
  refine ⟨(List.range c.slots.size).map fun i => vs.getD i dv, by simp [S], c, A, q1, S, q3, fun i hi => ?_, fun i hi => ?_⟩
  · rw [own_gd hi]; exact H i hi
  · rw [own_gd hi]; exact G i hi
theorem own_fr {m n : Nat} {L : List Loc} (N : Fr n L) (h : m ≤ n) : Fr m L := fun y hy => Nat.le_trans h (N y hy)
theorem own_dgd {x : Int32} (hx : ¬ x < (0 : Int32)) : (own_dg x).toInt = (Jvm.Free.SBG.digits x.toInt.toNat : Int) := by
  have e := mt own_ltI.mpr hx
  rw [own_z32] at e
  have key : ∀ (k : Int32) (n : Nat), k.toInt = n → (x < k ↔ x.toInt.toNat < n) := fun k n hk => by rw [own_ltI, hk]; omega
  have d : Jvm.Free.SBG.digits x.toInt.toNat = if x.toInt.toNat < 10 then 1 else if x.toInt.toNat < 100 then 2 else if x.toInt.toNat < 1000 then 3 else if x.toInt.toNat < 10000 then 4 else if x.toInt.toNat < 100000 then 5 else if x.toInt.toNat < 1000000 then 6 else if x.toInt.toNat < 10000000 then 7 else if x.toInt.toNat < 100000000 then 8 else if x.toInt.toNat < 1000000000 then 9 else 10 := rfl
  rw [d]
  unfold own_dg
  simp only [key 10 10 rfl, key 100 100 rfl, key 1000 1000 rfl, key 10000 10000 rfl, key 100000 100000 rfl, key 1000000 1000000 rfl, key 10000000 10000000 rfl, key 100000000 100000000 rfl, key 1000000000 1000000000 rfl]
  repeat' split
  all_goals rfl
def own_gcQ (Z : State) (h : Heap) (n0 : Nat) (da : Addr) (kb : ClassId) (z : Int32) (v : Option Value) (h' : Heap) (L : List Loc) : Prop := ∃ (r : Int32) (us : List Value), v = some (.int r) ∧ Fr n0 L ∧ Keep h h' [da] ∧ us.length = (z).toNatClampNeg ∧ Arv Z h' da kb .byte z us (.int (0 : Int32))
theorem own_byteInt {v : Value} (h : fits .byte v = true) : ∃ x, v = .int x := fit_I h (by simp)
theorem own_tbl {Z : State} {h : Heap} {nm : String} {d st : Addr} {k : ClassId} {vs : List Value} {cf i : Nat} {kc : Class} {f : Field} {cell : Cell} (V : Arv Z h d k .byte (100 : Int32) vs (.int (0 : Int32))) (s1 : Z.fieldFound? "java/lang/Integer" nm "[B" = some (cf, kc, i, f)) (s2 : f.isStatic = true) (s3 : kc.init = .initialized) (s4 : kc.statics = some st) (s5 : h[st]? = some cell) (s6 : cell.vm.isStatics = true) (s7 : cell.slots[f.slot]? = some (.ref d)) :
    ∃ D : Cell, h[d]? = some D ∧ Jvm.Free.SBG.Tbl { Z with heap := h } nm st d D := by
  obtain ⟨c, ⟨A1, A2, A3⟩, -, S, -, H, G⟩ := V
  have hs : c.slots.size = 100 := S.trans (by decide)
  refine ⟨c, A1, cf, i, kc, f, cell, s1, s2, s3, s4, s5, (fun q => by rw [q] at s6; cases s6), s7, A1, A2, A3, hs, fun r hr => ?_⟩
  have hr' : r < c.slots.size := by rw [hs]; exact hr
  obtain ⟨x, hx⟩ := own_byteInt (G r hr')
  have e := H r hr'
  rw [hx] at e
  have e2 : c.slots.getD r .null = .int x := by rw [Array.getD_eq_getD_getElem?, e]; rfl
  have e3 : Jvm.Free.SBG.iAt c r = x := by show (match c.slots.getD r .null with | .int x => x | _ => 0) = x; rw [e2]
  rw [e3]; exact e
theorem own_gcBack {p : Program} {l : Launch} {e : Env} {R : Room} {s : State} {args : Array Value} {below : List Frame} {Z : State} {a0 : Array Value} {h : Heap} {n0 W : Nat} {x i z : Int32} {da wd wt : Addr} {kb kd kt : ClassId} {us vd vt : List Value} (hZ : Z.Warmed39 s.vm) (hw : ∀ d ∈ tables_1, d.before a0 Z = true)
    (V : Arv Z h da kb .byte z us (.int (0 : Int32))) (S1 : Sta Z h "java/lang/Integer" "DigitOnes" "[B" (.ref wd)) (V1 : Arv Z h wd kd .byte (100 : Int32) vd (.int (0 : Int32))) (S2 : Sta Z h "java/lang/Integer" "DigitTens" "[B" (.ref wt)) (V2 : Arv Z h wt kt .byte (100 : Int32) vt (.int (0 : Int32)))
    (n1 : da ≠ wd) (n2 : da ≠ wt) (hst : own_SameSt Z) (hx : ¬ x < (0 : Int32)) (hi : ¬ i < own_dg x) (hz : ¬ z < i) (hn : n0 ≤ da) (hfr : 2 ≤ R.frames) (hlo : W + 78 ≤ R.locals) :
    Back l R p e below s args Jvm.Free.SBG.GetChars.gcN 3 W (fun A a => a = #[.int x, .int i, .ref da] ∧ A.U.heap = h ∧ A.cells + 0 ≤ R.cells ∧ A.slots + 0 ≤ R.slots) (fun A _ v B => ∃ L, own_gcQ Z h n0 da kb z v B.U.heap L ∧ B.locs = A.locs ++ L ∧ B.cells = A.cells + 0 ∧ B.slots = A.slots + 0) := by
  intro m meth c A g ig mk a X hg hsize hdg hW hn' hp
  obtain ⟨rfl, hh, hc, hs⟩ := hp
  have hZU : Z.Warmed39 A.U.vm := wtrans hZ X.warmed
  obtain ⟨cl, Ar, hk, Sz, Ng, Hs, Ft⟩ := V
  obtain ⟨cf1, i1, k1, f1, st1, ce1, s11, s12, s13, s14, s15, s16, s17⟩ := S1
  obtain ⟨cf2, i2, k2, f2, st2, ce2, s21, s22, s23, s24, s25, s26, s27⟩ := S2
  have hst' : st1 = st2 := Option.some.inj (s14.symm.trans ((hst _ _ _ _ _ _ _ _ s11 s21).trans s24))
  subst hst'
  obtain ⟨D1, h1, T1⟩ := own_tbl V1 s11 s12 s13 s14 s15 s16 s17
  obtain ⟨D2, h2, T2⟩ := own_tbl V2 s21 s22 s23 s24 s25 s26 s27
  have ex := mt own_ltI.mpr hx
  have ei := mt own_ltI.mpr hi
  have ez := mt own_ltI.mpr hz
  have en := mt own_ltI.mpr Ng
  have eb := own_dgb x
  have ed := own_dgd hx
  have xl := Int32.toInt_lt x
  have zl := Int32.toInt_lt z
  rw [own_z32] at ex en
  have ei' : ((i.toInt.toNat).toInt32).toInt = (i.toInt.toNat : Int) := len_toInt (by omega)
  have hi' : Int32.ofNat i.toInt.toNat = i := Int32.toInt_inj.mp (ei'.trans (by omega))
  have Sz' : cl.slots.size = z.toInt.toNat := Sz
  have sg : Jvm.Free.SBG.GetChars.sgn x = 0 := if_neg hx
  have hby : ∀ j, j < cl.slots.size → fits .byte (cl.slots.getD j .null) = true := fun j hj => by
    rw [Array.getD_eq_getD_getElem?, Hs j hj]; exact Ft j hj
  have hroom : Jvm.Free.SBG.digits x.toInt.toNat + Jvm.Free.SBG.GetChars.sgn x ≤ i.toInt.toNat := by rw [sg]; omega
  have hneg : (if x < 0 then x else -x) = Jvm.Free.SBG.negI x.toInt.toNat := by
    rw [if_neg hx]
    apply Int32.toInt_inj.mp
    rw [own_negI (by omega), Jvm.Free.SBG.negI_toInt (by omega)]
    omega
  have dst : da ≠ st1 := fun q => by
    subst q
    have e1 := Ar.1
    cases e1.symm.trans s15
    have e2 := Ar.plain
    rw [s16] at e2; cases e2
  have htab : Jvm.Free.SBG.GetChars.tab.before args s = true := by
    show (Cond.and _ (Cond.and _ _)).before args s = true
    rw [Cond.before_and, Cond.before_and, Bool.and_eq_true, Bool.and_eq_true]
    exact ⟨mvT hZ (ow131 hw), mvT hZ (ow132 hw), mvT hZ (ow229 hw)⟩
  obtain ⟨v, B, X', ⟨q1, q2, q3, q4, q5, q6, L, q7, q8⟩, hs'⟩ := Jvm.Free.SBG.GetChars.pays (⟨x, x.toInt.toNat, i.toInt.toNat, da, cl, st1, wd, D1, wt, D2⟩ : Jvm.Free.SBG.GetChars.G) W htab (mvT hZ (ow122 hw)) hfr hlo m meth c A g ig mk #[.int x, .int i, .ref da] X hg hsize hdg hW hn'
    ⟨by show _ = #[Value.int x, .int (Int32.ofNat i.toInt.toNat), .ref da]; rw [hi'], hc, hs, by show _ = #[Value.int x, .int (Int32.ofNat i.toInt.toNat), .ref da]; rw [hi'], by rw [hh]; exact Ar.1, State.isArrayOf_alike hZU.alike Ar.2.1, Ar.2.2, by show cl.slots.size < 2 ^ 31; omega, by show i.toInt.toNat ≤ cl.slots.size; omega, hroom, by show x.toInt.toNat ≤ 2 ^ 31; omega, hneg,
      T1.move (U := { Z with heap := h }) (U' := A.U) hZU.alike (fun c q => by rw [hh]; exact q) (by rw [hh]; exact h1), T2.move (U := { Z with heap := h }) (U' := A.U) hZU.alike (fun c q => by rw [hh]; exact q) (by rw [hh]; exact h2), dst, n1, n2⟩
  obtain ⟨o1, o2, o3, o4, o5⟩ := Jvm.Free.SBG.GetChars.outCell_facts (⟨x, x.toInt.toNat, i.toInt.toNat, da, cl, st1, wd, D1, wt, D2⟩ : Jvm.Free.SBG.GetChars.G) (by show x.toInt.toNat ≤ 2 ^ 31; omega) hroom hby
  refine ⟨v, B, X', ⟨L, ⟨_, (Jvm.Free.SBG.GetChars.outCell (⟨x, x.toInt.toNat, i.toInt.toNat, da, cl, st1, wd, D1, wt, D2⟩ : Jvm.Free.SBG.GetChars.G)).slots.toList, q1, fun w hw => ?_, ⟨by rw [q5, hh]; exact Nat.le_refl _, fun y cy hy hne => ?_, fun y cy hy => ?_⟩, ?_, ⟨_, ⟨q2, ?_, ?_⟩, ?_, ?_, Ng, fun j hj => ?_, fun j hj => ?_⟩⟩, q7, q3, q4⟩, hs'⟩
  · rw [q8 w hw]; exact hn
  · exact q6 y cy (fun q => hne (by rw [q]; exact List.mem_singleton.mpr rfl)) (by rw [hh]; exact hy)
  · by_cases q : y = da
    · subst q
      cases Ar.1.symm.trans hy
      exact ⟨_, q2, o1, o2, o3⟩
    · exact ⟨cy, q6 y cy q (by rw [hh]; exact hy), rfl, rfl, rfl⟩
  · rw [Array.length_toList, o3]; exact Sz
  · obtain ⟨a1, kA, a2, comp, a3⟩ := Ar.2.1
    exact ⟨fun j hj => a1 j (o2 ▸ hj), kA, by rw [o1]; exact a2, comp, a3⟩
  · rw [o2]; exact Ar.2.2
  · rw [o1]; exact hk
  · rw [o3]; exact Sz
  · rw [List.getD_eq_getElem?_getD, Array.getElem?_toList, Array.getElem?_eq_getElem hj]; rfl
  · have u := o4 j hj
    rw [Array.getD_eq_getD_getElem?, Array.getElem?_eq_getElem hj] at u
    rw [List.getD_eq_getElem?_getD, Array.getElem?_toList, Array.getElem?_eq_getElem hj]; exact u
theorem own_hasV {cl : Cell} {dv : Value} : ∀ (l : List Value) (i : Nat), (∀ k, (hk : k < l.length) → cl.slots[i + k]? = some (l.getD k dv)) → HasL cl i l
  | [], _, _ => trivial
  | x :: l, i, H => ⟨H 0 (Nat.zero_lt_succ _), own_hasV l (i + 1) fun k hk => by have := H (k + 1) (Nat.succ_lt_succ hk); rwa [show i + (k + 1) = i + 1 + k by omega] at this⟩
theorem own_digits {s : State} {args a0 : Array Value} {t : Term} {a : Addr} (hf : Fit s) (ev : t.eval args s none [] s = some (.ref a)) (hex : (Cond.exactly t "[B").before args s = true) (hlen : (Cond.eq (.length t) (.int (100 : Int32))).before args s = true) (hac : (Cond.arrayClass .byte).before a0 s = true) :
    ∃ (k : ClassId) (vs : List Value) (D : Cell), Arv s s.heap a k .byte (100 : Int32) vs (.int (0 : Int32)) ∧ D.slots.size = 100 ∧ s.arrayAt? a = some D ∧ vs = D.slots.toList ∧ ∀ n, n < 100 → D.slots[n]? = some (.int (Jvm.Free.SBG.iAt D n)) := by
  obtain ⟨a', c', cell, k, e1, e2, e3, e4, e5, rfl, e7⟩ := Cond.exactly_spec hex
  cases ev.symm.trans e1
  obtain ⟨c2, k2, comp, g1, g2, g3⟩ := Cond.arrayClass_spec hac
  have g1' : s.vm.findClass "[B" = some c2 := g1
  cases g1'.symm.trans e2
  obtain ⟨x, y, h1, h2, -, -⟩ := cmp_v (Or.inl (Cond.before_iff.mp hlen))
  obtain ⟨a2, cell2, q1, q2, q3⟩ := Term.length_spec h1
  cases ev.symm.trans q1
  have hk := arrayAt_known q2
  cases e3.symm.trans (arrayAt_spec q2).1
  have A : Arr s s.heap a cell .byte := ⟨e3, ⟨fun j hj => (by rw [hj] at e5; cases e5), k2, g2, comp, g3⟩, hk⟩
  obtain ⟨hsz, hsize⟩ := Jvm.Free.IntBox.length_fwd hlen ev A.1 A.2.1 A.2.2
  have hn : cell.slots.size = 100 := by
    have e : (cell.slots.size.toInt32).toInt = cell.slots.size := len_toInt hsz
    rw [hsize] at e
    have : ((100 : Int32)).toInt = 100 := by decide
    omega
  have hg : ∀ n, n < cell.slots.size → ∃ z, cell.slots[n]? = some (.int z) := fun n hn => by
    obtain ⟨v, h1, h2⟩ := elem_fit (j := Nat.toInt32 n) hf A (idx_in hn hsz)
    obtain ⟨x, rfl⟩ := fit_I h2 (by simp)
    have e1 : (Nat.toInt32 n).toNatClampNeg = n := by simp only [Int32.toNatClampNeg, len_toInt (Nat.lt_trans hn hsz)]; rfl
    rw [e1] at h1
    exact ⟨x, h1⟩
  have hl : ∀ n, cell.slots.toList[n]? = cell.slots[n]? := fun n => Array.getElem?_toList
  refine ⟨cell.cls, cell.slots.toList, cell, Arv.start hf A hsz hsize (by decide) ?_ (own_hasV (dv := .int 0) _ 0 fun n hn => ?_), hn, q2, rfl, fun n hn' => ?_⟩
  · show (100 : Int32).toNatClampNeg = cell.slots.toList.length
    rw [Array.length_toList, hn]; rfl
  · rw [Array.length_toList] at hn
    obtain ⟨z, hz⟩ := hg n hn
    rw [Nat.zero_add, hz, List.getD_eq_getElem?_getD, hl, hz]; rfl
  · obtain ⟨z, hz⟩ := hg n (by rw [hn]; exact hn')
    have e2 : cell.slots.getD n .null = .int z := by rw [Array.getD_eq_getD_getElem?, hz]; rfl
    have e3 : Jvm.Free.SBG.iAt cell n = z := by show (match cell.slots.getD n .null with | .int x => x | _ => 0) = z; rw [e2]
    rw [e3]; exact hz
theorem own_ones {s : State} {args : Array Value} {a : Addr} {D : Cell} {vs : List Value} (ev : (Term.static "java/lang/Integer" "DigitOnes" "[B").eval args s none [] s = some (.ref a)) (hs : D.slots.size = 100) (ha : s.arrayAt? a = some D) (hv : vs = D.slots.toList) (hint : ∀ n, n < 100 → D.slots[n]? = some (.int (Jvm.Free.SBG.iAt D n)))
    (hw : (Cond.all (Term.static "java/lang/Integer" "DigitOnes" "[B") (.eq (.elem (Term.static "java/lang/Integer" "DigitOnes" "[B") (.index 0)) (.add (.int (48 : Int32)) (.rem (.index 0) (.int (10 : Int32)))))).before args s = true) : own_D10 vs := by
  have ho := Jvm.Free.SBG.held_of_word (name := "DigitOnes") (F := fun r => 48 + r % 10) (fun idx => by rw [← ev]; rfl) ha hs hint (fun r hr => by rw [← Jvm.Free.SBG.ones_num r hr]; rfl) hw
  intro x h1 h2
  have hlt : x.toNatClampNeg < 100 := by rcases own_10 h1 h2 with rfl | rfl | rfl | rfl | rfl | rfl | rfl | rfl | rfl | rfl <;> decide
  have e : Int32.ofNat (48 + x.toNatClampNeg % 10) = (48 : Int32) + x := by rcases own_10 h1 h2 with rfl | rfl | rfl | rfl | rfl | rfl | rfl | rfl | rfl | rfl <;> decide
  rw [hv, List.getD_eq_getElem?_getD, Array.getElem?_toList, hint _ hlt, ho _ hlt]
  show Value.int (Int32.ofNat (48 + x.toNatClampNeg % 10)) = _
  rw [e]
theorem own_sameSt {s : State} {args : Array Value} (w1 : (Cond.laysStatic "java/lang/Integer" "DigitOnes" "[B").before args s = true) (w2 : (Cond.laysStatic "java/lang/Integer" "DigitTens" "[B").before args s = true) : own_SameSt s := by
  intro cf1 i1 k1 f1 cf2 i2 k2 f2 h1 h2
  obtain ⟨c, k, i, f, a, cell, hc, hi, -⟩ := Cond.laysStatic_spec w1
  obtain ⟨c', k', i', f', a', cell', hc', hi', -⟩ := Cond.laysStatic_spec w2
  cases h1.symm.trans hi
  cases h2.symm.trans hi'
  cases hc.symm.trans hc'
  have e1 := (State.fieldFound?_spec hi).1
  have e2 := (State.fieldFound?_spec hi').1
  rw [Option.some.inj (e1.symm.trans e2)]
def own_t1 (pc : Nat) : Option (Instr × Nat) := bif Nat.ble pc 2 then (bif Nat.ble pc 0 then (bif Nat.beq pc 0 then some (.iload_n 0, 1) else none) else (bif Nat.ble pc 1 then (bif Nat.beq pc 1 then some (.iload_n 1, 1) else none) else (bif Nat.beq pc 2 then some (.if_icmp .gt 7, 3) else none))) else (bif Nat.ble pc 5 then (bif Nat.beq pc 5 then some (.iload_n 0, 1) else none) else (bif Nat.ble pc 6 then (bif Nat.beq pc 6 then some (.goto 4, 3) else none) else (bif Nat.beq pc 9 then some (.iload_n 1, 1) else none)))
theorem own_ok1 : ∀ pc q, own_fetch 11 own_t1 pc = some q → decode jdk_29_method_69_code pc = .ok q := own_tab (by decide +kernel)
theorem d1_2 : decode jdk_29_method_69_code 2 = .ok (.if_icmp .gt 7, 3) := by decide +kernel
theorem d1_10 : decode jdk_29_method_69_code 10 = .ok (.ireturn, 1) := by decide +kernel
theorem ef_rm1 (m : MethodId) (y0 : Int32) (y1 : Int32) : entryFrame m #[(.int y0), (.int y1)] 2 = mkF m 0 #[.val (.int y0), .val (.int y1)] [] := by first | (simp [entryFrame, mkF, argsToLocals, Value.category]; done) | rfl
def Q1 (Z : State) (y0 : Int32) (y1 : Int32) (h0 : Heap) (n0 : Nat) (v : Option Value) (h : Heap) (L : List Loc) : Prop := v = some (.int (own_min y0 y1)) ∧ Fr n0 L ∧ h = h0
set_option maxRecDepth 65536 in
set_option maxHeartbeats 40000000 in
theorem rm1 (l : Launch) (Z : State) (a0 : Array Value) (hw : ∀ d ∈ tables_1, d.before a0 Z = true) (ws : List Jvm.Cond) (y0 : Int32) (y1 : Int32) (h0 : Heap) (n0 : Nat) (Z0 : n0 ≤ h0.size) :
    own_Met l mn0 jdk_29_method_69_code 2 (some .int) ws (oRm 0 0 0 0) #[(.int y0), (.int y1)] Z h0 (Q1 Z y0 y1 h0 n0) := by
  refine own_met (own := "java/lang/Math") rfl (Jvm.Free.JP.mathPlain rfl (by decide +kernel)) ?_
  intro p e s m below meth c s₁ hx hby hml hZ hown hnm X0 e0 Br Bs
  have N0 := Fr.nil n0
  have tt := own_tt hx hby own_ok1
  rw [ef_rm1 m y0 y1]
  refine own_go (T' := s₁) (f' := (mkF m 2 #[.val (.int y0), .val (.int y1)] [(.int y1), (.int y0)])) (fun _ k => own_e X0 tt 0 2 k rfl) ?_
  by_cases hc1 : y1 < y0
  · refine own_go (T' := s₁) (f' := (mkF m 10 #[.val (.int y0), .val (.int y1)] [(.int y1)])) (fun _ k => XS.icmpYes X0.here hx rfl (pc0 := 2) (pc' := 9) rfl (hb hby d1_2) rfl (tlt hc1).2.2.1 (by decide) (by decide) (own_e X0 tt 9 1 k rfl)) ?_
    refine own_ret X0 (v := some (.int y1)) (fun h => by rw [Br] at h; cases h) Bs (fun fs hr => retI X0 hx Br (hb hby d1_10) hr) ?_ (by decide) (by decide)
    show Q1 Z y0 y1 h0 n0 _ s₁.heap _
    exact ⟨by rw [own_min, if_pos hc1], N0, e0⟩
  · refine own_go (T' := s₁) (f' := (mkF m 10 #[.val (.int y0), .val (.int y1)] [(.int y0)])) (fun _ k => XS.icmpNo X0.here hx rfl (hb hby d1_2) rfl (flt hc1).2.2.1 (own_e X0 tt 5 2 k rfl)) ?_
    refine own_ret X0 (v := some (.int y0)) (fun h => by rw [Br] at h; cases h) Bs (fun fs hr => retI X0 hx Br (hb hby d1_10) hr) ?_ (by decide) (by decide)
    show Q1 Z y0 y1 h0 n0 _ s₁.heap _
    exact ⟨by rw [own_min, if_neg hc1], N0, e0⟩
def own_t2 (pc : Nat) : Option (Instr × Nat) := bif Nat.ble pc 2 then (bif Nat.ble pc 0 then (bif Nat.beq pc 0 then some (.iload_n 0, 1) else none) else (bif Nat.ble pc 1 then (bif Nat.beq pc 1 then some (.iload_n 1, 1) else none) else (bif Nat.beq pc 2 then some (.if_icmp .lt 7, 3) else none))) else (bif Nat.ble pc 5 then (bif Nat.beq pc 5 then some (.iload_n 0, 1) else none) else (bif Nat.ble pc 6 then (bif Nat.beq pc 6 then some (.goto 4, 3) else none) else (bif Nat.beq pc 9 then some (.iload_n 1, 1) else none)))
theorem own_ok2 : ∀ pc q, own_fetch 11 own_t2 pc = some q → decode jdk_29_method_65_code pc = .ok q := own_tab (by decide +kernel)
theorem d2_2 : decode jdk_29_method_65_code 2 = .ok (.if_icmp .lt 7, 3) := by decide +kernel
theorem d2_10 : decode jdk_29_method_65_code 10 = .ok (.ireturn, 1) := by decide +kernel
theorem ef_rm2 (m : MethodId) (y0 : Int32) (y1 : Int32) : entryFrame m #[(.int y0), (.int y1)] 2 = mkF m 0 #[.val (.int y0), .val (.int y1)] [] := by first | (simp [entryFrame, mkF, argsToLocals, Value.category]; done) | rfl
def Q2 (Z : State) (y0 : Int32) (y1 : Int32) (h0 : Heap) (n0 : Nat) (v : Option Value) (h : Heap) (L : List Loc) : Prop := v = some (.int (own_max y0 y1)) ∧ Fr n0 L ∧ h = h0
set_option maxRecDepth 65536 in
set_option maxHeartbeats 40000000 in
theorem rm2 (l : Launch) (Z : State) (a0 : Array Value) (hw : ∀ d ∈ tables_1, d.before a0 Z = true) (ws : List Jvm.Cond) (y0 : Int32) (y1 : Int32) (h0 : Heap) (n0 : Nat) (Z0 : n0 ≤ h0.size) :
    own_Met l mn1 jdk_29_method_65_code 2 (some .int) ws (oRm 0 0 0 0) #[(.int y0), (.int y1)] Z h0 (Q2 Z y0 y1 h0 n0) := by
  refine own_met (own := "java/lang/Math") rfl (Jvm.Free.JP.mathPlain rfl (by decide +kernel)) ?_
  intro p e s m below meth c s₁ hx hby hml hZ hown hnm X0 e0 Br Bs
  have N0 := Fr.nil n0
  have tt := own_tt hx hby own_ok2
  rw [ef_rm2 m y0 y1]
  refine own_go (T' := s₁) (f' := (mkF m 2 #[.val (.int y0), .val (.int y1)] [(.int y1), (.int y0)])) (fun _ k => own_e X0 tt 0 2 k rfl) ?_
  by_cases hc1 : y0 < y1
  · refine own_go (T' := s₁) (f' := (mkF m 10 #[.val (.int y0), .val (.int y1)] [(.int y1)])) (fun _ k => XS.icmpYes X0.here hx rfl (pc0 := 2) (pc' := 9) rfl (hb hby d2_2) rfl (tlt hc1).1 (by decide) (by decide) (own_e X0 tt 9 1 k rfl)) ?_
    refine own_ret X0 (v := some (.int y1)) (fun h => by rw [Br] at h; cases h) Bs (fun fs hr => retI X0 hx Br (hb hby d2_10) hr) ?_ (by decide) (by decide)
    show Q2 Z y0 y1 h0 n0 _ s₁.heap _
    exact ⟨by rw [own_max, if_pos hc1], N0, e0⟩
  · refine own_go (T' := s₁) (f' := (mkF m 10 #[.val (.int y0), .val (.int y1)] [(.int y0)])) (fun _ k => XS.icmpNo X0.here hx rfl (hb hby d2_2) rfl (flt hc1).1 (own_e X0 tt 5 2 k rfl)) ?_
    refine own_ret X0 (v := some (.int y0)) (fun h => by rw [Br] at h; cases h) Bs (fun fs hr => retI X0 hx Br (hb hby d2_10) hr) ?_ (by decide) (by decide)
    show Q2 Z y0 y1 h0 n0 _ s₁.heap _
    exact ⟨by rw [own_max, if_neg hc1], N0, e0⟩
def own_t36 (pc : Nat) : Option (Instr × Nat) := bif Nat.ble pc 32 then (bif Nat.ble pc 14 then (bif Nat.ble pc 6 then (bif Nat.ble pc 1 then (bif Nat.ble pc 0 then (bif Nat.beq pc 0 then some (.iload_n 0, 1) else none) else (bif Nat.beq pc 1 then some (.bipush 10, 2) else none)) else (bif Nat.ble pc 3 then (bif Nat.beq pc 3 then some (.if_icmp .ge 5, 3) else none) else (bif Nat.beq pc 6 then some (.iconst 1, 1) else none))) else (bif Nat.ble pc 9 then (bif Nat.ble pc 8 then (bif Nat.beq pc 8 then some (.iload_n 0, 1) else none) else (bif Nat.beq pc 9 then some (.bipush 100, 2) else none)) else (bif Nat.ble pc 11 then (bif Nat.beq pc 11 then some (.if_icmp .ge 5, 3) else none) else (bif Nat.beq pc 14 then some (.iconst 2, 1) else none)))) else (bif Nat.ble pc 23 then (bif Nat.ble pc 17 then (bif Nat.ble pc 16 then (bif Nat.beq pc 16 then some (.iload_n 0, 1) else none) else (bif Nat.beq pc 17 then some (.sipush 1000, 3) else none)) else (bif Nat.ble pc 20 then (bif Nat.beq pc 20 then some (.if_icmp .ge 5, 3) else none) else (bif Nat.beq pc 23 then some (.iconst 3, 1) else none))) else (bif Nat.ble pc 26 then (bif Nat.ble pc 25 then (bif Nat.beq pc 25 then some (.iload_n 0, 1) else none) else (bif Nat.beq pc 26 then some (.sipush 10000, 3) else none)) else (bif Nat.ble pc 29 then (bif Nat.beq pc 29 then some (.if_icmp .ge 5, 3) else none) else (bif Nat.beq pc 32 then some (.iconst 4, 1) else none))))) else (bif Nat.ble pc 54 then (bif Nat.ble pc 42 then (bif Nat.ble pc 37 then (bif Nat.ble pc 34 then (bif Nat.beq pc 34 then some (.iload_n 0, 1) else none) else (bif Nat.beq pc 37 then some (.if_icmp .ge 5, 3) else none)) else (bif Nat.ble pc 40 then (bif Nat.beq pc 40 then some (.iconst 5, 1) else none) else (bif Nat.beq pc 42 then some (.iload_n 0, 1) else none))) else (bif Nat.ble pc 48 then (bif Nat.ble pc 45 then (bif Nat.beq pc 45 then some (.if_icmp .ge 6, 3) else none) else (bif Nat.beq pc 48 then some (.bipush 6, 2) else none)) else (bif Nat.ble pc 51 then (bif Nat.beq pc 51 then some (.iload_n 0, 1) else none) else (bif Nat.beq pc 54 then some (.if_icmp .ge 6, 3) else none)))) else (bif Nat.ble pc 66 then (bif Nat.ble pc 60 then (bif Nat.ble pc 57 then (bif Nat.beq pc 57 then some (.bipush 7, 2) else none) else (bif Nat.beq pc 60 then some (.iload_n 0, 1) else none)) else (bif Nat.ble pc 63 then (bif Nat.beq pc 63 then some (.if_icmp .ge 6, 3) else none) else (bif Nat.beq pc 66 then some (.bipush 8, 2) else none))) else (bif Nat.ble pc 72 then (bif Nat.ble pc 69 then (bif Nat.beq pc 69 then some (.iload_n 0, 1) else none) else (bif Nat.beq pc 72 then some (.if_icmp .ge 6, 3) else none)) else (bif Nat.ble pc 75 then (bif Nat.beq pc 75 then some (.bipush 9, 2) else none) else (bif Nat.beq pc 78 then some (.bipush 10, 2) else none)))))
theorem own_ok36 : ∀ pc q, own_fetch 81 own_t36 pc = some q → decode method_2_code pc = .ok q := own_tab (by decide +kernel)
theorem d36_3 : decode method_2_code 3 = .ok (.if_icmp .ge 5, 3) := by decide +kernel
theorem d36_7 : decode method_2_code 7 = .ok (.ireturn, 1) := by decide +kernel
theorem d36_11 : decode method_2_code 11 = .ok (.if_icmp .ge 5, 3) := by decide +kernel
theorem d36_15 : decode method_2_code 15 = .ok (.ireturn, 1) := by decide +kernel
theorem d36_20 : decode method_2_code 20 = .ok (.if_icmp .ge 5, 3) := by decide +kernel
theorem d36_24 : decode method_2_code 24 = .ok (.ireturn, 1) := by decide +kernel
theorem d36_29 : decode method_2_code 29 = .ok (.if_icmp .ge 5, 3) := by decide +kernel
theorem d36_33 : decode method_2_code 33 = .ok (.ireturn, 1) := by decide +kernel
theorem d36_35 : decode method_2_code 35 = .ok (.ldc 7, 2) := by decide +kernel
theorem d36_37 : decode method_2_code 37 = .ok (.if_icmp .ge 5, 3) := by decide +kernel
theorem d36_41 : decode method_2_code 41 = .ok (.ireturn, 1) := by decide +kernel
theorem d36_43 : decode method_2_code 43 = .ok (.ldc 8, 2) := by decide +kernel
theorem d36_45 : decode method_2_code 45 = .ok (.if_icmp .ge 6, 3) := by decide +kernel
theorem d36_50 : decode method_2_code 50 = .ok (.ireturn, 1) := by decide +kernel
theorem d36_52 : decode method_2_code 52 = .ok (.ldc 9, 2) := by decide +kernel
theorem d36_54 : decode method_2_code 54 = .ok (.if_icmp .ge 6, 3) := by decide +kernel
theorem d36_59 : decode method_2_code 59 = .ok (.ireturn, 1) := by decide +kernel
theorem d36_61 : decode method_2_code 61 = .ok (.ldc 10, 2) := by decide +kernel
theorem d36_63 : decode method_2_code 63 = .ok (.if_icmp .ge 6, 3) := by decide +kernel
theorem d36_68 : decode method_2_code 68 = .ok (.ireturn, 1) := by decide +kernel
theorem d36_70 : decode method_2_code 70 = .ok (.ldc 11, 2) := by decide +kernel
theorem d36_72 : decode method_2_code 72 = .ok (.if_icmp .ge 6, 3) := by decide +kernel
theorem d36_77 : decode method_2_code 77 = .ok (.ireturn, 1) := by decide +kernel
theorem d36_80 : decode method_2_code 80 = .ok (.ireturn, 1) := by decide +kernel
theorem pn_2 : plainName "com/example/tally_of_calls/tallyofcalls/CountsBetweenPinLaw" = true := by first | (simp [plainName, overriddenIn]; done) | decide +kernel
theorem ef_rm36 (m : MethodId) (y0 : Int32) : entryFrame m #[(.int y0)] 1 = mkF m 0 #[.val (.int y0)] [] := by first | (simp [entryFrame, mkF, argsToLocals, Value.category]; done) | rfl
def Q36 (Z : State) (y0 : Int32) (h0 : Heap) (n0 : Nat) (v : Option Value) (h : Heap) (L : List Loc) : Prop := v = some (.int (own_dg y0)) ∧ Fr n0 L ∧ h = h0
set_option maxRecDepth 65536 in
set_option maxHeartbeats 40000000 in
theorem rm36 (l : Launch) (Z : State) (a0 : Array Value) (hw : ∀ d ∈ tables_1, d.before a0 Z = true) (ws : List Jvm.Cond) (y0 : Int32) (h0 : Heap) (n0 : Nat) (Z0 : n0 ≤ h0.size) :
    own_Met l mn2 method_2_code 1 (some .int) ws (oRm 0 0 0 0) #[(.int y0)] Z h0 (Q36 Z y0 h0 n0) := by
  refine own_met (own := "com/example/tally_of_calls/tallyofcalls/CountsBetweenPinLaw") rfl (plainFor_of_name pn_2) ?_
  intro p e s m below meth c s₁ hx hby hml hZ hown hnm X0 e0 Br Bs
  have N0 := Fr.nil n0
  have tt := own_tt hx hby own_ok36
  rw [ef_rm36 m y0]
  refine own_go (T' := s₁) (f' := (mkF m 3 #[.val (.int y0)] [vI 10, (.int y0)])) (fun _ k => own_e X0 tt 0 2 k rfl) ?_
  by_cases hc1 : y0 < (10 : Int32)
  · refine own_go (T' := s₁) (f' := (mkF m 7 #[.val (.int y0)] [vI 1])) (fun _ k => XS.icmpNo X0.here hx rfl (hb hby d36_3) rfl (tlt hc1).2.1 (own_e X0 tt 6 1 k rfl)) ?_
    refine own_ret X0 (v := some (.int (1 : Int32))) (fun h => by rw [Br] at h; cases h) Bs (fun fs hr => retI X0 hx Br (hb hby d36_7) hr) ?_ (by decide) (by decide)
    show Q36 Z y0 h0 n0 _ s₁.heap _
    exact ⟨by rw [own_dg, if_pos hc1], N0, e0⟩
  · refine own_go (T' := s₁) (f' := (mkF m 11 #[.val (.int y0)] [vI 100, (.int y0)])) (fun _ k => XS.icmpYes X0.here hx rfl (pc0 := 3) (pc' := 8) rfl (hb hby d36_3) rfl (flt hc1).2.1 (by decide) (by decide) (own_e X0 tt 8 2 k rfl)) ?_
    by_cases hc2 : y0 < (100 : Int32)
    · refine own_go (T' := s₁) (f' := (mkF m 15 #[.val (.int y0)] [vI 2])) (fun _ k => XS.icmpNo X0.here hx rfl (hb hby d36_11) rfl (tlt hc2).2.1 (own_e X0 tt 14 1 k rfl)) ?_
      refine own_ret X0 (v := some (.int (2 : Int32))) (fun h => by rw [Br] at h; cases h) Bs (fun fs hr => retI X0 hx Br (hb hby d36_15) hr) ?_ (by decide) (by decide)
      show Q36 Z y0 h0 n0 _ s₁.heap _
      exact ⟨by rw [own_dg, if_neg hc1, if_pos hc2], N0, e0⟩
    · refine own_go (T' := s₁) (f' := (mkF m 20 #[.val (.int y0)] [vI 1000, (.int y0)])) (fun _ k => XS.icmpYes X0.here hx rfl (pc0 := 11) (pc' := 16) rfl (hb hby d36_11) rfl (flt hc2).2.1 (by decide) (by decide) (own_e X0 tt 16 2 k rfl)) ?_
      by_cases hc3 : y0 < (1000 : Int32)
      · refine own_go (T' := s₁) (f' := (mkF m 24 #[.val (.int y0)] [vI 3])) (fun _ k => XS.icmpNo X0.here hx rfl (hb hby d36_20) rfl (tlt hc3).2.1 (own_e X0 tt 23 1 k rfl)) ?_
        refine own_ret X0 (v := some (.int (3 : Int32))) (fun h => by rw [Br] at h; cases h) Bs (fun fs hr => retI X0 hx Br (hb hby d36_24) hr) ?_ (by decide) (by decide)
        show Q36 Z y0 h0 n0 _ s₁.heap _
        exact ⟨by rw [own_dg, if_neg hc1, if_neg hc2, if_pos hc3], N0, e0⟩
      · refine own_go (T' := s₁) (f' := (mkF m 29 #[.val (.int y0)] [vI 10000, (.int y0)])) (fun _ k => XS.icmpYes X0.here hx rfl (pc0 := 20) (pc' := 25) rfl (hb hby d36_20) rfl (flt hc3).2.1 (by decide) (by decide) (own_e X0 tt 25 2 k rfl)) ?_
        by_cases hc4 : y0 < (10000 : Int32)
        · refine own_go (T' := s₁) (f' := (mkF m 33 #[.val (.int y0)] [vI 4])) (fun _ k => XS.icmpNo X0.here hx rfl (hb hby d36_29) rfl (tlt hc4).2.1 (own_e X0 tt 32 1 k rfl)) ?_
          refine own_ret X0 (v := some (.int (4 : Int32))) (fun h => by rw [Br] at h; cases h) Bs (fun fs hr => retI X0 hx Br (hb hby d36_33) hr) ?_ (by decide) (by decide)
          show Q36 Z y0 h0 n0 _ s₁.heap _
          exact ⟨by rw [own_dg, if_neg hc1, if_neg hc2, if_neg hc3, if_pos hc4], N0, e0⟩
        · refine own_go (T' := s₁) (f' := (mkF m 37 #[.val (.int y0)] [vI 100000, (.int y0)])) (fun _ k => XS.icmpYes X0.here hx rfl (pc0 := 29) (pc' := 34) rfl (hb hby d36_29) rfl (flt hc4).2.1 (by decide) (by decide) (own_r X0 tt 34 1 rfl (X0.ldcInt hx hown (mvT hZ (ow239 hw)) (g := (mkF m 35 #[.val (.int y0)] [(.int y0)])) rfl (hb hby d36_35) _ k))) ?_
          by_cases hc5 : y0 < (100000 : Int32)
          · refine own_go (T' := s₁) (f' := (mkF m 41 #[.val (.int y0)] [vI 5])) (fun _ k => XS.icmpNo X0.here hx rfl (hb hby d36_37) rfl (tlt hc5).2.1 (own_e X0 tt 40 1 k rfl)) ?_
            refine own_ret X0 (v := some (.int (5 : Int32))) (fun h => by rw [Br] at h; cases h) Bs (fun fs hr => retI X0 hx Br (hb hby d36_41) hr) ?_ (by decide) (by decide)
            show Q36 Z y0 h0 n0 _ s₁.heap _
            exact ⟨by rw [own_dg, if_neg hc1, if_neg hc2, if_neg hc3, if_neg hc4, if_pos hc5], N0, e0⟩
          · refine own_go (T' := s₁) (f' := (mkF m 45 #[.val (.int y0)] [vI 1000000, (.int y0)])) (fun _ k => XS.icmpYes X0.here hx rfl (pc0 := 37) (pc' := 42) rfl (hb hby d36_37) rfl (flt hc5).2.1 (by decide) (by decide) (own_r X0 tt 42 1 rfl (X0.ldcInt hx hown (mvT hZ (ow240 hw)) (g := (mkF m 43 #[.val (.int y0)] [(.int y0)])) rfl (hb hby d36_43) _ k))) ?_
            by_cases hc6 : y0 < (1000000 : Int32)
            · refine own_go (T' := s₁) (f' := (mkF m 50 #[.val (.int y0)] [vI 6])) (fun _ k => XS.icmpNo X0.here hx rfl (hb hby d36_45) rfl (tlt hc6).2.1 (own_e X0 tt 48 1 k rfl)) ?_
              refine own_ret X0 (v := some (.int (6 : Int32))) (fun h => by rw [Br] at h; cases h) Bs (fun fs hr => retI X0 hx Br (hb hby d36_50) hr) ?_ (by decide) (by decide)
              show Q36 Z y0 h0 n0 _ s₁.heap _
              exact ⟨by rw [own_dg, if_neg hc1, if_neg hc2, if_neg hc3, if_neg hc4, if_neg hc5, if_pos hc6], N0, e0⟩
            · refine own_go (T' := s₁) (f' := (mkF m 54 #[.val (.int y0)] [vI 10000000, (.int y0)])) (fun _ k => XS.icmpYes X0.here hx rfl (pc0 := 45) (pc' := 51) rfl (hb hby d36_45) rfl (flt hc6).2.1 (by decide) (by decide) (own_r X0 tt 51 1 rfl (X0.ldcInt hx hown (mvT hZ (ow241 hw)) (g := (mkF m 52 #[.val (.int y0)] [(.int y0)])) rfl (hb hby d36_52) _ k))) ?_
              by_cases hc7 : y0 < (10000000 : Int32)
              · refine own_go (T' := s₁) (f' := (mkF m 59 #[.val (.int y0)] [vI 7])) (fun _ k => XS.icmpNo X0.here hx rfl (hb hby d36_54) rfl (tlt hc7).2.1 (own_e X0 tt 57 1 k rfl)) ?_
                refine own_ret X0 (v := some (.int (7 : Int32))) (fun h => by rw [Br] at h; cases h) Bs (fun fs hr => retI X0 hx Br (hb hby d36_59) hr) ?_ (by decide) (by decide)
                show Q36 Z y0 h0 n0 _ s₁.heap _
                exact ⟨by rw [own_dg, if_neg hc1, if_neg hc2, if_neg hc3, if_neg hc4, if_neg hc5, if_neg hc6, if_pos hc7], N0, e0⟩
              · refine own_go (T' := s₁) (f' := (mkF m 63 #[.val (.int y0)] [vI 100000000, (.int y0)])) (fun _ k => XS.icmpYes X0.here hx rfl (pc0 := 54) (pc' := 60) rfl (hb hby d36_54) rfl (flt hc7).2.1 (by decide) (by decide) (own_r X0 tt 60 1 rfl (X0.ldcInt hx hown (mvT hZ (ow242 hw)) (g := (mkF m 61 #[.val (.int y0)] [(.int y0)])) rfl (hb hby d36_61) _ k))) ?_
                by_cases hc8 : y0 < (100000000 : Int32)
                · refine own_go (T' := s₁) (f' := (mkF m 68 #[.val (.int y0)] [vI 8])) (fun _ k => XS.icmpNo X0.here hx rfl (hb hby d36_63) rfl (tlt hc8).2.1 (own_e X0 tt 66 1 k rfl)) ?_
                  refine own_ret X0 (v := some (.int (8 : Int32))) (fun h => by rw [Br] at h; cases h) Bs (fun fs hr => retI X0 hx Br (hb hby d36_68) hr) ?_ (by decide) (by decide)
                  show Q36 Z y0 h0 n0 _ s₁.heap _
                  exact ⟨by rw [own_dg, if_neg hc1, if_neg hc2, if_neg hc3, if_neg hc4, if_neg hc5, if_neg hc6, if_neg hc7, if_pos hc8], N0, e0⟩
                · refine own_go (T' := s₁) (f' := (mkF m 72 #[.val (.int y0)] [vI 1000000000, (.int y0)])) (fun _ k => XS.icmpYes X0.here hx rfl (pc0 := 63) (pc' := 69) rfl (hb hby d36_63) rfl (flt hc8).2.1 (by decide) (by decide) (own_r X0 tt 69 1 rfl (X0.ldcInt hx hown (mvT hZ (ow243 hw)) (g := (mkF m 70 #[.val (.int y0)] [(.int y0)])) rfl (hb hby d36_70) _ k))) ?_
                  by_cases hc9 : y0 < (1000000000 : Int32)
                  · refine own_go (T' := s₁) (f' := (mkF m 77 #[.val (.int y0)] [vI 9])) (fun _ k => XS.icmpNo X0.here hx rfl (hb hby d36_72) rfl (tlt hc9).2.1 (own_e X0 tt 75 1 k rfl)) ?_
                    refine own_ret X0 (v := some (.int (9 : Int32))) (fun h => by rw [Br] at h; cases h) Bs (fun fs hr => retI X0 hx Br (hb hby d36_77) hr) ?_ (by decide) (by decide)
                    show Q36 Z y0 h0 n0 _ s₁.heap _
                    exact ⟨by rw [own_dg, if_neg hc1, if_neg hc2, if_neg hc3, if_neg hc4, if_neg hc5, if_neg hc6, if_neg hc7, if_neg hc8, if_pos hc9], N0, e0⟩
                  · refine own_go (T' := s₁) (f' := (mkF m 80 #[.val (.int y0)] [vI 10])) (fun _ k => XS.icmpYes X0.here hx rfl (pc0 := 72) (pc' := 78) rfl (hb hby d36_72) rfl (flt hc9).2.1 (by decide) (by decide) (own_e X0 tt 78 1 k rfl)) ?_
                    refine own_ret X0 (v := some (.int (10 : Int32))) (fun h => by rw [Br] at h; cases h) Bs (fun fs hr => retI X0 hx Br (hb hby d36_80) hr) ?_ (by decide) (by decide)
                    show Q36 Z y0 h0 n0 _ s₁.heap _
                    exact ⟨by rw [own_dg, if_neg hc1, if_neg hc2, if_neg hc3, if_neg hc4, if_neg hc5, if_neg hc6, if_neg hc7, if_neg hc8, if_neg hc9], N0, e0⟩
def own_t20 (pc : Nat) : Option (Instr × Nat) := bif Nat.ble pc 17 then (bif Nat.ble pc 8 then (bif Nat.ble pc 2 then (bif Nat.ble pc 0 then (bif Nat.beq pc 0 then some (.iconst 1, 1) else none) else (bif Nat.ble pc 1 then (bif Nat.beq pc 1 then some (.istore_n 1, 1) else none) else (bif Nat.beq pc 2 then some (.iload_n 0, 1) else none))) else (bif Nat.ble pc 6 then (bif Nat.ble pc 3 then (bif Nat.beq pc 3 then some (.ifCond .lt 8, 3) else none) else (bif Nat.beq pc 6 then some (.iconst 0, 1) else none)) else (bif Nat.ble pc 7 then (bif Nat.beq pc 7 then some (.istore_n 1, 1) else none) else (bif Nat.beq pc 8 then some (.iload_n 0, 1) else none)))) else (bif Nat.ble pc 13 then (bif Nat.ble pc 10 then (bif Nat.ble pc 9 then (bif Nat.beq pc 9 then some (.ineg, 1) else none) else (bif Nat.beq pc 10 then some (.istore_n 0, 1) else none)) else (bif Nat.ble pc 11 then (bif Nat.beq pc 11 then some (.bipush (-10), 2) else none) else (bif Nat.beq pc 13 then some (.istore_n 2, 1) else none))) else (bif Nat.ble pc 15 then (bif Nat.ble pc 14 then (bif Nat.beq pc 14 then some (.iconst 1, 1) else none) else (bif Nat.beq pc 15 then some (.istore_n 3, 1) else none)) else (bif Nat.ble pc 16 then (bif Nat.beq pc 16 then some (.iload_n 3, 1) else none) else (bif Nat.beq pc 17 then some (.bipush 10, 2) else none))))) else (bif Nat.ble pc 31 then (bif Nat.ble pc 24 then (bif Nat.ble pc 22 then (bif Nat.ble pc 19 then (bif Nat.beq pc 19 then some (.if_icmp .ge 23, 3) else none) else (bif Nat.beq pc 22 then some (.iload_n 0, 1) else none)) else (bif Nat.ble pc 23 then (bif Nat.beq pc 23 then some (.iload_n 2, 1) else none) else (bif Nat.beq pc 24 then some (.if_icmp .le 7, 3) else none))) else (bif Nat.ble pc 28 then (bif Nat.ble pc 27 then (bif Nat.beq pc 27 then some (.iload_n 3, 1) else none) else (bif Nat.beq pc 28 then some (.iload_n 1, 1) else none)) else (bif Nat.ble pc 29 then (bif Nat.beq pc 29 then some (.iadd, 1) else none) else (bif Nat.beq pc 31 then some (.bipush 10, 2) else none)))) else (bif Nat.ble pc 36 then (bif Nat.ble pc 34 then (bif Nat.ble pc 33 then (bif Nat.beq pc 33 then some (.iload_n 2, 1) else none) else (bif Nat.beq pc 34 then some (.imul, 1) else none)) else (bif Nat.ble pc 35 then (bif Nat.beq pc 35 then some (.istore_n 2, 1) else none) else (bif Nat.beq pc 36 then some (.iinc 3 1, 3) else none))) else (bif Nat.ble pc 42 then (bif Nat.ble pc 39 then (bif Nat.beq pc 39 then some (.goto (-23), 3) else none) else (bif Nat.beq pc 42 then some (.bipush 10, 2) else none)) else (bif Nat.ble pc 44 then (bif Nat.beq pc 44 then some (.iload_n 1, 1) else none) else (bif Nat.beq pc 45 then some (.iadd, 1) else none)))))
theorem own_ok20 : ∀ pc q, own_fetch 47 own_t20 pc = some q → decode jdk_33_method_13_code pc = .ok q := own_tab (by decide +kernel)
theorem d20_3 : decode jdk_33_method_13_code 3 = .ok (.ifCond .lt 8, 3) := by decide +kernel
theorem d20_24 : decode jdk_33_method_13_code 24 = .ok (.if_icmp .le 7, 3) := by decide +kernel
theorem d20_30 : decode jdk_33_method_13_code 30 = .ok (.ireturn, 1) := by decide +kernel
theorem d20_46 : decode jdk_33_method_13_code 46 = .ok (.ireturn, 1) := by decide +kernel
theorem pn_4 : plainName "java/lang/Integer" = true := by first | (simp [plainName, overriddenIn]; done) | decide +kernel
theorem ef_rm20 (m : MethodId) (y0 : Int32) : entryFrame m #[(.int y0)] 4 = mkF m 0 #[.val (.int y0), .unset, .unset, .unset] [] := by first | (simp [entryFrame, mkF, argsToLocals, Value.category]; done) | rfl
def Q20 (Z : State) (y0 : Int32) (h0 : Heap) (n0 : Nat) (v : Option Value) (h : Heap) (L : List Loc) : Prop := v = some (.int (own_dg y0)) ∧ Fr n0 L ∧ h = h0
set_option maxRecDepth 65536 in
set_option maxHeartbeats 40000000 in
theorem rm20 (l : Launch) (Z : State) (a0 : Array Value) (hw : ∀ d ∈ tables_1, d.before a0 Z = true) (ws : List Jvm.Cond) (y0 : Int32) (h0 : Heap) (n0 : Nat) (Z0 : n0 ≤ h0.size) (hy : ¬ y0 < (0 : Int32)) :
    own_Met l mn3 jdk_33_method_13_code 4 (some .int) ws (oRm 0 0 0 0) #[(.int y0)] Z h0 (Q20 Z y0 h0 n0) := by
  refine own_met (own := "java/lang/Integer") rfl (plainFor_of_name pn_4) ?_
  intro p e s m below meth c s₁ hx hby hml hZ hown hnm X0 e0 Br Bs
  have N0 := Fr.nil n0
  have tt := own_tt hx hby own_ok20
  rw [ef_rm20 m y0]
  refine own_go (T' := s₁) (f' := (mkF m 24 #[.val (.int (-y0)), oI 0, oI (-10), oI 1] [vI (-10), (.int (-y0))])) (fun _ k => own_r X0 tt 0 3 rfl (XS.ifNo X0.here hx rfl (hb hby d20_3) rfl ((if0 _ _).trans (flt hy).1) (own_e X0 tt 6 14 k rfl))) ?_
  by_cases hc1 : (-10 : Int32) < (-y0)
  · refine own_go (T' := s₁) (f' := (mkF m 30 #[.val (.int (-y0)), oI 0, oI (-10), oI 1] [vI 1])) (fun _ k => XS.icmpNo X0.here hx rfl (hb hby d20_24) rfl (tlt hc1).2.2.2 (own_e X0 tt 27 3 k rfl)) ?_
    refine own_ret X0 (v := some (.int (1 : Int32))) (fun h => by rw [Br] at h; cases h) Bs (fun fs hr => retI X0 hx Br (hb hby d20_30) hr) ?_ (by decide) (by decide)
    show Q20 Z y0 h0 n0 _ s₁.heap _
    exact ⟨by rw [own_dg, if_pos ((own_ngc hy (k := 10) (m := -10) (by decide) (by decide) (by decide)).mp hc1)], N0, e0⟩
  · refine own_go (T' := s₁) (f' := (mkF m 24 #[.val (.int (-y0)), oI 0, oI (-100), oI 2] [vI (-100), (.int (-y0))])) (fun _ k => XS.icmpYes X0.here hx rfl (pc0 := 24) (pc' := 31) rfl (hb hby d20_24) rfl (flt hc1).2.2.2 (by decide) (by decide) (own_e X0 tt 31 11 k rfl)) ?_
    by_cases hc2 : (-100 : Int32) < (-y0)
    · refine own_go (T' := s₁) (f' := (mkF m 30 #[.val (.int (-y0)), oI 0, oI (-100), oI 2] [vI 2])) (fun _ k => XS.icmpNo X0.here hx rfl (hb hby d20_24) rfl (tlt hc2).2.2.2 (own_e X0 tt 27 3 k rfl)) ?_
      refine own_ret X0 (v := some (.int (2 : Int32))) (fun h => by rw [Br] at h; cases h) Bs (fun fs hr => retI X0 hx Br (hb hby d20_30) hr) ?_ (by decide) (by decide)
      show Q20 Z y0 h0 n0 _ s₁.heap _
      exact ⟨by rw [own_dg, if_neg (fun q => hc1 ((own_ngc hy (k := 10) (m := -10) (by decide) (by decide) (by decide)).mpr q)), if_pos ((own_ngc hy (k := 100) (m := -100) (by decide) (by decide) (by decide)).mp hc2)], N0, e0⟩
    · refine own_go (T' := s₁) (f' := (mkF m 24 #[.val (.int (-y0)), oI 0, oI (-1000), oI 3] [vI (-1000), (.int (-y0))])) (fun _ k => XS.icmpYes X0.here hx rfl (pc0 := 24) (pc' := 31) rfl (hb hby d20_24) rfl (flt hc2).2.2.2 (by decide) (by decide) (own_e X0 tt 31 11 k rfl)) ?_
      by_cases hc3 : (-1000 : Int32) < (-y0)
      · refine own_go (T' := s₁) (f' := (mkF m 30 #[.val (.int (-y0)), oI 0, oI (-1000), oI 3] [vI 3])) (fun _ k => XS.icmpNo X0.here hx rfl (hb hby d20_24) rfl (tlt hc3).2.2.2 (own_e X0 tt 27 3 k rfl)) ?_
        refine own_ret X0 (v := some (.int (3 : Int32))) (fun h => by rw [Br] at h; cases h) Bs (fun fs hr => retI X0 hx Br (hb hby d20_30) hr) ?_ (by decide) (by decide)
        show Q20 Z y0 h0 n0 _ s₁.heap _
        exact ⟨by rw [own_dg, if_neg (fun q => hc1 ((own_ngc hy (k := 10) (m := -10) (by decide) (by decide) (by decide)).mpr q)), if_neg (fun q => hc2 ((own_ngc hy (k := 100) (m := -100) (by decide) (by decide) (by decide)).mpr q)), if_pos ((own_ngc hy (k := 1000) (m := -1000) (by decide) (by decide) (by decide)).mp hc3)], N0, e0⟩
      · refine own_go (T' := s₁) (f' := (mkF m 24 #[.val (.int (-y0)), oI 0, oI (-10000), oI 4] [vI (-10000), (.int (-y0))])) (fun _ k => XS.icmpYes X0.here hx rfl (pc0 := 24) (pc' := 31) rfl (hb hby d20_24) rfl (flt hc3).2.2.2 (by decide) (by decide) (own_e X0 tt 31 11 k rfl)) ?_
        by_cases hc4 : (-10000 : Int32) < (-y0)
        · refine own_go (T' := s₁) (f' := (mkF m 30 #[.val (.int (-y0)), oI 0, oI (-10000), oI 4] [vI 4])) (fun _ k => XS.icmpNo X0.here hx rfl (hb hby d20_24) rfl (tlt hc4).2.2.2 (own_e X0 tt 27 3 k rfl)) ?_
          refine own_ret X0 (v := some (.int (4 : Int32))) (fun h => by rw [Br] at h; cases h) Bs (fun fs hr => retI X0 hx Br (hb hby d20_30) hr) ?_ (by decide) (by decide)
          show Q20 Z y0 h0 n0 _ s₁.heap _
          exact ⟨by rw [own_dg, if_neg (fun q => hc1 ((own_ngc hy (k := 10) (m := -10) (by decide) (by decide) (by decide)).mpr q)), if_neg (fun q => hc2 ((own_ngc hy (k := 100) (m := -100) (by decide) (by decide) (by decide)).mpr q)), if_neg (fun q => hc3 ((own_ngc hy (k := 1000) (m := -1000) (by decide) (by decide) (by decide)).mpr q)), if_pos ((own_ngc hy (k := 10000) (m := -10000) (by decide) (by decide) (by decide)).mp hc4)], N0, e0⟩
        · refine own_go (T' := s₁) (f' := (mkF m 24 #[.val (.int (-y0)), oI 0, oI (-100000), oI 5] [vI (-100000), (.int (-y0))])) (fun _ k => XS.icmpYes X0.here hx rfl (pc0 := 24) (pc' := 31) rfl (hb hby d20_24) rfl (flt hc4).2.2.2 (by decide) (by decide) (own_e X0 tt 31 11 k rfl)) ?_
          by_cases hc5 : (-100000 : Int32) < (-y0)
          · refine own_go (T' := s₁) (f' := (mkF m 30 #[.val (.int (-y0)), oI 0, oI (-100000), oI 5] [vI 5])) (fun _ k => XS.icmpNo X0.here hx rfl (hb hby d20_24) rfl (tlt hc5).2.2.2 (own_e X0 tt 27 3 k rfl)) ?_
            refine own_ret X0 (v := some (.int (5 : Int32))) (fun h => by rw [Br] at h; cases h) Bs (fun fs hr => retI X0 hx Br (hb hby d20_30) hr) ?_ (by decide) (by decide)
            show Q20 Z y0 h0 n0 _ s₁.heap _
            exact ⟨by rw [own_dg, if_neg (fun q => hc1 ((own_ngc hy (k := 10) (m := -10) (by decide) (by decide) (by decide)).mpr q)), if_neg (fun q => hc2 ((own_ngc hy (k := 100) (m := -100) (by decide) (by decide) (by decide)).mpr q)), if_neg (fun q => hc3 ((own_ngc hy (k := 1000) (m := -1000) (by decide) (by decide) (by decide)).mpr q)), if_neg (fun q => hc4 ((own_ngc hy (k := 10000) (m := -10000) (by decide) (by decide) (by decide)).mpr q)), if_pos ((own_ngc hy (k := 100000) (m := -100000) (by decide) (by decide) (by decide)).mp hc5)], N0, e0⟩
          · refine own_go (T' := s₁) (f' := (mkF m 24 #[.val (.int (-y0)), oI 0, oI (-1000000), oI 6] [vI (-1000000), (.int (-y0))])) (fun _ k => XS.icmpYes X0.here hx rfl (pc0 := 24) (pc' := 31) rfl (hb hby d20_24) rfl (flt hc5).2.2.2 (by decide) (by decide) (own_e X0 tt 31 11 k rfl)) ?_
            by_cases hc6 : (-1000000 : Int32) < (-y0)
            · refine own_go (T' := s₁) (f' := (mkF m 30 #[.val (.int (-y0)), oI 0, oI (-1000000), oI 6] [vI 6])) (fun _ k => XS.icmpNo X0.here hx rfl (hb hby d20_24) rfl (tlt hc6).2.2.2 (own_e X0 tt 27 3 k rfl)) ?_
              refine own_ret X0 (v := some (.int (6 : Int32))) (fun h => by rw [Br] at h; cases h) Bs (fun fs hr => retI X0 hx Br (hb hby d20_30) hr) ?_ (by decide) (by decide)
              show Q20 Z y0 h0 n0 _ s₁.heap _
              exact ⟨by rw [own_dg, if_neg (fun q => hc1 ((own_ngc hy (k := 10) (m := -10) (by decide) (by decide) (by decide)).mpr q)), if_neg (fun q => hc2 ((own_ngc hy (k := 100) (m := -100) (by decide) (by decide) (by decide)).mpr q)), if_neg (fun q => hc3 ((own_ngc hy (k := 1000) (m := -1000) (by decide) (by decide) (by decide)).mpr q)), if_neg (fun q => hc4 ((own_ngc hy (k := 10000) (m := -10000) (by decide) (by decide) (by decide)).mpr q)), if_neg (fun q => hc5 ((own_ngc hy (k := 100000) (m := -100000) (by decide) (by decide) (by decide)).mpr q)), if_pos ((own_ngc hy (k := 1000000) (m := -1000000) (by decide) (by decide) (by decide)).mp hc6)], N0, e0⟩
            · refine own_go (T' := s₁) (f' := (mkF m 24 #[.val (.int (-y0)), oI 0, oI (-10000000), oI 7] [vI (-10000000), (.int (-y0))])) (fun _ k => XS.icmpYes X0.here hx rfl (pc0 := 24) (pc' := 31) rfl (hb hby d20_24) rfl (flt hc6).2.2.2 (by decide) (by decide) (own_e X0 tt 31 11 k rfl)) ?_
              by_cases hc7 : (-10000000 : Int32) < (-y0)
              · refine own_go (T' := s₁) (f' := (mkF m 30 #[.val (.int (-y0)), oI 0, oI (-10000000), oI 7] [vI 7])) (fun _ k => XS.icmpNo X0.here hx rfl (hb hby d20_24) rfl (tlt hc7).2.2.2 (own_e X0 tt 27 3 k rfl)) ?_
                refine own_ret X0 (v := some (.int (7 : Int32))) (fun h => by rw [Br] at h; cases h) Bs (fun fs hr => retI X0 hx Br (hb hby d20_30) hr) ?_ (by decide) (by decide)
                show Q20 Z y0 h0 n0 _ s₁.heap _
                exact ⟨by rw [own_dg, if_neg (fun q => hc1 ((own_ngc hy (k := 10) (m := -10) (by decide) (by decide) (by decide)).mpr q)), if_neg (fun q => hc2 ((own_ngc hy (k := 100) (m := -100) (by decide) (by decide) (by decide)).mpr q)), if_neg (fun q => hc3 ((own_ngc hy (k := 1000) (m := -1000) (by decide) (by decide) (by decide)).mpr q)), if_neg (fun q => hc4 ((own_ngc hy (k := 10000) (m := -10000) (by decide) (by decide) (by decide)).mpr q)), if_neg (fun q => hc5 ((own_ngc hy (k := 100000) (m := -100000) (by decide) (by decide) (by decide)).mpr q)), if_neg (fun q => hc6 ((own_ngc hy (k := 1000000) (m := -1000000) (by decide) (by decide) (by decide)).mpr q)), if_pos ((own_ngc hy (k := 10000000) (m := -10000000) (by decide) (by decide) (by decide)).mp hc7)], N0, e0⟩
              · refine own_go (T' := s₁) (f' := (mkF m 24 #[.val (.int (-y0)), oI 0, oI (-100000000), oI 8] [vI (-100000000), (.int (-y0))])) (fun _ k => XS.icmpYes X0.here hx rfl (pc0 := 24) (pc' := 31) rfl (hb hby d20_24) rfl (flt hc7).2.2.2 (by decide) (by decide) (own_e X0 tt 31 11 k rfl)) ?_
                by_cases hc8 : (-100000000 : Int32) < (-y0)
                · refine own_go (T' := s₁) (f' := (mkF m 30 #[.val (.int (-y0)), oI 0, oI (-100000000), oI 8] [vI 8])) (fun _ k => XS.icmpNo X0.here hx rfl (hb hby d20_24) rfl (tlt hc8).2.2.2 (own_e X0 tt 27 3 k rfl)) ?_
                  refine own_ret X0 (v := some (.int (8 : Int32))) (fun h => by rw [Br] at h; cases h) Bs (fun fs hr => retI X0 hx Br (hb hby d20_30) hr) ?_ (by decide) (by decide)
                  show Q20 Z y0 h0 n0 _ s₁.heap _
                  exact ⟨by rw [own_dg, if_neg (fun q => hc1 ((own_ngc hy (k := 10) (m := -10) (by decide) (by decide) (by decide)).mpr q)), if_neg (fun q => hc2 ((own_ngc hy (k := 100) (m := -100) (by decide) (by decide) (by decide)).mpr q)), if_neg (fun q => hc3 ((own_ngc hy (k := 1000) (m := -1000) (by decide) (by decide) (by decide)).mpr q)), if_neg (fun q => hc4 ((own_ngc hy (k := 10000) (m := -10000) (by decide) (by decide) (by decide)).mpr q)), if_neg (fun q => hc5 ((own_ngc hy (k := 100000) (m := -100000) (by decide) (by decide) (by decide)).mpr q)), if_neg (fun q => hc6 ((own_ngc hy (k := 1000000) (m := -1000000) (by decide) (by decide) (by decide)).mpr q)), if_neg (fun q => hc7 ((own_ngc hy (k := 10000000) (m := -10000000) (by decide) (by decide) (by decide)).mpr q)), if_pos ((own_ngc hy (k := 100000000) (m := -100000000) (by decide) (by decide) (by decide)).mp hc8)], N0, e0⟩
                · refine own_go (T' := s₁) (f' := (mkF m 24 #[.val (.int (-y0)), oI 0, oI (-1000000000), oI 9] [vI (-1000000000), (.int (-y0))])) (fun _ k => XS.icmpYes X0.here hx rfl (pc0 := 24) (pc' := 31) rfl (hb hby d20_24) rfl (flt hc8).2.2.2 (by decide) (by decide) (own_e X0 tt 31 11 k rfl)) ?_
                  by_cases hc9 : (-1000000000 : Int32) < (-y0)
                  · refine own_go (T' := s₁) (f' := (mkF m 30 #[.val (.int (-y0)), oI 0, oI (-1000000000), oI 9] [vI 9])) (fun _ k => XS.icmpNo X0.here hx rfl (hb hby d20_24) rfl (tlt hc9).2.2.2 (own_e X0 tt 27 3 k rfl)) ?_
                    refine own_ret X0 (v := some (.int (9 : Int32))) (fun h => by rw [Br] at h; cases h) Bs (fun fs hr => retI X0 hx Br (hb hby d20_30) hr) ?_ (by decide) (by decide)
                    show Q20 Z y0 h0 n0 _ s₁.heap _
                    exact ⟨by rw [own_dg, if_neg (fun q => hc1 ((own_ngc hy (k := 10) (m := -10) (by decide) (by decide) (by decide)).mpr q)), if_neg (fun q => hc2 ((own_ngc hy (k := 100) (m := -100) (by decide) (by decide) (by decide)).mpr q)), if_neg (fun q => hc3 ((own_ngc hy (k := 1000) (m := -1000) (by decide) (by decide) (by decide)).mpr q)), if_neg (fun q => hc4 ((own_ngc hy (k := 10000) (m := -10000) (by decide) (by decide) (by decide)).mpr q)), if_neg (fun q => hc5 ((own_ngc hy (k := 100000) (m := -100000) (by decide) (by decide) (by decide)).mpr q)), if_neg (fun q => hc6 ((own_ngc hy (k := 1000000) (m := -1000000) (by decide) (by decide) (by decide)).mpr q)), if_neg (fun q => hc7 ((own_ngc hy (k := 10000000) (m := -10000000) (by decide) (by decide) (by decide)).mpr q)), if_neg (fun q => hc8 ((own_ngc hy (k := 100000000) (m := -100000000) (by decide) (by decide) (by decide)).mpr q)), if_pos ((own_ngc hy (k := 1000000000) (m := -1000000000) (by decide) (by decide) (by decide)).mp hc9)], N0, e0⟩
                  · refine own_go (T' := s₁) (f' := (mkF m 46 #[.val (.int (-y0)), oI 0, oI (-1410065408), oI 10] [vI 10])) (fun _ k => XS.icmpYes X0.here hx rfl (pc0 := 24) (pc' := 31) rfl (hb hby d20_24) rfl (flt hc9).2.2.2 (by decide) (by decide) (own_e X0 tt 31 12 k rfl)) ?_
                    refine own_ret X0 (v := some (.int (10 : Int32))) (fun h => by rw [Br] at h; cases h) Bs (fun fs hr => retI X0 hx Br (hb hby d20_46) hr) ?_ (by decide) (by decide)
                    show Q20 Z y0 h0 n0 _ s₁.heap _
                    exact ⟨by rw [own_dg, if_neg (fun q => hc1 ((own_ngc hy (k := 10) (m := -10) (by decide) (by decide) (by decide)).mpr q)), if_neg (fun q => hc2 ((own_ngc hy (k := 100) (m := -100) (by decide) (by decide) (by decide)).mpr q)), if_neg (fun q => hc3 ((own_ngc hy (k := 1000) (m := -1000) (by decide) (by decide) (by decide)).mpr q)), if_neg (fun q => hc4 ((own_ngc hy (k := 10000) (m := -10000) (by decide) (by decide) (by decide)).mpr q)), if_neg (fun q => hc5 ((own_ngc hy (k := 100000) (m := -100000) (by decide) (by decide) (by decide)).mpr q)), if_neg (fun q => hc6 ((own_ngc hy (k := 1000000) (m := -1000000) (by decide) (by decide) (by decide)).mpr q)), if_neg (fun q => hc7 ((own_ngc hy (k := 10000000) (m := -10000000) (by decide) (by decide) (by decide)).mpr q)), if_neg (fun q => hc8 ((own_ngc hy (k := 100000000) (m := -100000000) (by decide) (by decide) (by decide)).mpr q)), if_neg (fun q => hc9 ((own_ngc hy (k := 1000000000) (m := -1000000000) (by decide) (by decide) (by decide)).mpr q))], N0, e0⟩
def own_t5 (pc : Nat) : Option (Instr × Nat) := bif Nat.ble pc 10 then (bif Nat.ble pc 0 then (bif Nat.beq pc 0 then some (.aload_n 0, 1) else none) else (bif Nat.ble pc 7 then (bif Nat.beq pc 7 then some (.ifCond .eq 18, 3) else none) else (bif Nat.beq pc 10 then some (.aload_n 0, 1) else none))) else (bif Nat.ble pc 17 then (bif Nat.ble pc 11 then (bif Nat.beq pc 11 then some (.iload_n 1, 1) else none) else (bif Nat.beq pc 17 then some (.aload_n 0, 1) else none)) else (bif Nat.ble pc 18 then (bif Nat.beq pc 18 then some (.iconst 0, 1) else none) else (bif Nat.beq pc 22 then some (.goto 16, 3) else none)))
theorem own_ok5 : ∀ pc q, own_fetch 39 own_t5 pc = some q → decode jdk_68_method_2_code pc = .ok q := own_tab (by decide +kernel)
theorem d5_1 : decode jdk_68_method_2_code 1 = .ok (.invokespecial 3, 3) := by decide +kernel
theorem d5_4 : decode jdk_68_method_2_code 4 = .ok (.getstatic 18, 3) := by decide +kernel
theorem d5_7 : decode jdk_68_method_2_code 7 = .ok (.ifCond .eq 18, 3) := by decide +kernel
theorem d5_12 : decode jdk_68_method_2_code 12 = .ok (.newarray .byte, 2) := by decide +kernel
theorem d5_14 : decode jdk_68_method_2_code 14 = .ok (.putfield 15, 3) := by decide +kernel
theorem d5_19 : decode jdk_68_method_2_code 19 = .ok (.putfield 22, 3) := by decide +kernel
theorem d5_38 : decode jdk_68_method_2_code 38 = .ok (.return_, 1) := by decide +kernel
theorem pn_3 : plainName "java/lang/AbstractStringBuilder" = true := by first | (simp [plainName, overriddenIn]; done) | decide +kernel
theorem ef_rm5a2 (m : MethodId) (b2 : Addr) : entryFrame m #[(.ref b2), (.int (16 : Int32))] 2 = mkF m 0 #[.val (.ref b2), .val (.int (16 : Int32))] [] := by first | (simp [entryFrame, mkF, argsToLocals, Value.category]; done) | rfl
def Q5a2 (Z : State) (b2 : Addr) (cs : Int32) (h0 : Heap) (n0 : Nat) (v : Option Value) (h : Heap) (L : List Loc) : Prop := ∃ (b7 : Addr) (k7 : ClassId), v = none ∧ Fr n0 L ∧ Keep h0 h [b2] ∧ n0 ≤ b7 ∧ h0.size ≤ b7 ∧ Fld Z h b2 "java/lang/AbstractStringBuilder" "value" "[B" (.ref b7) ∧ Fld Z h b2 "java/lang/AbstractStringBuilder" "coder" "B" (.int (0 : Int32)) ∧ Fld Z h b2 "java/lang/AbstractStringBuilder" "count" "I" (.int (0 : Int32)) ∧ Arv Z h b7 k7 .byte (16 : Int32) own_ls0 (.int (0 : Int32)) ∧ Exa Z h b7 "[B"
set_option maxRecDepth 65536 in
set_option maxHeartbeats 40000000 in
theorem rm5a2 (l : Launch) (Z : State) (a0 : Array Value) (hw : ∀ d ∈ tables_1, d.before a0 Z = true) (ws : List Jvm.Cond) (b2 : Addr) (cs : Int32) (h0 : Heap) (n0 : Nat) (Z0 : n0 ≤ h0.size) (PS0 : Sta Z h0 "java/lang/String" "COMPACT_STRINGS" "Z" (.int cs)) (PE9 : Exa Z h0 b2 "java/lang/StringBuilder") (PF10 : Fld Z h0 b2 "java/lang/AbstractStringBuilder" "value" "[B" .null) (PF11 : Fld Z h0 b2 "java/lang/AbstractStringBuilder" "coder" "B" (.int (0 : Int32))) (PF12 : Fld Z h0 b2 "java/lang/AbstractStringBuilder" "count" "I" (.int (0 : Int32))) (PP0 : ¬ (cs = (0 : Int32))) (n_b2 : n0 ≤ b2) :
    own_Met l mn4 jdk_68_method_2_code 2 none ws (oRm 1 1 16 12) #[(.ref b2), (.int (16 : Int32))] Z h0 (Q5a2 Z b2 cs h0 n0) := by
  refine own_met (own := "java/lang/AbstractStringBuilder") rfl (plainFor_of_name pn_3) ?_
  intro p e s m below meth c s₁ hx hby hml hZ hown hnm X0 e0 Br Bs
  have N0 := Fr.nil n0
  have tt := own_tt hx hby own_ok5
  rw [ef_rm5a2 m b2]
  refine own_go (T' := s₁) (f' := (mkF m 1 #[oR b2, oI 16] [vR b2])) (fun _ k => own_e X0 tt 0 1 k rfl) ?_
  obtain ⟨T5, X5, e5, st5⟩ := initO X0 hx hZ hown (ow27 hw) (ow28 hw) (ow29 hw) e0 (g := (mkF m 1 #[oR b2, oI 16] [vR b2])) rfl (by rw [hml]; rfl) rfl (hb hby d5_1) (by decide) (W := 0) (by show 2 * 0 + _ ≤ _; exact Nat.le_of_eq rfl) (by decide)
  refine own_go (T' := T5) (f' := (mkF m 4 #[oR b2, oI 16] [])) (fun _ k => st5 _ k) ?_
  obtain ⟨T6, X6, e6, st6⟩ := getS2 X5 hx hZ hown (host := "") (Or.inl (ow30 hw)) Via.refl e5 PS0 (g := (mkF m 4 #[oR b2, oI 16] [])) rfl (hb hby d5_4)
  refine own_go (T' := T6) (f' := (mkF m 12 #[oR b2, oI 16] [vI 16, vR b2])) (fun _ k => st6 _ (XS.ifNo X6.here hx rfl (hb hby d5_7) rfl ((if0 _ _).trans (feq PP0).1) (own_e X6 tt 10 2 k rfl))) ?_
  obtain ⟨T7, h7, k7, X7, e7, E7, A7, EA7, st7⟩ := newPE (aty := .byte) X6 hx hZ (ow32 hw) e6 (g := (mkF m 12 #[oR b2, oI 16] [vI 16, vR b2])) rfl (hb hby d5_12) rfl (by decide) (cap := 16) (by decide) (by decide) (by decide) (by decide) (ad := "[B") (by decide +kernel)
  obtain ⟨b7, g_b7⟩ : ∃ z, z = h0.size := ⟨_, rfl⟩
  have sg_b7 : h0.size ≤ b7 := Nat.le_of_eq g_b7.symm
  rw [← g_b7] at A7 EA7 st7
  have n_b7 : n0 ≤ b7 := Nat.le_trans Z0 (Nat.le_of_eq g_b7.symm)
  have sz_b7 : h0.size ≤ b7 := Nat.le_trans (Keep.refl h0 [b2]).1 (Nat.le_of_eq g_b7.symm)
  have K7 : Keep h0 h7 [b2] := (Keep.refl h0 [b2]).ext E7
  have V_b7 : Arv Z h7 b7 k7 .byte (16 : Int32) own_ls0 (.int (0 : Int32)) := (Arv.new A7 (by decide)).pad (pad_rep [] (.int (0 : Int32)) 16)
  refine own_go (T' := T7) (f' := (mkF m 14 #[oR b2, oI 16] [vR b7, vR b2])) (fun _ k => st7 _ k) ?_
  obtain ⟨T8, h8, X8, e8, W8, st8⟩ := putF X7 hx hZ hown (host := "") (Or.inl (ow33 hw)) Via.refl e7 (PF10.ext E7) (PE9.ext E7) (Or.inl (ow34 hw)) (ow16 hw) (ty := (.array .byte)) (by decide) rfl rfl (g := (mkF m 14 #[oR b2, oI 16] [vR b7, vR b2])) rfl rfl (hb hby d5_14)
  have Fw8 := Fld.same W8 (PF10.ext E7)
  have K8 : Keep h0 h8 [b2] := K7.wr W8 (Or.inl (List.mem_of_getElem? (i := 0) rfl))
  have N8 := Fr.snoc X8 N0 n_b2
  refine own_go (T' := T8) (f' := (mkF m 19 #[oR b2, oI 16] [vI 0, vR b2])) (fun _ k => st8 _ (own_e X8 tt 17 2 k rfl)) ?_
  have G9 := ((PF11.ext E7).other W8 (Or.inr (slot_ne (Or.inl (ow36 hw)) (Or.inl (ow34 hw)) (by decide) (t := .byte) (t' := (.array .byte)) (by decide) (by decide))))
  obtain ⟨T10, h10, X10, e10, W10, st10⟩ := putFN X8 hx hZ hown (ow35 hw) Via.refl e8 G9 ((PE9.ext E7).wr W8) (Or.inl (ow36 hw)) (ow16 hw) (ty := .byte) (v' := (.int (0 : Int32))) (by decide) rfl (fits_nar_byte (0 : Int32)) (g := (mkF m 19 #[oR b2, oI 16] [vI 0, vR b2])) rfl rfl (hb hby d5_19)
  have Fw10 := Fld.same W10 G9
  have K10 : Keep h0 h10 [b2] := K8.wr W10 (Or.inl (List.mem_of_getElem? (i := 0) rfl))
  have N10 := Fr.snoc X10 N8 n_b2
  refine own_go (T' := T10) (f' := (mkF m 38 #[oR b2, oI 16] [])) (fun _ k => st10 _ (own_e X10 tt 22 1 k rfl)) ?_
  refine own_ret X10 (v := none) (fun _ => rfl) Bs (fun fs hr => X10.returnOut hx Br (hb hby d5_38) hr) ?_ (by decide) (by decide)
  show Q5a2 Z b2 cs h0 n0 _ T10.heap _
  have G11 := (Fw8.other W10 (Or.inr (slot_ne (Or.inl (ow34 hw)) (Or.inl (ow36 hw)) (by decide) (t := (.array .byte)) (t' := .byte) (by decide) (by decide))))
  have G12 := (((PF12.ext E7).other W8 (Or.inr (slot_ne (Or.inl (ow67 hw)) (Or.inl (ow34 hw)) (by decide) (t := .int) (t' := (.array .byte)) (by decide) (by decide)))).other W10 (Or.inr (slot_ne (Or.inl (ow67 hw)) (Or.inl (ow36 hw)) (by decide) (t := .int) (t' := .byte) (by decide) (by decide))))
  have q13 : b7 ≠ b2 := (Ne.symm (Nat.ne_of_lt (Nat.lt_of_lt_of_le PE9.lt sz_b7)))
  rw [e10]
  exact ⟨b7, k7, rfl, N10, K10, n_b7, sz_b7, G11, Fw10, G12, ((V_b7.other W8 q13).other W10 q13), ((EA7.wr W8).wr W10)⟩
theorem pd11 : parseMethodDescriptor "(I)V" = some ⟨[.int], none⟩ := by decide +kernel
def own_t4 (pc : Nat) : Option (Instr × Nat) := bif Nat.ble pc 0 then (bif Nat.beq pc 0 then some (.aload_n 0, 1) else none) else (bif Nat.beq pc 1 then some (.bipush 16, 2) else none)
theorem own_ok4 : ∀ pc q, own_fetch 7 own_t4 pc = some q → decode jdk_67_method_1_code pc = .ok q := own_tab (by decide +kernel)
theorem d4_3 : decode jdk_67_method_1_code 3 = .ok (.invokespecial 1, 3) := by decide +kernel
theorem d4_6 : decode jdk_67_method_1_code 6 = .ok (.return_, 1) := by decide +kernel
theorem pn_8 : plainName "java/lang/StringBuilder" = true := by first | (simp [plainName, overriddenIn]; done) | decide +kernel
theorem ef_rm4a1 (m : MethodId) (b2 : Addr) : entryFrame m #[(.ref b2)] 1 = mkF m 0 #[.val (.ref b2)] [] := by first | (simp [entryFrame, mkF, argsToLocals, Value.category]; done) | rfl
def Q4a1 (Z : State) (b2 : Addr) (cs : Int32) (h0 : Heap) (n0 : Nat) (v : Option Value) (h : Heap) (L : List Loc) : Prop := ∃ (b14a : Addr) (k14b : ClassId), v = none ∧ Fr n0 L ∧ Keep h0 h [b2] ∧ n0 ≤ b14a ∧ h0.size ≤ b14a ∧ Fld Z h b2 "java/lang/AbstractStringBuilder" "value" "[B" (.ref b14a) ∧ Fld Z h b2 "java/lang/AbstractStringBuilder" "coder" "B" (.int (0 : Int32)) ∧ Fld Z h b2 "java/lang/AbstractStringBuilder" "count" "I" (.int (0 : Int32)) ∧ Arv Z h b14a k14b .byte (16 : Int32) own_ls0 (.int (0 : Int32)) ∧ Exa Z h b14a "[B"
set_option maxRecDepth 65536 in
set_option maxHeartbeats 40000000 in
theorem rm4a1 (l : Launch) (Z : State) (a0 : Array Value) (hw : ∀ d ∈ tables_1, d.before a0 Z = true) (ws : List Jvm.Cond) (b2 : Addr) (cs : Int32) (h0 : Heap) (n0 : Nat) (Z0 : n0 ≤ h0.size) (PS0 : Sta Z h0 "java/lang/String" "COMPACT_STRINGS" "Z" (.int cs)) (PE9 : Exa Z h0 b2 "java/lang/StringBuilder") (PF10 : Fld Z h0 b2 "java/lang/AbstractStringBuilder" "value" "[B" .null) (PF11 : Fld Z h0 b2 "java/lang/AbstractStringBuilder" "coder" "B" (.int (0 : Int32))) (PF12 : Fld Z h0 b2 "java/lang/AbstractStringBuilder" "count" "I" (.int (0 : Int32))) (PP0 : ¬ (cs = (0 : Int32))) (n_b2 : n0 ≤ b2) :
    own_Met l mn5 jdk_67_method_1_code 1 none ws (oRm 2 1 16 25) #[(.ref b2)] Z h0 (Q4a1 Z b2 cs h0 n0) := by
  refine own_met (own := "java/lang/StringBuilder") rfl (plainFor_of_name pn_8) ?_
  intro p e s m below meth c s₁ hx hby hml hZ hown hnm X0 e0 Br Bs
  have N0 := Fr.nil n0
  have tt := own_tt hx hby own_ok4
  rw [ef_rm4a1 m b2]
  refine own_go (T' := s₁) (f' := (mkF m 3 #[oR b2] [vI 16, vR b2])) (fun _ k => own_e X0 tt 0 2 k rfl) ?_
  obtain ⟨_, T14, Lc14, X14, hQ14, st14⟩ := own_out (X0.specialBack hx (y := mn4) rfl hown (mvT hZ (ow21 hw)) (mvT hZ (ow22 hw)) (mvT hZ (ow26 hw)) (by decide) (backOf (W := 0) (rm5a2 l Z a0 hw [] b2 cs h0 n0 Z0 PS0 PE9 PF10 PF11 PF12 PP0 n_b2) hZ (ow26 hw) (ow25 hw) (by decide) (by decide)) (g := (mkF m 3 #[oR b2] [vI 16, vR b2])) rfl (by rw [hml]; rfl) (Steps.refl _) (a := b2) (argsL := [(.int (16 : Int32))]) (rest := []) (lenOf pd11 rfl) rfl (by show 2 * 0 + _ ≤ _; exact Nat.le_of_eq rfl) (hb hby d4_3) (fun _ _ => ⟨rfl, e0, (by decide : 0 + 1 ≤ _), (by decide : 0 + 16 ≤ _)⟩))
  obtain ⟨b14a, k14b, rfl, N14q, K14, n_b14a, sg_b14a, g14_0, g14_1, g14_2, g14_3, g14_4⟩ := hQ14
  have N14 := Fr.app N0 N14q
  have sz_b14a : h0.size ≤ b14a := Nat.le_trans (Keep.refl h0 [b2]).1 sg_b14a
  have eK14 : T14.heap = T14.heap := rfl
  have KK14 : Keep h0 T14.heap [b2] := Keep.trans (Keep.refl h0 [b2]) K14 (allS (Or.inl (List.mem_of_getElem? (i := 0) rfl)) all0)
  obtain ⟨_, X14, N14⟩ := own_hide X14 N14
  refine own_go (T' := T14) (f' := (mkF m 6 #[oR b2] [])) (fun _ k => st14.trans k) ?_
  refine own_ret X14 (v := none) (fun _ => rfl) Bs (fun fs hr => X14.returnOut hx Br (hb hby d4_6) hr) ?_ (by decide) (by decide)
  show Q4a1 Z b2 cs h0 n0 _ T14.heap _
  rw [eK14]
  exact ⟨b14a, k14b, rfl, N14, KK14, n_b14a, sz_b14a, g14_0, g14_1, g14_2, g14_3, g14_4⟩
theorem pd5 : parseMethodDescriptor "()V" = some ⟨[], none⟩ := by decide +kernel
def own_t10 (pc : Nat) : Option (Instr × Nat) := bif Nat.ble pc 3 then (bif Nat.beq pc 3 then some (.ifCond .eq 10, 3) else none) else (bif Nat.ble pc 6 then (bif Nat.beq pc 6 then some (.aload_n 0, 1) else none) else (bif Nat.beq pc 10 then some (.goto 4, 3) else none))
theorem own_ok10 : ∀ pc q, own_fetch 15 own_t10 pc = some q → decode jdk_42_method_152_code pc = .ok q := own_tab (by decide +kernel)
theorem d10_0 : decode jdk_42_method_152_code 0 = .ok (.getstatic 38, 3) := by decide +kernel
theorem d10_3 : decode jdk_42_method_152_code 3 = .ok (.ifCond .eq 10, 3) := by decide +kernel
theorem d10_7 : decode jdk_42_method_152_code 7 = .ok (.getfield 15, 3) := by decide +kernel
theorem d10_14 : decode jdk_42_method_152_code 14 = .ok (.ireturn, 1) := by decide +kernel
theorem pn_7 : plainName "java/lang/String" = true := by first | (simp [plainName, overriddenIn]; done) | decide +kernel
theorem ef_rm10a6 (m : MethodId) (a18 : Addr) : entryFrame m #[(.ref a18)] 1 = mkF m 0 #[.val (.ref a18)] [] := by first | (simp [entryFrame, mkF, argsToLocals, Value.category]; done) | rfl
def Q10a6 (Z : State) (a18 : Addr) (cs : Int32) (h0 : Heap) (n0 : Nat) (v : Option Value) (h : Heap) (L : List Loc) : Prop := v = some (.int (0 : Int32)) ∧ Fr n0 L ∧ h = h0
set_option maxRecDepth 65536 in
set_option maxHeartbeats 40000000 in
theorem rm10a6 (l : Launch) (Z : State) (a0 : Array Value) (hw : ∀ d ∈ tables_1, d.before a0 Z = true) (ws : List Jvm.Cond) (a18 : Addr) (cs : Int32) (h0 : Heap) (n0 : Nat) (Z0 : n0 ≤ h0.size) (PS0 : Sta Z h0 "java/lang/String" "COMPACT_STRINGS" "Z" (.int cs)) (PF16 : Fld Z h0 a18 "java/lang/String" "coder" "B" (.int (0 : Int32))) (PP0 : ¬ (cs = (0 : Int32))) :
    own_Met l mn6 jdk_42_method_152_code 1 (some .byte) ws (oRm 0 0 0 0) #[(.ref a18)] Z h0 (Q10a6 Z a18 cs h0 n0) := by
  refine own_met (own := "java/lang/String") rfl (plainFor_of_name pn_7) ?_
  intro p e s m below meth c s₁ hx hby hml hZ hown hnm X0 e0 Br Bs
  have N0 := Fr.nil n0
  have tt := own_tt hx hby own_ok10
  rw [ef_rm10a6 m a18]
  obtain ⟨T20, X20, e20, st20⟩ := getS2 X0 hx hZ hown (host := "") (Or.inl (ow64 hw)) Via.refl e0 PS0 (g := (mkF m 0 #[oR a18] [])) rfl (hb hby d10_0)
  refine own_go (T' := T20) (f' := (mkF m 7 #[oR a18] [vR a18])) (fun _ k => st20 _ (XS.ifNo X20.here hx rfl (hb hby d10_3) rfl ((if0 _ _).trans (feq PP0).1) (own_e X20 tt 6 1 k rfl))) ?_
  obtain ⟨T21, X21, e21, st21⟩ := getF X20 hx hZ hown (host := "") (Or.inl (ow65 hw)) Via.refl e20 PF16 (g := (mkF m 7 #[oR a18] [vR a18])) rfl rfl (hb hby d10_7)
  refine own_go (T' := T21) (f' := (mkF m 14 #[oR a18] [vI 0])) (fun _ k => st21 _ (own_e X21 tt 10 1 k rfl)) ?_
  refine own_ret X21 (v := some (.int (nar .byte (0 : Int32)))) (fun h => by rw [Br] at h; cases h) Bs (fun fs hr => retN X21 hx (t := .byte) Br (by simp) (hb hby d10_14) hr) ?_ (by decide) (by decide)
  show Q10a6 Z a18 cs h0 n0 _ T21.heap _
  exact ⟨rfl, N0, e21⟩
theorem pd0 : parseMethodDescriptor "()B" = some ⟨[], some .byte⟩ := by decide +kernel
def own_t9 (pc : Nat) : Option (Instr × Nat) := bif Nat.ble pc 0 then (bif Nat.beq pc 0 then some (.aload_n 0, 1) else none) else (bif Nat.ble pc 5 then (bif Nat.beq pc 5 then some (.aload_n 0, 1) else none) else (bif Nat.beq pc 9 then some (.ishr, 1) else none))
theorem own_ok9 : ∀ pc q, own_fetch 11 own_t9 pc = some q → decode jdk_42_method_54_code pc = .ok q := own_tab (by decide +kernel)
theorem d9_1 : decode jdk_42_method_54_code 1 = .ok (.getfield 9, 3) := by decide +kernel
theorem d9_4 : decode jdk_42_method_54_code 4 = .ok (.arraylength, 1) := by decide +kernel
theorem d9_6 : decode jdk_42_method_54_code 6 = .ok (.invokevirtual 335, 3) := by decide +kernel
theorem d9_10 : decode jdk_42_method_54_code 10 = .ok (.ireturn, 1) := by decide +kernel
theorem ef_rm9a5 (m : MethodId) (a18 : Addr) : entryFrame m #[(.ref a18)] 1 = mkF m 0 #[.val (.ref a18)] [] := by first | (simp [entryFrame, mkF, argsToLocals, Value.category]; done) | rfl
def Q9a5 (Z : State) (a18 : Addr) (cs : Int32) (b18 : Addr) (kc18 : ClassId) (h0 : Heap) (n0 : Nat) (v : Option Value) (h : Heap) (L : List Loc) : Prop := v = some (.int (17 : Int32)) ∧ Fr n0 L ∧ h = h0
set_option maxRecDepth 65536 in
set_option maxHeartbeats 40000000 in
theorem rm9a5 (l : Launch) (Z : State) (a0 : Array Value) (hw : ∀ d ∈ tables_1, d.before a0 Z = true) (ws : List Jvm.Cond) (a18 : Addr) (cs : Int32) (b18 : Addr) (kc18 : ClassId) (h0 : Heap) (n0 : Nat) (Z0 : n0 ≤ h0.size) (PS0 : Sta Z h0 "java/lang/String" "COMPACT_STRINGS" "Z" (.int cs)) (PE15 : Exa Z h0 a18 "java/lang/String") (PF16 : Fld Z h0 a18 "java/lang/String" "coder" "B" (.int (0 : Int32))) (PF17 : Fld Z h0 a18 "java/lang/String" "value" "[B" (.ref b18)) (PV18 : Arv Z h0 b18 kc18 .byte (17 : Int32) own_ls1 (.int (0 : Int32))) (PP0 : ¬ (cs = (0 : Int32))) :
    own_Met l mn7 jdk_42_method_54_code 1 (some .int) ws (oRm 1 0 0 13) #[(.ref a18)] Z h0 (Q9a5 Z a18 cs b18 kc18 h0 n0) := by
  refine own_met (own := "java/lang/String") rfl (plainFor_of_name pn_7) ?_
  intro p e s m below meth c s₁ hx hby hml hZ hown hnm X0 e0 Br Bs
  have N0 := Fr.nil n0
  have tt := own_tt hx hby own_ok9
  rw [ef_rm9a5 m a18]
  refine own_go (T' := s₁) (f' := (mkF m 1 #[oR a18] [vR a18])) (fun _ k => own_e X0 tt 0 1 k rfl) ?_
  obtain ⟨T19, X19, e19, st19⟩ := getF X0 hx hZ hown (host := "") (Or.inl (ow58 hw)) Via.refl e0 PF17 (g := (mkF m 1 #[oR a18] [vR a18])) rfl rfl (hb hby d9_1)
  refine own_go (T' := T19) (f' := (mkF m 6 #[oR a18] [vR a18, vI 17])) (fun _ k => st19 _ (own_alen X19 hx hZ e19 PV18 rfl rfl (hb hby d9_4) (own_e X19 tt 5 1 k rfl))) ?_
  obtain ⟨cq22, kq22, q22a, q22b, q22c⟩ := isOf hZ e19 PE15
  obtain ⟨_, T22, Lc22, X22, hQ22, st22⟩ := own_out (X19.virtualBack hx (y := mn6) (z := mn6) hown (mvT hZ (ow59 hw)) (mvT hZ (ow60 hw)) (notFace_of_selects (args := #[]) (mvT hZ (ow62 hw))) (mvT hZ (ow62 hw)) (mvT hZ (ow61 hw)) (by decide) (backOf (W := 1) (rm10a6 l Z a0 hw [] a18 cs h0 n0 Z0 PS0 PF16 PP0) hZ (ow63 hw) (ow31 hw) (by decide) (by decide)) q22a q22c (g := (mkF m 6 #[oR a18] [vR a18, vI 17])) rfl (by rw [hml]; rfl) (Steps.refl _) (argsL := []) (rest := [(.int (17 : Int32))]) (lenOf pd0 rfl) rfl (by show 2 * 0 + _ ≤ _; exact Nat.le_of_eq rfl) (hb hby d9_6) (fun _ _ => ⟨rfl, e19, (by decide : 0 + 0 ≤ _), (by decide : 0 + 0 ≤ _)⟩))
  obtain ⟨rfl, N22q, hh22⟩ := hQ22
  have N22 := Fr.app N0 N22q
  obtain ⟨_, X22, N22⟩ := own_hide X22 N22
  refine own_go (T' := T22) (f' := (mkF m 10 #[oR a18] [vI 17])) (fun _ k => st22.trans (own_e X22 tt 9 1 k rfl)) ?_
  refine own_ret X22 (v := some (.int (17 : Int32))) (fun h => by rw [Br] at h; cases h) Bs (fun fs hr => retI X22 hx Br (hb hby d9_10) hr) ?_ (by decide) (by decide)
  show Q9a5 Z a18 cs b18 kc18 h0 n0 _ T22.heap _
  exact ⟨rfl, N22, hh22⟩
theorem pd1 : parseMethodDescriptor "()I" = some ⟨[], some .int⟩ := by decide +kernel
theorem ef_rm2a10 (m : MethodId)  : entryFrame m #[(.int (1 : Int32)), (.int (18 : Int32))] 2 = mkF m 0 #[.val (.int (1 : Int32)), .val (.int (18 : Int32))] [] := by first | (simp [entryFrame, mkF, argsToLocals, Value.category]; done) | rfl
def Q2a10 (Z : State)  (h0 : Heap) (n0 : Nat) (v : Option Value) (h : Heap) (L : List Loc) : Prop := v = some (.int (18 : Int32)) ∧ Fr n0 L ∧ h = h0
set_option maxRecDepth 65536 in
set_option maxHeartbeats 40000000 in
theorem rm2a10 (l : Launch) (Z : State) (a0 : Array Value) (hw : ∀ d ∈ tables_1, d.before a0 Z = true) (ws : List Jvm.Cond)  (h0 : Heap) (n0 : Nat) (Z0 : n0 ≤ h0.size) :
    own_Met l mn1 jdk_29_method_65_code 2 (some .int) ws (oRm 0 0 0 0) #[(.int (1 : Int32)), (.int (18 : Int32))] Z h0 (Q2a10 Z  h0 n0) := by
  refine own_met (own := "java/lang/Math") rfl (Jvm.Free.JP.mathPlain rfl (by decide +kernel)) ?_
  intro p e s m below meth c s₁ hx hby hml hZ hown hnm X0 e0 Br Bs
  have N0 := Fr.nil n0
  have tt := own_tt hx hby own_ok2
  rw [ef_rm2a10 m ]
  refine own_go (T' := s₁) (f' := (mkF m 10 #[oI 1, oI 18] [vI 18])) (fun _ k => own_e X0 tt 0 4 k rfl) ?_
  refine own_ret X0 (v := some (.int (18 : Int32))) (fun h => by rw [Br] at h; cases h) Bs (fun fs hr => retI X0 hx Br (hb hby d2_10) hr) ?_ (by decide) (by decide)
  show Q2a10 Z  h0 n0 _ s₁.heap _
  exact ⟨rfl, N0, e0⟩
theorem pd12 : parseMethodDescriptor "(II)I" = some ⟨[.int, .int], some .int⟩ := by decide +kernel
def own_t13 (pc : Nat) : Option (Instr × Nat) := bif Nat.ble pc 7 then (bif Nat.ble pc 1 then (bif Nat.ble pc 0 then (bif Nat.beq pc 0 then some (.iload_n 0, 1) else none) else (bif Nat.beq pc 1 then some (.iload_n 1, 1) else none)) else (bif Nat.ble pc 2 then (bif Nat.beq pc 2 then some (.iload_n 2, 1) else none) else (bif Nat.ble pc 6 then (bif Nat.beq pc 6 then some (.iadd, 1) else none) else (bif Nat.beq pc 7 then some (.istore_n 3, 1) else none)))) else (bif Nat.ble pc 10 then (bif Nat.ble pc 8 then (bif Nat.beq pc 8 then some (.iconst 0, 1) else none) else (bif Nat.ble pc 9 then (bif Nat.beq pc 9 then some (.iload_n 3, 1) else none) else (bif Nat.beq pc 10 then some (.if_icmp .ge 11, 3) else none))) else (bif Nat.ble pc 13 then (bif Nat.beq pc 13 then some (.iload_n 3, 1) else none) else (bif Nat.ble pc 16 then (bif Nat.beq pc 16 then some (.if_icmp .gt 5, 3) else none) else (bif Nat.beq pc 19 then some (.iload_n 3, 1) else none))))
theorem own_ok13 : ∀ pc q, own_fetch 27 own_t13 pc = some q → decode jdk_48_method_27_code pc = .ok q := own_tab (by decide +kernel)
theorem d13_3 : decode jdk_48_method_27_code 3 = .ok (.invokestatic 194, 3) := by decide +kernel
theorem d13_14 : decode jdk_48_method_27_code 14 = .ok (.ldc 200, 2) := by decide +kernel
theorem d13_20 : decode jdk_48_method_27_code 20 = .ok (.ireturn, 1) := by decide +kernel
theorem pn_12 : plainName "jdk/internal/util/ArraysSupport" = true := by first | (simp [plainName, overriddenIn]; done) | decide +kernel
theorem ef_rm13a9 (m : MethodId)  : entryFrame m #[(.int (16 : Int32)), (.int (1 : Int32)), (.int (18 : Int32))] 4 = mkF m 0 #[.val (.int (16 : Int32)), .val (.int (1 : Int32)), .val (.int (18 : Int32)), .unset] [] := by first | (simp [entryFrame, mkF, argsToLocals, Value.category]; done) | rfl
def Q13a9 (Z : State)  (h0 : Heap) (n0 : Nat) (v : Option Value) (h : Heap) (L : List Loc) : Prop := v = some (.int (34 : Int32)) ∧ Fr n0 L ∧ h = h0
set_option maxRecDepth 65536 in
set_option maxHeartbeats 40000000 in
theorem rm13a9 (l : Launch) (Z : State) (a0 : Array Value) (hw : ∀ d ∈ tables_1, d.before a0 Z = true) (ws : List Jvm.Cond)  (h0 : Heap) (n0 : Nat) (Z0 : n0 ≤ h0.size) :
    own_Met l mn8 jdk_48_method_27_code 4 (some .int) ws (oRm 1 0 0 14) #[(.int (16 : Int32)), (.int (1 : Int32)), (.int (18 : Int32))] Z h0 (Q13a9 Z  h0 n0) := by
  refine own_met (own := "jdk/internal/util/ArraysSupport") rfl (plainFor_of_name pn_12) ?_
  intro p e s m below meth c s₁ hx hby hml hZ hown hnm X0 e0 Br Bs
  have N0 := Fr.nil n0
  have tt := own_tt hx hby own_ok13
  rw [ef_rm13a9 m ]
  refine own_go (T' := s₁) (f' := (mkF m 3 #[oI 16, oI 1, oI 18, oU] [vI 18, vI 1, vI 16])) (fun _ k => own_e X0 tt 0 3 k rfl) ?_
  obtain ⟨_, T31, Lc31, X31, hQ31, st31⟩ := own_outC (Jvm.LawKit.callS X0 hx (y := mn1) hown (mvT hZ (ow82 hw)) (mvT hZ (ow6 hw)) (mvT hZ (ow3 hw)) (mvT hZ (ow7 hw)) (by decide) (backOf (W := 1) (rm2a10 l Z a0 hw []  h0 n0 Z0 ) hZ (ow7 hw) (ow3 hw) (by decide) (by decide)) (g := (mkF m 3 #[oI 16, oI 1, oI 18, oU] [vI 18, vI 1, vI 16])) rfl (by rw [hml]; rfl) (argsL := [(.int (1 : Int32)), (.int (18 : Int32))]) (rest := [(.int (16 : Int32))]) (lenOf pd12 rfl) rfl (by show 2 * 0 + _ ≤ _; exact Nat.le_of_eq rfl) (hb hby d13_3) (fun _ _ => ⟨rfl, e0, (by decide : 0 + 0 ≤ _), (by decide : 0 + 0 ≤ _)⟩))
  obtain ⟨rfl, N31q, hh31⟩ := hQ31
  have N31 := Fr.app N0 N31q
  obtain ⟨_, X31, N31⟩ := own_hide X31 N31
  refine own_go (T' := T31) (f' := (mkF m 20 #[oI 16, oI 1, oI 18, oI 34] [vI 34])) (fun _ k => st31 _ (own_r X31 tt 6 6 rfl (X31.ldcInt hx hown (mvT hZ (ow83 hw)) (g := (mkF m 14 #[oI 16, oI 1, oI 18, oI 34] [vI 34])) rfl (hb hby d13_14) _ (own_e X31 tt 16 2 k rfl)))) ?_
  refine own_ret X31 (v := some (.int (34 : Int32))) (fun h => by rw [Br] at h; cases h) Bs (fun fs hr => retI X31 hx Br (hb hby d13_20) hr) ?_ (by decide) (by decide)
  show Q13a9 Z  h0 n0 _ T31.heap _
  exact ⟨rfl, N31, hh31⟩
theorem pd15 : parseMethodDescriptor "(III)I" = some ⟨[.int, .int, .int], some .int⟩ := by decide +kernel
def own_t12 (pc : Nat) : Option (Instr × Nat) := bif Nat.ble pc 18 then (bif Nat.ble pc 11 then (bif Nat.ble pc 5 then (bif Nat.ble pc 0 then (bif Nat.beq pc 0 then some (.aload_n 0, 1) else none) else (bif Nat.beq pc 5 then some (.istore_n 2, 1) else none)) else (bif Nat.ble pc 6 then (bif Nat.beq pc 6 then some (.iload_n 1, 1) else none) else (bif Nat.ble pc 7 then (bif Nat.beq pc 7 then some (.aload_n 0, 1) else none) else (bif Nat.beq pc 11 then some (.ishl, 1) else none)))) else (bif Nat.ble pc 14 then (bif Nat.ble pc 12 then (bif Nat.beq pc 12 then some (.istore_n 3, 1) else none) else (bif Nat.ble pc 13 then (bif Nat.beq pc 13 then some (.iload_n 3, 1) else none) else (bif Nat.beq pc 14 then some (.iload_n 2, 1) else none))) else (bif Nat.ble pc 15 then (bif Nat.beq pc 15 then some (.isub, 1) else none) else (bif Nat.ble pc 16 then (bif Nat.beq pc 16 then some (.istore 4, 2) else none) else (bif Nat.beq pc 18 then some (.iload_n 2, 1) else none))))) else (bif Nat.ble pc 28 then (bif Nat.ble pc 22 then (bif Nat.ble pc 19 then (bif Nat.beq pc 19 then some (.iload 4, 2) else none) else (bif Nat.ble pc 21 then (bif Nat.beq pc 21 then some (.iload_n 2, 1) else none) else (bif Nat.beq pc 22 then some (.iconst 2, 1) else none))) else (bif Nat.ble pc 23 then (bif Nat.beq pc 23 then some (.aload_n 0, 1) else none) else (bif Nat.ble pc 27 then (bif Nat.beq pc 27 then some (.ishl, 1) else none) else (bif Nat.beq pc 28 then some (.iadd, 1) else none)))) else (bif Nat.ble pc 38 then (bif Nat.ble pc 32 then (bif Nat.beq pc 32 then some (.istore 5, 2) else none) else (bif Nat.ble pc 34 then (bif Nat.beq pc 34 then some (.iload 5, 2) else none) else (bif Nat.beq pc 38 then some (.if_icmp .ne 13, 3) else none))) else (bif Nat.ble pc 51 then (bif Nat.beq pc 51 then some (.iload 5, 2) else none) else (bif Nat.ble pc 53 then (bif Nat.beq pc 53 then some (.aload_n 0, 1) else none) else (bif Nat.beq pc 57 then some (.ishr, 1) else none)))))
theorem own_ok12 : ∀ pc q, own_fetch 59 own_t12 pc = some q → decode jdk_68_method_10_code pc = .ok q := own_tab (by decide +kernel)
theorem d12_1 : decode jdk_68_method_10_code 1 = .ok (.getfield 15, 3) := by decide +kernel
theorem d12_4 : decode jdk_68_method_10_code 4 = .ok (.arraylength, 1) := by decide +kernel
theorem d12_8 : decode jdk_68_method_10_code 8 = .ok (.getfield 22, 3) := by decide +kernel
theorem d12_24 : decode jdk_68_method_10_code 24 = .ok (.getfield 22, 3) := by decide +kernel
theorem d12_29 : decode jdk_68_method_10_code 29 = .ok (.invokestatic 114, 3) := by decide +kernel
theorem d12_36 : decode jdk_68_method_10_code 36 = .ok (.ldc 39, 2) := by decide +kernel
theorem d12_54 : decode jdk_68_method_10_code 54 = .ok (.getfield 22, 3) := by decide +kernel
theorem d12_58 : decode jdk_68_method_10_code 58 = .ok (.ireturn, 1) := by decide +kernel
theorem ef_rm12a8 (m : MethodId) (b2 : Addr) : entryFrame m #[(.ref b2), (.int (17 : Int32))] 6 = mkF m 0 #[.val (.ref b2), .val (.int (17 : Int32)), .unset, .unset, .unset, .unset] [] := by first | (simp [entryFrame, mkF, argsToLocals, Value.category]; done) | rfl
def Q12a8 (Z : State) (b2 : Addr) (b15a : Addr) (k15b : ClassId) (h0 : Heap) (n0 : Nat) (v : Option Value) (h : Heap) (L : List Loc) : Prop := v = some (.int (34 : Int32)) ∧ Fr n0 L ∧ h = h0
set_option maxRecDepth 65536 in
set_option maxHeartbeats 40000000 in
theorem rm12a8 (l : Launch) (Z : State) (a0 : Array Value) (hw : ∀ d ∈ tables_1, d.before a0 Z = true) (ws : List Jvm.Cond) (b2 : Addr) (b15a : Addr) (k15b : ClassId) (h0 : Heap) (n0 : Nat) (Z0 : n0 ≤ h0.size) (PF10 : Fld Z h0 b2 "java/lang/AbstractStringBuilder" "value" "[B" (.ref b15a)) (PF11 : Fld Z h0 b2 "java/lang/AbstractStringBuilder" "coder" "B" (.int (0 : Int32))) (PV13 : Arv Z h0 b15a k15b .byte (16 : Int32) own_ls0 (.int (0 : Int32))) :
    own_Met l mn9 jdk_68_method_10_code 6 (some .int) ws (oRm 2 0 0 29) #[(.ref b2), (.int (17 : Int32))] Z h0 (Q12a8 Z b2 b15a k15b h0 n0) := by
  refine own_met (own := "java/lang/AbstractStringBuilder") rfl (plainFor_of_name pn_3) ?_
  intro p e s m below meth c s₁ hx hby hml hZ hown hnm X0 e0 Br Bs
  have N0 := Fr.nil n0
  have tt := own_tt hx hby own_ok12
  rw [ef_rm12a8 m b2]
  refine own_go (T' := s₁) (f' := (mkF m 1 #[oR b2, oI 17, oU, oU, oU, oU] [vR b2])) (fun _ k => own_e X0 tt 0 1 k rfl) ?_
  obtain ⟨T28, X28, e28, st28⟩ := getF X0 hx hZ hown (host := "") (Or.inl (ow33 hw)) Via.refl e0 PF10 (g := (mkF m 1 #[oR b2, oI 17, oU, oU, oU, oU] [vR b2])) rfl rfl (hb hby d12_1)
  refine own_go (T' := T28) (f' := (mkF m 8 #[oR b2, oI 17, oI 16, oU, oU, oU] [vR b2, vI 17])) (fun _ k => st28 _ (own_alen X28 hx hZ e28 PV13 rfl rfl (hb hby d12_4) (own_e X28 tt 5 3 k rfl))) ?_
  obtain ⟨T29, X29, e29, st29⟩ := getF X28 hx hZ hown (host := "") (Or.inl (ow35 hw)) Via.refl e28 PF11 (g := (mkF m 8 #[oR b2, oI 17, oI 16, oU, oU, oU] [vR b2, vI 17])) rfl rfl (hb hby d12_8)
  refine own_go (T' := T29) (f' := (mkF m 24 #[oR b2, oI 17, oI 16, oI 17, oI 1, oU] [vR b2, vI 2, vI 16, vI 1, vI 16])) (fun _ k => st29 _ (own_e X29 tt 11 11 k rfl)) ?_
  obtain ⟨T30, X30, e30, st30⟩ := getF X29 hx hZ hown (host := "") (Or.inl (ow35 hw)) Via.refl e29 PF11 (g := (mkF m 24 #[oR b2, oI 17, oI 16, oI 17, oI 1, oU] [vR b2, vI 2, vI 16, vI 1, vI 16])) rfl rfl (hb hby d12_24)
  refine own_go (T' := T30) (f' := (mkF m 29 #[oR b2, oI 17, oI 16, oI 17, oI 1, oU] [vI 18, vI 1, vI 16])) (fun _ k => st30 _ (own_e X30 tt 27 2 k rfl)) ?_
  obtain ⟨_, T32, Lc32, X32, hQ32, st32⟩ := own_outC (Jvm.LawKit.callS X30 hx (y := mn8) hown (mvT hZ (ow78 hw)) (mvT hZ (ow79 hw)) (mvT hZ (ow80 hw)) (mvT hZ (ow81 hw)) (by decide) (backOf (W := 0) (rm13a9 l Z a0 hw []  h0 n0 Z0 ) hZ (ow81 hw) (ow80 hw) (by decide) (by decide)) (g := (mkF m 29 #[oR b2, oI 17, oI 16, oI 17, oI 1, oU] [vI 18, vI 1, vI 16])) rfl (by rw [hml]; rfl) (argsL := [(.int (16 : Int32)), (.int (1 : Int32)), (.int (18 : Int32))]) (rest := []) (lenOf pd15 rfl) rfl (by show 2 * 0 + _ ≤ _; exact Nat.le_of_eq rfl) (hb hby d12_29) (fun _ _ => ⟨rfl, e30, (by decide : 0 + 0 ≤ _), (by decide : 0 + 0 ≤ _)⟩))
  obtain ⟨rfl, N32q, hh32⟩ := hQ32
  have N32 := Fr.app N0 N32q
  obtain ⟨_, X32, N32⟩ := own_hide X32 N32
  refine own_go (T' := T32) (f' := (mkF m 54 #[oR b2, oI 17, oI 16, oI 17, oI 1, oI 34] [vR b2, vI 34])) (fun _ k => st32 _ (own_r X32 tt 32 2 rfl (X32.ldcInt hx hown (mvT hZ (ow84 hw)) (g := (mkF m 36 #[oR b2, oI 17, oI 16, oI 17, oI 1, oI 34] [vI 34])) rfl (hb hby d12_36) _ (own_e X32 tt 38 3 k rfl)))) ?_
  obtain ⟨T33, X33, e33, st33⟩ := getF X32 hx hZ hown (host := "") (Or.inl (ow35 hw)) Via.refl hh32 PF11 (g := (mkF m 54 #[oR b2, oI 17, oI 16, oI 17, oI 1, oI 34] [vR b2, vI 34])) rfl rfl (hb hby d12_54)
  refine own_go (T' := T33) (f' := (mkF m 58 #[oR b2, oI 17, oI 16, oI 17, oI 1, oI 34] [vI 34])) (fun _ k => st33 _ (own_e X33 tt 57 1 k rfl)) ?_
  refine own_ret X33 (v := some (.int (34 : Int32))) (fun h => by rw [Br] at h; cases h) Bs (fun fs hr => retI X33 hx Br (hb hby d12_58) hr) ?_ (by decide) (by decide)
  show Q12a8 Z b2 b15a k15b h0 n0 _ T33.heap _
  exact ⟨rfl, N32, e33⟩
theorem pd8 : parseMethodDescriptor "(I)I" = some ⟨[.int], some .int⟩ := by decide +kernel
theorem ef_rm1a12 (m : MethodId)  : entryFrame m #[(.int (16 : Int32)), (.int (34 : Int32))] 2 = mkF m 0 #[.val (.int (16 : Int32)), .val (.int (34 : Int32))] [] := by first | (simp [entryFrame, mkF, argsToLocals, Value.category]; done) | rfl
def Q1a12 (Z : State)  (h0 : Heap) (n0 : Nat) (v : Option Value) (h : Heap) (L : List Loc) : Prop := v = some (.int (16 : Int32)) ∧ Fr n0 L ∧ h = h0
set_option maxRecDepth 65536 in
set_option maxHeartbeats 40000000 in
theorem rm1a12 (l : Launch) (Z : State) (a0 : Array Value) (hw : ∀ d ∈ tables_1, d.before a0 Z = true) (ws : List Jvm.Cond)  (h0 : Heap) (n0 : Nat) (Z0 : n0 ≤ h0.size) :
    own_Met l mn0 jdk_29_method_69_code 2 (some .int) ws (oRm 0 0 0 0) #[(.int (16 : Int32)), (.int (34 : Int32))] Z h0 (Q1a12 Z  h0 n0) := by
  refine own_met (own := "java/lang/Math") rfl (Jvm.Free.JP.mathPlain rfl (by decide +kernel)) ?_
  intro p e s m below meth c s₁ hx hby hml hZ hown hnm X0 e0 Br Bs
  have N0 := Fr.nil n0
  have tt := own_tt hx hby own_ok1
  rw [ef_rm1a12 m ]
  refine own_go (T' := s₁) (f' := (mkF m 10 #[oI 16, oI 34] [vI 16])) (fun _ k => own_e X0 tt 0 5 k rfl) ?_
  refine own_ret X0 (v := some (.int (16 : Int32))) (fun h => by rw [Br] at h; cases h) Bs (fun fs hr => retI X0 hx Br (hb hby d1_10) hr) ?_ (by decide) (by decide)
  show Q1a12 Z  h0 n0 _ s₁.heap _
  exact ⟨rfl, N0, e0⟩
def own_t14 (pc : Nat) : Option (Instr × Nat) := bif Nat.ble pc 18 then (bif Nat.ble pc 3 then (bif Nat.ble pc 0 then (bif Nat.beq pc 0 then some (.iload_n 1, 1) else none) else (bif Nat.ble pc 1 then (bif Nat.beq pc 1 then some (.aload_n 0, 1) else none) else (bif Nat.beq pc 3 then some (.if_icmp .ne 11, 3) else none))) else (bif Nat.ble pc 14 then (bif Nat.beq pc 14 then some (.iload_n 1, 1) else none) else (bif Nat.ble pc 17 then (bif Nat.beq pc 17 then some (.astore_n 2, 1) else none) else (bif Nat.beq pc 18 then some (.aload_n 0, 1) else none)))) else (bif Nat.ble pc 21 then (bif Nat.ble pc 19 then (bif Nat.beq pc 19 then some (.iconst 0, 1) else none) else (bif Nat.ble pc 20 then (bif Nat.beq pc 20 then some (.aload_n 2, 1) else none) else (bif Nat.beq pc 21 then some (.iconst 0, 1) else none))) else (bif Nat.ble pc 22 then (bif Nat.beq pc 22 then some (.aload_n 0, 1) else none) else (bif Nat.ble pc 24 then (bif Nat.beq pc 24 then some (.iload_n 1, 1) else none) else (bif Nat.beq pc 31 then some (.aload_n 2, 1) else none))))
theorem own_ok14 : ∀ pc q, own_fetch 33 own_t14 pc = some q → decode jdk_65_method_121_code pc = .ok q := own_tab (by decide +kernel)
theorem d14_2 : decode jdk_65_method_121_code 2 = .ok (.arraylength, 1) := by decide +kernel
theorem d14_15 : decode jdk_65_method_121_code 15 = .ok (.newarray .byte, 2) := by decide +kernel
theorem d14_23 : decode jdk_65_method_121_code 23 = .ok (.arraylength, 1) := by decide +kernel
theorem d14_25 : decode jdk_65_method_121_code 25 = .ok (.invokestatic 304, 3) := by decide +kernel
theorem d14_28 : decode jdk_65_method_121_code 28 = .ok (.invokestatic 150, 3) := by decide +kernel
theorem d14_32 : decode jdk_65_method_121_code 32 = .ok (.areturn, 1) := by decide +kernel
theorem pn_11 : plainName "java/util/Arrays" = true := by first | (simp [plainName, overriddenIn]; done) | decide +kernel
theorem ef_rm14a11 (m : MethodId) (b15a : Addr) : entryFrame m #[(.ref b15a), (.int (34 : Int32))] 3 = mkF m 0 #[.val (.ref b15a), .val (.int (34 : Int32)), .unset] [] := by first | (simp [entryFrame, mkF, argsToLocals, Value.category]; done) | rfl
def Q14a11 (Z : State) (b15a : Addr) (k15b : ClassId) (h0 : Heap) (n0 : Nat) (v : Option Value) (h : Heap) (L : List Loc) : Prop := ∃ (b36 : Addr) (k36 : ClassId), v = some (.ref b36) ∧ Fr n0 L ∧ Keep h0 h [] ∧ n0 ≤ b36 ∧ h0.size ≤ b36 ∧ Arv Z h b36 k36 .byte (34 : Int32) own_ls2 (.int (0 : Int32)) ∧ Exa Z h b36 "[B"
set_option maxRecDepth 65536 in
set_option maxHeartbeats 40000000 in
theorem rm14a11 (l : Launch) (Z : State) (a0 : Array Value) (hw : ∀ d ∈ tables_1, d.before a0 Z = true) (ws : List Jvm.Cond) (b15a : Addr) (k15b : ClassId) (h0 : Heap) (n0 : Nat) (Z0 : n0 ≤ h0.size) (PV13 : Arv Z h0 b15a k15b .byte (16 : Int32) own_ls0 (.int (0 : Int32))) :
    own_Met l mn10 jdk_65_method_121_code 3 (some (.array .byte)) ws (oRm 1 1 34 18) #[(.ref b15a), (.int (34 : Int32))] Z h0 (Q14a11 Z b15a k15b h0 n0) := by
  refine own_met (own := "java/util/Arrays") rfl (plainFor_of_name pn_11) ?_
  intro p e s m below meth c s₁ hx hby hml hZ hown hnm X0 e0 Br Bs
  have N0 := Fr.nil n0
  have tt := own_tt hx hby own_ok14
  rw [ef_rm14a11 m b15a]
  refine own_go (T' := s₁) (f' := (mkF m 15 #[oR b15a, oI 34, oU] [vI 34])) (fun _ k => own_r X0 tt 0 2 rfl (own_alen X0 hx hZ e0 PV13 rfl rfl (hb hby d14_2) (own_e X0 tt 3 2 k rfl))) ?_
  obtain ⟨T36, h36, k36, X36, e36, E36, A36, EA36, st36⟩ := newPE (aty := .byte) X0 hx hZ (ow32 hw) e0 (g := (mkF m 15 #[oR b15a, oI 34, oU] [vI 34])) rfl (hb hby d14_15) rfl (by decide) (cap := 34) (by decide) (by decide) (by decide) (by decide) (ad := "[B") (by decide +kernel)
  obtain ⟨b36, g_b36⟩ : ∃ z, z = h0.size := ⟨_, rfl⟩
  have sg_b36 : h0.size ≤ b36 := Nat.le_of_eq g_b36.symm
  rw [← g_b36] at A36 EA36 st36
  have n_b36 : n0 ≤ b36 := Nat.le_trans Z0 (Nat.le_of_eq g_b36.symm)
  have sz_b36 : h0.size ≤ b36 := Nat.le_trans (Keep.refl h0 []).1 (Nat.le_of_eq g_b36.symm)
  have K36 : Keep h0 h36 [] := (Keep.refl h0 []).ext E36
  have V_b36 : Arv Z h36 b36 k36 .byte (34 : Int32) own_ls2 (.int (0 : Int32)) := (Arv.new A36 (by decide)).pad (pad_rep [] (.int (0 : Int32)) 34)
  refine own_go (T' := T36) (f' := (mkF m 25 #[oR b15a, oI 34, oR b36] [vI 34, vI 16, vI 0, vR b36, vI 0, vR b15a])) (fun _ k => st36 _ (own_r X36 tt 17 6 rfl (own_alen X36 hx hZ e36 (PV13.ext E36) rfl rfl (hb hby d14_23) (own_e X36 tt 24 1 k rfl)))) ?_
  obtain ⟨_, T37, Lc37, X37, hQ37, st37⟩ := own_outC (Jvm.LawKit.callS X36 hx (y := mn0) hown (mvT hZ (ow89 hw)) (mvT hZ (ow2 hw)) (mvT hZ (ow3 hw)) (mvT hZ (ow4 hw)) (by decide) (backOf (W := 4) (rm1a12 l Z a0 hw []  h36 n0 (Nat.le_trans Z0 E36.1) ) hZ (ow4 hw) (ow3 hw) (by decide) (by decide)) (g := (mkF m 25 #[oR b15a, oI 34, oR b36] [vI 34, vI 16, vI 0, vR b36, vI 0, vR b15a])) rfl (by rw [hml]; rfl) (argsL := [(.int (16 : Int32)), (.int (34 : Int32))]) (rest := [(.int (0 : Int32)), (.ref b36), (.int (0 : Int32)), (.ref b15a)]) (lenOf pd12 rfl) rfl (by show 2 * 0 + _ ≤ _; exact Nat.le_of_eq rfl) (hb hby d14_25) (fun _ _ => ⟨rfl, e36, (by decide : 1 + 0 ≤ _), (by decide : 34 + 0 ≤ _)⟩))
  obtain ⟨rfl, N37q, hh37⟩ := hQ37
  have N37 := Fr.app N0 N37q
  obtain ⟨_, X37, N37⟩ := own_hide X37 N37
  refine own_go (T' := T37) (f' := (mkF m 28 #[oR b15a, oI 34, oR b36] [vI 16, vI 0, vR b36, vI 0, vR b15a])) (fun _ k => st37 _ k) ?_
  obtain ⟨T38, h38, Lq38, X38, e38, N38, K38, V38, st38⟩ := cpA X37 hx hZ hown (ow90 hw) (ow93 hw) (ow91 hw) (ow92 hw) hh37 (PV13.ext E36) V_b36 (Or.inl ⟨rfl, rfl⟩) (sp := (0 : Int32)) (dp := (0 : Int32)) (nn := (16 : Int32)) (by decide) (by decide) (by decide) (by decide) (by decide) (us := own_ls0) rfl (Nat.le_of_ble_eq_true rfl) N37 n_b36 (g := (mkF m 28 #[oR b15a, oI 34, oR b36] [vI 16, vI 0, vR b36, vI 0, vR b15a])) rfl (by rw [hml]; rfl) rfl (hb hby d14_28) (by decide) (W := 0) (by show 2 * 0 + _ ≤ _; exact Nat.le_of_eq rfl) (by decide)
  have V38s : Arv Z h38 b36 k36 .byte (34 : Int32) own_ls2 (.int (0 : Int32)) := V38
  have KK38 : Keep h0 h38 [] := Keep.trans K36 K38 (allS (Or.inr sz_b36) all0)
  refine own_go (T' := T38) (f' := (mkF m 32 #[oR b15a, oI 34, oR b36] [vR b36])) (fun _ k => st38 _ (own_e X38 tt 31 1 k rfl)) ?_
  refine own_ret X38 (v := some (.ref b36)) (fun h => by rw [Br] at h; cases h) Bs (fun fs hr => own_retA X38 hx Br rfl rfl (hb hby d14_32) hr) ?_ (by decide) (by decide)
  show Q14a11 Z b15a k15b h0 n0 _ T38.heap _
  rw [e38]
  exact ⟨b36, k36, rfl, N38, KK38, n_b36, sz_b36, V38s, (EA36.keep K38)⟩
theorem pd27 : parseMethodDescriptor "([BI)[B" = some ⟨[(.array .byte), .int], some (.array .byte)⟩ := by decide +kernel
def own_t11 (pc : Nat) : Option (Instr × Nat) := bif Nat.ble pc 13 then (bif Nat.ble pc 9 then (bif Nat.ble pc 0 then (bif Nat.beq pc 0 then some (.aload_n 0, 1) else none) else (bif Nat.ble pc 5 then (bif Nat.beq pc 5 then some (.aload_n 0, 1) else none) else (bif Nat.beq pc 9 then some (.ishr, 1) else none))) else (bif Nat.ble pc 11 then (bif Nat.ble pc 10 then (bif Nat.beq pc 10 then some (.istore_n 2, 1) else none) else (bif Nat.beq pc 11 then some (.iload_n 1, 1) else none)) else (bif Nat.ble pc 12 then (bif Nat.beq pc 12 then some (.iload_n 2, 1) else none) else (bif Nat.beq pc 13 then some (.isub, 1) else none)))) else (bif Nat.ble pc 18 then (bif Nat.ble pc 14 then (bif Nat.beq pc 14 then some (.ifCond .le 24, 3) else none) else (bif Nat.ble pc 17 then (bif Nat.beq pc 17 then some (.aload_n 0, 1) else none) else (bif Nat.beq pc 18 then some (.aload_n 0, 1) else none))) else (bif Nat.ble pc 23 then (bif Nat.ble pc 22 then (bif Nat.beq pc 22 then some (.aload_n 0, 1) else none) else (bif Nat.beq pc 23 then some (.iload_n 1, 1) else none)) else (bif Nat.ble pc 27 then (bif Nat.beq pc 27 then some (.aload_n 0, 1) else none) else (bif Nat.beq pc 31 then some (.ishl, 1) else none))))
theorem own_ok11 : ∀ pc q, own_fetch 39 own_t11 pc = some q → decode jdk_68_method_9_code pc = .ok q := own_tab (by decide +kernel)
theorem d11_1 : decode jdk_68_method_9_code 1 = .ok (.getfield 15, 3) := by decide +kernel
theorem d11_4 : decode jdk_68_method_9_code 4 = .ok (.arraylength, 1) := by decide +kernel
theorem d11_6 : decode jdk_68_method_9_code 6 = .ok (.getfield 22, 3) := by decide +kernel
theorem d11_19 : decode jdk_68_method_9_code 19 = .ok (.getfield 15, 3) := by decide +kernel
theorem d11_24 : decode jdk_68_method_9_code 24 = .ok (.invokevirtual 104, 3) := by decide +kernel
theorem d11_28 : decode jdk_68_method_9_code 28 = .ok (.getfield 22, 3) := by decide +kernel
theorem d11_32 : decode jdk_68_method_9_code 32 = .ok (.invokestatic 108, 3) := by decide +kernel
theorem d11_35 : decode jdk_68_method_9_code 35 = .ok (.putfield 15, 3) := by decide +kernel
theorem d11_38 : decode jdk_68_method_9_code 38 = .ok (.return_, 1) := by decide +kernel
theorem ef_rm11a7 (m : MethodId) (b2 : Addr) : entryFrame m #[(.ref b2), (.int (17 : Int32))] 3 = mkF m 0 #[.val (.ref b2), .val (.int (17 : Int32)), .unset] [] := by first | (simp [entryFrame, mkF, argsToLocals, Value.category]; done) | rfl
def Q11a7 (Z : State) (b2 : Addr) (b15a : Addr) (k15b : ClassId) (h0 : Heap) (n0 : Nat) (v : Option Value) (h : Heap) (L : List Loc) : Prop := ∃ (b39a : Addr) (k39b : ClassId), v = none ∧ Fr n0 L ∧ Keep h0 h [b2] ∧ n0 ≤ b39a ∧ h0.size ≤ b39a ∧ Fld Z h b2 "java/lang/AbstractStringBuilder" "value" "[B" (.ref b39a) ∧ Fld Z h b2 "java/lang/AbstractStringBuilder" "coder" "B" (.int (0 : Int32)) ∧ Fld Z h b2 "java/lang/AbstractStringBuilder" "count" "I" (.int (0 : Int32)) ∧ Arv Z h b39a k39b .byte (34 : Int32) own_ls2 (.int (0 : Int32)) ∧ Exa Z h b39a "[B"
set_option maxRecDepth 65536 in
set_option maxHeartbeats 40000000 in
theorem rm11a7 (l : Launch) (Z : State) (a0 : Array Value) (hw : ∀ d ∈ tables_1, d.before a0 Z = true) (ws : List Jvm.Cond) (b2 : Addr) (b15a : Addr) (k15b : ClassId) (h0 : Heap) (n0 : Nat) (Z0 : n0 ≤ h0.size) (PE9 : Exa Z h0 b2 "java/lang/StringBuilder") (PF10 : Fld Z h0 b2 "java/lang/AbstractStringBuilder" "value" "[B" (.ref b15a)) (PF11 : Fld Z h0 b2 "java/lang/AbstractStringBuilder" "coder" "B" (.int (0 : Int32))) (PF12 : Fld Z h0 b2 "java/lang/AbstractStringBuilder" "count" "I" (.int (0 : Int32))) (PV13 : Arv Z h0 b15a k15b .byte (16 : Int32) own_ls0 (.int (0 : Int32))) (n_b2 : n0 ≤ b2) :
    own_Met l mn11 jdk_68_method_9_code 3 none ws (oRm 3 1 34 48) #[(.ref b2), (.int (17 : Int32))] Z h0 (Q11a7 Z b2 b15a k15b h0 n0) := by
  refine own_met (own := "java/lang/AbstractStringBuilder") rfl (plainFor_of_name pn_3) ?_
  intro p e s m below meth c s₁ hx hby hml hZ hown hnm X0 e0 Br Bs
  have N0 := Fr.nil n0
  have tt := own_tt hx hby own_ok11
  rw [ef_rm11a7 m b2]
  refine own_go (T' := s₁) (f' := (mkF m 1 #[oR b2, oI 17, oU] [vR b2])) (fun _ k => own_e X0 tt 0 1 k rfl) ?_
  obtain ⟨T25, X25, e25, st25⟩ := getF X0 hx hZ hown (host := "") (Or.inl (ow33 hw)) Via.refl e0 PF10 (g := (mkF m 1 #[oR b2, oI 17, oU] [vR b2])) rfl rfl (hb hby d11_1)
  refine own_go (T' := T25) (f' := (mkF m 6 #[oR b2, oI 17, oU] [vR b2, vI 16])) (fun _ k => st25 _ (own_alen X25 hx hZ e25 PV13 rfl rfl (hb hby d11_4) (own_e X25 tt 5 1 k rfl))) ?_
  obtain ⟨T26, X26, e26, st26⟩ := getF X25 hx hZ hown (host := "") (Or.inl (ow35 hw)) Via.refl e25 PF11 (g := (mkF m 6 #[oR b2, oI 17, oU] [vR b2, vI 16])) rfl rfl (hb hby d11_6)
  refine own_go (T' := T26) (f' := (mkF m 19 #[oR b2, oI 17, oI 16] [vR b2, vR b2])) (fun _ k => st26 _ (own_e X26 tt 9 8 k rfl)) ?_
  obtain ⟨T27, X27, e27, st27⟩ := getF X26 hx hZ hown (host := "") (Or.inl (ow33 hw)) Via.refl e26 PF10 (g := (mkF m 19 #[oR b2, oI 17, oI 16] [vR b2, vR b2])) rfl rfl (hb hby d11_19)
  refine own_go (T' := T27) (f' := (mkF m 24 #[oR b2, oI 17, oI 16] [vI 17, vR b2, vR b15a, vR b2])) (fun _ k => st27 _ (own_e X27 tt 22 2 k rfl)) ?_
  obtain ⟨cq34, q34, q34'⟩ := PE9.cell
  obtain ⟨_, T34, Lc34, X34, hQ34, st34⟩ := own_out (X27.privateBack hx (y := mn9) hown (mvT hZ (ow73 hw)) (mvT hZ (ow74 hw)) (own_selp (mvT hZ (ow76 hw)) (Cond.privateMethod_at (mvP hZ (ow75 hw) (args := #[]))) (mvT hZ (ow74 hw)) (by decide)) (Cond.privateMethod_at (mvP hZ (ow75 hw) (args := #[]))) (mvT hZ (ow77 hw)) (by decide) (backOf (W := 2) (rm12a8 l Z a0 hw [] b2 b15a k15b h0 n0 Z0 PF10 PF11 PV13) hZ (ow77 hw) (ow25 hw) (by decide) (by decide)) (g := (mkF m 24 #[oR b2, oI 17, oI 16] [vI 17, vR b2, vR b15a, vR b2])) rfl (by rw [hml]; rfl) (Steps.refl _) (a := b2) (by rw [e27]; exact q34) q34' (argsL := [(.int (17 : Int32))]) (rest := [(.ref b15a), (.ref b2)]) (lenOf pd8 rfl) rfl (by show 2 * 0 + _ ≤ _; exact Nat.le_of_eq rfl) (hb hby d11_24) (fun _ _ => ⟨rfl, e27, (by decide : 0 + 0 ≤ _), (by decide : 0 + 0 ≤ _)⟩))
  obtain ⟨rfl, N34q, hh34⟩ := hQ34
  have N34 := Fr.app N0 N34q
  obtain ⟨_, X34, N34⟩ := own_hide X34 N34
  refine own_go (T' := T34) (f' := (mkF m 28 #[oR b2, oI 17, oI 16] [vR b2, vI 34, vR b15a, vR b2])) (fun _ k => st34.trans (own_e X34 tt 27 1 k rfl)) ?_
  obtain ⟨T35, X35, e35, st35⟩ := getF X34 hx hZ hown (host := "") (Or.inl (ow35 hw)) Via.refl hh34 PF11 (g := (mkF m 28 #[oR b2, oI 17, oI 16] [vR b2, vI 34, vR b15a, vR b2])) rfl rfl (hb hby d11_28)
  refine own_go (T' := T35) (f' := (mkF m 32 #[oR b2, oI 17, oI 16] [vI 34, vR b15a, vR b2])) (fun _ k => st35 _ (own_e X35 tt 31 1 k rfl)) ?_
  obtain ⟨_, T39, Lc39, X39, hQ39, st39⟩ := own_outC (Jvm.LawKit.callS X35 hx (y := mn10) hown (mvT hZ (ow85 hw)) (mvT hZ (ow86 hw)) (mvT hZ (ow87 hw)) (mvT hZ (ow88 hw)) (by decide) (backOf (W := 1) (rm14a11 l Z a0 hw [] b15a k15b h0 n0 Z0 PV13) hZ (ow88 hw) (ow87 hw) (by decide) (by decide)) (g := (mkF m 32 #[oR b2, oI 17, oI 16] [vI 34, vR b15a, vR b2])) rfl (by rw [hml]; rfl) (argsL := [(.ref b15a), (.int (34 : Int32))]) (rest := [(.ref b2)]) (lenOf pd27 rfl) rfl (by show 2 * 0 + _ ≤ _; exact Nat.le_of_eq rfl) (hb hby d11_32) (fun _ _ => ⟨rfl, e35, (by decide : 0 + 1 ≤ _), (by decide : 0 + 34 ≤ _)⟩))
  obtain ⟨b39a, k39b, rfl, N39q, K39, n_b39a, sg_b39a, g39_0, g39_1⟩ := hQ39
  have N39 := Fr.app N34 N39q
  have sz_b39a : h0.size ≤ b39a := Nat.le_trans (Keep.refl h0 [b2]).1 sg_b39a
  have eK39 : T39.heap = T39.heap := rfl
  have KK39 : Keep h0 T39.heap [b2] := Keep.trans (Keep.refl h0 [b2]) K39 all0
  obtain ⟨_, X39, N39⟩ := own_hide X39 N39
  refine own_go (T' := T39) (f' := (mkF m 35 #[oR b2, oI 17, oI 16] [vR b39a, vR b2])) (fun _ k => st39 _ k) ?_
  obtain ⟨T40, h40, X40, e40, W40, st40⟩ := putF X39 hx hZ hown (host := "") (Or.inl (ow33 hw)) Via.refl eK39 (PF10.keep K39 nin0) (PE9.keep K39) (Or.inl (ow34 hw)) (ow16 hw) (ty := (.array .byte)) (by decide) rfl rfl (g := (mkF m 35 #[oR b2, oI 17, oI 16] [vR b39a, vR b2])) rfl rfl (hb hby d11_35)
  have Fw40 := Fld.same W40 (PF10.keep K39 nin0)
  have K40 : Keep h0 h40 [b2] := KK39.wr W40 (Or.inl (List.mem_of_getElem? (i := 0) rfl))
  have N40 := Fr.snoc X40 N39 n_b2
  refine own_go (T' := T40) (f' := (mkF m 38 #[oR b2, oI 17, oI 16] [])) (fun _ k => st40 _ k) ?_
  refine own_ret X40 (v := none) (fun _ => rfl) Bs (fun fs hr => X40.returnOut hx Br (hb hby d11_38) hr) ?_ (by decide) (by decide)
  show Q11a7 Z b2 b15a k15b h0 n0 _ T40.heap _
  have G41 := ((PF11.keep K39 nin0).other W40 (Or.inr (slot_ne (Or.inl (ow36 hw)) (Or.inl (ow34 hw)) (by decide) (t := .byte) (t' := (.array .byte)) (by decide) (by decide))))
  have G42 := ((PF12.keep K39 nin0).other W40 (Or.inr (slot_ne (Or.inl (ow67 hw)) (Or.inl (ow34 hw)) (by decide) (t := .int) (t' := (.array .byte)) (by decide) (by decide))))
  have q43 : b39a ≠ b2 := (Ne.symm (Nat.ne_of_lt (Nat.lt_of_lt_of_le PE9.lt sz_b39a)))
  rw [e40]
  exact ⟨b39a, k39b, rfl, N40, K40, n_b39a, sz_b39a, Fw40, G41, G42, (g39_0.other W40 q43), (g39_1.wr W40)⟩
def own_t16 (pc : Nat) : Option (Instr × Nat) := bif Nat.ble pc 6 then (bif Nat.ble pc 3 then (bif Nat.beq pc 3 then some (.ifCond .eq 18, 3) else none) else (bif Nat.beq pc 6 then some (.aload_n 0, 1) else none)) else (bif Nat.ble pc 10 then (bif Nat.beq pc 10 then some (.aload_n 1, 1) else none) else (bif Nat.beq pc 14 then some (.if_icmp .eq 7, 3) else none))
theorem own_ok16 : ∀ pc q, own_fetch 22 own_t16 pc = some q → decode jdk_68_method_71_code pc = .ok q := own_tab (by decide +kernel)
theorem d16_0 : decode jdk_68_method_71_code 0 = .ok (.getstatic 18, 3) := by decide +kernel
theorem d16_3 : decode jdk_68_method_71_code 3 = .ok (.ifCond .eq 18, 3) := by decide +kernel
theorem d16_7 : decode jdk_68_method_71_code 7 = .ok (.getfield 22, 3) := by decide +kernel
theorem d16_11 : decode jdk_68_method_71_code 11 = .ok (.invokevirtual 40, 3) := by decide +kernel
theorem d16_21 : decode jdk_68_method_71_code 21 = .ok (.return_, 1) := by decide +kernel
theorem ef_rm16a14 (m : MethodId) (b2 : Addr) (a18 : Addr) : entryFrame m #[(.ref b2), (.ref a18)] 2 = mkF m 0 #[.val (.ref b2), .val (.ref a18)] [] := by first | (simp [entryFrame, mkF, argsToLocals, Value.category]; done) | rfl
def Q16a14 (Z : State) (b2 : Addr) (a18 : Addr) (cs : Int32) (h0 : Heap) (n0 : Nat) (v : Option Value) (h : Heap) (L : List Loc) : Prop := v = none ∧ Fr n0 L ∧ h = h0
set_option maxRecDepth 65536 in
set_option maxHeartbeats 40000000 in
theorem rm16a14 (l : Launch) (Z : State) (a0 : Array Value) (hw : ∀ d ∈ tables_1, d.before a0 Z = true) (ws : List Jvm.Cond) (b2 : Addr) (a18 : Addr) (cs : Int32) (h0 : Heap) (n0 : Nat) (Z0 : n0 ≤ h0.size) (PS0 : Sta Z h0 "java/lang/String" "COMPACT_STRINGS" "Z" (.int cs)) (PF11 : Fld Z h0 b2 "java/lang/AbstractStringBuilder" "coder" "B" (.int (0 : Int32))) (PE15 : Exa Z h0 a18 "java/lang/String") (PF16 : Fld Z h0 a18 "java/lang/String" "coder" "B" (.int (0 : Int32))) (PP0 : ¬ (cs = (0 : Int32))) :
    own_Met l mn12 jdk_68_method_71_code 2 none ws (oRm 1 0 0 13) #[(.ref b2), (.ref a18)] Z h0 (Q16a14 Z b2 a18 cs h0 n0) := by
  refine own_met (own := "java/lang/AbstractStringBuilder") rfl (plainFor_of_name pn_3) ?_
  intro p e s m below meth c s₁ hx hby hml hZ hown hnm X0 e0 Br Bs
  have N0 := Fr.nil n0
  have tt := own_tt hx hby own_ok16
  rw [ef_rm16a14 m b2 a18]
  obtain ⟨T46, X46, e46, st46⟩ := getS2 X0 hx hZ hown (host := "") (Or.inl (ow30 hw)) Via.refl e0 PS0 (g := (mkF m 0 #[oR b2, oR a18] [])) rfl (hb hby d16_0)
  refine own_go (T' := T46) (f' := (mkF m 7 #[oR b2, oR a18] [vR b2])) (fun _ k => st46 _ (XS.ifNo X46.here hx rfl (hb hby d16_3) rfl ((if0 _ _).trans (feq PP0).1) (own_e X46 tt 6 1 k rfl))) ?_
  obtain ⟨T47, X47, e47, st47⟩ := getF X46 hx hZ hown (host := "") (Or.inl (ow35 hw)) Via.refl e46 PF11 (g := (mkF m 7 #[oR b2, oR a18] [vR b2])) rfl rfl (hb hby d16_7)
  refine own_go (T' := T47) (f' := (mkF m 11 #[oR b2, oR a18] [vR a18, vI 0])) (fun _ k => st47 _ (own_e X47 tt 10 1 k rfl)) ?_
  obtain ⟨cq48, kq48, q48a, q48b, q48c⟩ := isOf hZ e47 PE15
  obtain ⟨_, T48, Lc48, X48, hQ48, st48⟩ := own_out (X47.virtualBack hx (y := mn6) (z := mn6) hown (mvT hZ (ow104 hw)) (mvT hZ (ow60 hw)) (notFace_of_selects (args := #[]) (mvT hZ (ow62 hw))) (mvT hZ (ow62 hw)) (mvT hZ (ow61 hw)) (by decide) (backOf (W := 1) (rm10a6 l Z a0 hw [] a18 cs h0 n0 Z0 PS0 PF16 PP0) hZ (ow63 hw) (ow31 hw) (by decide) (by decide)) q48a q48c (g := (mkF m 11 #[oR b2, oR a18] [vR a18, vI 0])) rfl (by rw [hml]; rfl) (Steps.refl _) (argsL := []) (rest := [(.int (0 : Int32))]) (lenOf pd0 rfl) rfl (by show 2 * 0 + _ ≤ _; exact Nat.le_of_eq rfl) (hb hby d16_11) (fun _ _ => ⟨rfl, e47, (by decide : 0 + 0 ≤ _), (by decide : 0 + 0 ≤ _)⟩))
  obtain ⟨rfl, N48q, hh48⟩ := hQ48
  have N48 := Fr.app N0 N48q
  obtain ⟨_, X48, N48⟩ := own_hide X48 N48
  refine own_go (T' := T48) (f' := (mkF m 21 #[oR b2, oR a18] [])) (fun _ k => st48.trans (own_e X48 tt 14 1 k rfl)) ?_
  refine own_ret X48 (v := none) (fun _ => rfl) Bs (fun fs hr => X48.returnOut hx Br (hb hby d16_21) hr) ?_ (by decide) (by decide)
  show Q16a14 Z b2 a18 cs h0 n0 _ T48.heap _
  exact ⟨rfl, N48, hh48⟩
theorem pd24 : parseMethodDescriptor "(Ljava/lang/String;)V" = some ⟨[(.object "java/lang/String")], none⟩ := by decide +kernel
def own_t17 (pc : Nat) : Option (Instr × Nat) := bif Nat.ble pc 12 then (bif Nat.ble pc 4 then (bif Nat.ble pc 0 then (bif Nat.beq pc 0 then some (.aload_n 0, 1) else none) else (bif Nat.beq pc 4 then some (.iload_n 3, 1) else none)) else (bif Nat.ble pc 5 then (bif Nat.beq pc 5 then some (.if_icmp .ne 23, 3) else none) else (bif Nat.ble pc 8 then (bif Nat.beq pc 8 then some (.aload_n 0, 1) else none) else (bif Nat.beq pc 12 then some (.iconst 0, 1) else none)))) else (bif Nat.ble pc 15 then (bif Nat.ble pc 13 then (bif Nat.beq pc 13 then some (.aload_n 1, 1) else none) else (bif Nat.ble pc 14 then (bif Nat.beq pc 14 then some (.iload_n 2, 1) else none) else (bif Nat.beq pc 15 then some (.iload_n 3, 1) else none))) else (bif Nat.ble pc 16 then (bif Nat.beq pc 16 then some (.ishl, 1) else none) else (bif Nat.ble pc 17 then (bif Nat.beq pc 17 then some (.aload_n 0, 1) else none) else (bif Nat.beq pc 25 then some (.goto 18, 3) else none))))
theorem own_ok17 : ∀ pc q, own_fetch 44 own_t17 pc = some q → decode jdk_42_method_147_code pc = .ok q := own_tab (by decide +kernel)
theorem d17_1 : decode jdk_42_method_147_code 1 = .ok (.invokevirtual 335, 3) := by decide +kernel
theorem d17_9 : decode jdk_42_method_147_code 9 = .ok (.getfield 9, 3) := by decide +kernel
theorem d17_18 : decode jdk_42_method_147_code 18 = .ok (.getfield 9, 3) := by decide +kernel
theorem d17_21 : decode jdk_42_method_147_code 21 = .ok (.arraylength, 1) := by decide +kernel
theorem d17_22 : decode jdk_42_method_147_code 22 = .ok (.invokestatic 212, 3) := by decide +kernel
theorem d17_43 : decode jdk_42_method_147_code 43 = .ok (.return_, 1) := by decide +kernel
theorem ef_rm17a15 (m : MethodId) (a18 : Addr) (b44a : Addr) : entryFrame m #[(.ref a18), (.ref b44a), (.int (0 : Int32)), (.int (0 : Int32))] 4 = mkF m 0 #[.val (.ref a18), .val (.ref b44a), .val (.int (0 : Int32)), .val (.int (0 : Int32))] [] := by first | (simp [entryFrame, mkF, argsToLocals, Value.category]; done) | rfl
def Q17a15 (Z : State) (a18 : Addr) (b44a : Addr) (cs : Int32) (b18 : Addr) (kc18 : ClassId) (k44b : ClassId) (h0 : Heap) (n0 : Nat) (v : Option Value) (h : Heap) (L : List Loc) : Prop := v = none ∧ Fr n0 L ∧ Keep h0 h [b44a] ∧ Arv Z h b44a k44b .byte (34 : Int32) own_ls3 (.int (0 : Int32))
set_option maxRecDepth 65536 in
set_option maxHeartbeats 40000000 in
theorem rm17a15 (l : Launch) (Z : State) (a0 : Array Value) (hw : ∀ d ∈ tables_1, d.before a0 Z = true) (ws : List Jvm.Cond) (a18 : Addr) (b44a : Addr) (cs : Int32) (b18 : Addr) (kc18 : ClassId) (k44b : ClassId) (h0 : Heap) (n0 : Nat) (Z0 : n0 ≤ h0.size) (PS0 : Sta Z h0 "java/lang/String" "COMPACT_STRINGS" "Z" (.int cs)) (PE15 : Exa Z h0 a18 "java/lang/String") (PF16 : Fld Z h0 a18 "java/lang/String" "coder" "B" (.int (0 : Int32))) (PF17 : Fld Z h0 a18 "java/lang/String" "value" "[B" (.ref b18)) (PV18 : Arv Z h0 b18 kc18 .byte (17 : Int32) own_ls1 (.int (0 : Int32))) (PV19 : Arv Z h0 b44a k44b .byte (34 : Int32) own_ls2 (.int (0 : Int32))) (PP0 : ¬ (cs = (0 : Int32))) (n_b44a : n0 ≤ b44a) :
    own_Met l mn13 jdk_42_method_147_code 4 none ws (oRm 1 0 0 18) #[(.ref a18), (.ref b44a), (.int (0 : Int32)), (.int (0 : Int32))] Z h0 (Q17a15 Z a18 b44a cs b18 kc18 k44b h0 n0) := by
  refine own_met (own := "java/lang/String") rfl (plainFor_of_name pn_7) ?_
  intro p e s m below meth c s₁ hx hby hml hZ hown hnm X0 e0 Br Bs
  have N0 := Fr.nil n0
  have tt := own_tt hx hby own_ok17
  rw [ef_rm17a15 m a18 b44a]
  refine own_go (T' := s₁) (f' := (mkF m 1 #[oR a18, oR b44a, oI 0, oI 0] [vR a18])) (fun _ k => own_e X0 tt 0 1 k rfl) ?_
  obtain ⟨cq52, kq52, q52a, q52b, q52c⟩ := isOf hZ e0 PE15
  obtain ⟨_, T52, Lc52, X52, hQ52, st52⟩ := own_out (X0.virtualBack hx (y := mn6) (z := mn6) hown (mvT hZ (ow59 hw)) (mvT hZ (ow60 hw)) (notFace_of_selects (args := #[]) (mvT hZ (ow62 hw))) (mvT hZ (ow62 hw)) (mvT hZ (ow61 hw)) (by decide) (backOf (W := 0) (rm10a6 l Z a0 hw [] a18 cs h0 n0 Z0 PS0 PF16 PP0) hZ (ow63 hw) (ow31 hw) (by decide) (by decide)) q52a q52c (g := (mkF m 1 #[oR a18, oR b44a, oI 0, oI 0] [vR a18])) rfl (by rw [hml]; rfl) (Steps.refl _) (argsL := []) (rest := []) (lenOf pd0 rfl) rfl (by show 2 * 0 + _ ≤ _; exact Nat.le_of_eq rfl) (hb hby d17_1) (fun _ _ => ⟨rfl, e0, (by decide : 0 + 0 ≤ _), (by decide : 0 + 0 ≤ _)⟩))
  obtain ⟨rfl, N52q, hh52⟩ := hQ52
  have N52 := Fr.app N0 N52q
  obtain ⟨_, X52, N52⟩ := own_hide X52 N52
  refine own_go (T' := T52) (f' := (mkF m 9 #[oR a18, oR b44a, oI 0, oI 0] [vR a18])) (fun _ k => st52.trans (own_e X52 tt 4 3 k rfl)) ?_
  obtain ⟨T53, X53, e53, st53⟩ := getF X52 hx hZ hown (host := "") (Or.inl (ow58 hw)) Via.refl hh52 PF17 (g := (mkF m 9 #[oR a18, oR b44a, oI 0, oI 0] [vR a18])) rfl rfl (hb hby d17_9)
  refine own_go (T' := T53) (f' := (mkF m 18 #[oR a18, oR b44a, oI 0, oI 0] [vR a18, vI 0, vR b44a, vI 0, vR b18])) (fun _ k => st53 _ (own_e X53 tt 12 6 k rfl)) ?_
  obtain ⟨T54, X54, e54, st54⟩ := getF X53 hx hZ hown (host := "") (Or.inl (ow58 hw)) Via.refl e53 PF17 (g := (mkF m 18 #[oR a18, oR b44a, oI 0, oI 0] [vR a18, vI 0, vR b44a, vI 0, vR b18])) rfl rfl (hb hby d17_18)
  refine own_go (T' := T54) (f' := (mkF m 22 #[oR a18, oR b44a, oI 0, oI 0] [vI 17, vI 0, vR b44a, vI 0, vR b18])) (fun _ k => st54 _ (own_alen X54 hx hZ e54 PV18 rfl rfl (hb hby d17_21) k)) ?_
  obtain ⟨T55, h55, Lq55, X55, e55, N55, K55, V55, st55⟩ := cpA X54 hx hZ hown (ow110 hw) (ow93 hw) (ow91 hw) (ow92 hw) e54 PV18 PV19 (Or.inl ⟨rfl, rfl⟩) (sp := (0 : Int32)) (dp := (0 : Int32)) (nn := (17 : Int32)) (by decide) (by decide) (by decide) (by decide) (by decide) (us := own_ls1) rfl (Nat.le_of_ble_eq_true rfl) N52 n_b44a (g := (mkF m 22 #[oR a18, oR b44a, oI 0, oI 0] [vI 17, vI 0, vR b44a, vI 0, vR b18])) rfl (by rw [hml]; rfl) rfl (hb hby d17_22) (by decide) (W := 0) (by show 2 * 0 + _ ≤ _; exact Nat.le_of_eq rfl) (by decide)
  have V55s : Arv Z h55 b44a k44b .byte (34 : Int32) own_ls3 (.int (0 : Int32)) := V55
  have KK55 : Keep h0 h55 [b44a] := Keep.trans (Keep.refl h0 [b44a]) K55 (allS (Or.inl (List.mem_of_getElem? (i := 0) rfl)) all0)
  refine own_go (T' := T55) (f' := (mkF m 43 #[oR a18, oR b44a, oI 0, oI 0] [])) (fun _ k => st55 _ (own_e X55 tt 25 1 k rfl)) ?_
  refine own_ret X55 (v := none) (fun _ => rfl) Bs (fun fs hr => X55.returnOut hx Br (hb hby d17_43) hr) ?_ (by decide) (by decide)
  show Q17a15 Z a18 b44a cs b18 kc18 k44b h0 n0 _ T55.heap _
  rw [e55]
  exact ⟨rfl, N55, KK55, V55s⟩
theorem pd28 : parseMethodDescriptor "([BIB)V" = some ⟨[(.array .byte), .int, .byte], none⟩ := by decide +kernel
def own_t15 (pc : Nat) : Option (Instr × Nat) := bif Nat.ble pc 5 then (bif Nat.ble pc 0 then (bif Nat.beq pc 0 then some (.aload_n 0, 1) else none) else (bif Nat.ble pc 1 then (bif Nat.beq pc 1 then some (.aload_n 2, 1) else none) else (bif Nat.beq pc 5 then some (.aload_n 2, 1) else none))) else (bif Nat.ble pc 6 then (bif Nat.beq pc 6 then some (.aload_n 0, 1) else none) else (bif Nat.ble pc 10 then (bif Nat.beq pc 10 then some (.iload_n 1, 1) else none) else (bif Nat.beq pc 11 then some (.aload_n 0, 1) else none)))
theorem own_ok15 : ∀ pc q, own_fetch 19 own_t15 pc = some q → decode jdk_68_method_73_code pc = .ok q := own_tab (by decide +kernel)
theorem d15_2 : decode jdk_68_method_73_code 2 = .ok (.invokevirtual 397, 3) := by decide +kernel
theorem d15_7 : decode jdk_68_method_73_code 7 = .ok (.getfield 15, 3) := by decide +kernel
theorem d15_12 : decode jdk_68_method_73_code 12 = .ok (.getfield 22, 3) := by decide +kernel
theorem d15_15 : decode jdk_68_method_73_code 15 = .ok (.invokevirtual 399, 3) := by decide +kernel
theorem d15_18 : decode jdk_68_method_73_code 18 = .ok (.return_, 1) := by decide +kernel
theorem ef_rm15a13 (m : MethodId) (b2 : Addr) (a18 : Addr) : entryFrame m #[(.ref b2), (.int (0 : Int32)), (.ref a18)] 3 = mkF m 0 #[.val (.ref b2), .val (.int (0 : Int32)), .val (.ref a18)] [] := by first | (simp [entryFrame, mkF, argsToLocals, Value.category]; done) | rfl
def Q15a13 (Z : State) (b2 : Addr) (a18 : Addr) (cs : Int32) (b44a : Addr) (b18 : Addr) (kc18 : ClassId) (k44b : ClassId) (h0 : Heap) (n0 : Nat) (v : Option Value) (h : Heap) (L : List Loc) : Prop := v = none ∧ Fr n0 L ∧ Keep h0 h [b44a] ∧ Arv Z h b44a k44b .byte (34 : Int32) own_ls3 (.int (0 : Int32))
set_option maxRecDepth 65536 in
set_option maxHeartbeats 40000000 in
theorem rm15a13 (l : Launch) (Z : State) (a0 : Array Value) (hw : ∀ d ∈ tables_1, d.before a0 Z = true) (ws : List Jvm.Cond) (b2 : Addr) (a18 : Addr) (cs : Int32) (b44a : Addr) (b18 : Addr) (kc18 : ClassId) (k44b : ClassId) (h0 : Heap) (n0 : Nat) (Z0 : n0 ≤ h0.size) (PS0 : Sta Z h0 "java/lang/String" "COMPACT_STRINGS" "Z" (.int cs)) (PE9 : Exa Z h0 b2 "java/lang/StringBuilder") (PF10 : Fld Z h0 b2 "java/lang/AbstractStringBuilder" "value" "[B" (.ref b44a)) (PF11 : Fld Z h0 b2 "java/lang/AbstractStringBuilder" "coder" "B" (.int (0 : Int32))) (PE15 : Exa Z h0 a18 "java/lang/String") (PF16 : Fld Z h0 a18 "java/lang/String" "coder" "B" (.int (0 : Int32))) (PF17 : Fld Z h0 a18 "java/lang/String" "value" "[B" (.ref b18)) (PV18 : Arv Z h0 b18 kc18 .byte (17 : Int32) own_ls1 (.int (0 : Int32))) (PV19 : Arv Z h0 b44a k44b .byte (34 : Int32) own_ls2 (.int (0 : Int32))) (PP0 : ¬ (cs = (0 : Int32))) (n_b44a : n0 ≤ b44a) :
    own_Met l mn14 jdk_68_method_73_code 3 none ws (oRm 2 0 0 33) #[(.ref b2), (.int (0 : Int32)), (.ref a18)] Z h0 (Q15a13 Z b2 a18 cs b44a b18 kc18 k44b h0 n0) := by
  refine own_met (own := "java/lang/AbstractStringBuilder") rfl (plainFor_of_name pn_3) ?_
  intro p e s m below meth c s₁ hx hby hml hZ hown hnm X0 e0 Br Bs
  have N0 := Fr.nil n0
  have tt := own_tt hx hby own_ok15
  rw [ef_rm15a13 m b2 a18]
  refine own_go (T' := s₁) (f' := (mkF m 2 #[oR b2, oI 0, oR a18] [vR a18, vR b2])) (fun _ k => own_e X0 tt 0 2 k rfl) ?_
  obtain ⟨cq49, q49, q49'⟩ := PE9.cell
  obtain ⟨_, T49, Lc49, X49, hQ49, st49⟩ := own_out (X0.privateBack hx (y := mn12) hown (mvT hZ (ow99 hw)) (mvT hZ (ow100 hw)) (own_selp (mvT hZ (ow102 hw)) (Cond.privateMethod_at (mvP hZ (ow101 hw) (args := #[]))) (mvT hZ (ow100 hw)) (by decide)) (Cond.privateMethod_at (mvP hZ (ow101 hw) (args := #[]))) (mvT hZ (ow103 hw)) (by decide) (backOf (W := 0) (rm16a14 l Z a0 hw [] b2 a18 cs h0 n0 Z0 PS0 PF11 PE15 PF16 PP0) hZ (ow103 hw) (ow25 hw) (by decide) (by decide)) (g := (mkF m 2 #[oR b2, oI 0, oR a18] [vR a18, vR b2])) rfl (by rw [hml]; rfl) (Steps.refl _) (a := b2) (by rw [e0]; exact q49) q49' (argsL := [(.ref a18)]) (rest := []) (lenOf pd24 rfl) rfl (by show 2 * 0 + _ ≤ _; exact Nat.le_of_eq rfl) (hb hby d15_2) (fun _ _ => ⟨rfl, e0, (by decide : 0 + 0 ≤ _), (by decide : 0 + 0 ≤ _)⟩))
  obtain ⟨rfl, N49q, hh49⟩ := hQ49
  have N49 := Fr.app N0 N49q
  obtain ⟨_, X49, N49⟩ := own_hide X49 N49
  refine own_go (T' := T49) (f' := (mkF m 7 #[oR b2, oI 0, oR a18] [vR b2, vR a18])) (fun _ k => st49.trans (own_e X49 tt 5 2 k rfl)) ?_
  obtain ⟨T50, X50, e50, st50⟩ := getF X49 hx hZ hown (host := "") (Or.inl (ow33 hw)) Via.refl hh49 PF10 (g := (mkF m 7 #[oR b2, oI 0, oR a18] [vR b2, vR a18])) rfl rfl (hb hby d15_7)
  refine own_go (T' := T50) (f' := (mkF m 12 #[oR b2, oI 0, oR a18] [vR b2, vI 0, vR b44a, vR a18])) (fun _ k => st50 _ (own_e X50 tt 10 2 k rfl)) ?_
  obtain ⟨T51, X51, e51, st51⟩ := getF X50 hx hZ hown (host := "") (Or.inl (ow35 hw)) Via.refl e50 PF11 (g := (mkF m 12 #[oR b2, oI 0, oR a18] [vR b2, vI 0, vR b44a, vR a18])) rfl rfl (hb hby d15_12)
  refine own_go (T' := T51) (f' := (mkF m 15 #[oR b2, oI 0, oR a18] [vI 0, vI 0, vR b44a, vR a18])) (fun _ k => st51 _ k) ?_
  obtain ⟨cq56, kq56, q56a, q56b, q56c⟩ := isOf hZ e51 PE15
  obtain ⟨_, T56, Lc56, X56, hQ56, st56⟩ := own_out (X51.virtualBack hx (y := mn13) (z := mn13) hown (mvT hZ (ow105 hw)) (mvT hZ (ow106 hw)) (notFace_of_selects (args := #[]) (mvT hZ (ow108 hw))) (mvT hZ (ow108 hw)) (mvT hZ (ow107 hw)) (by decide) (backOf (W := 0) (rm17a15 l Z a0 hw [] a18 b44a cs b18 kc18 k44b h0 n0 Z0 PS0 PE15 PF16 PF17 PV18 PV19 PP0 n_b44a) hZ (ow109 hw) (ow31 hw) (by decide) (by decide)) q56a q56c (g := (mkF m 15 #[oR b2, oI 0, oR a18] [vI 0, vI 0, vR b44a, vR a18])) rfl (by rw [hml]; rfl) (Steps.refl _) (argsL := [(.ref b44a), (.int (0 : Int32)), (.int (0 : Int32))]) (rest := []) (lenOf pd28 rfl) rfl (by show 2 * 0 + _ ≤ _; exact Nat.le_of_eq rfl) (hb hby d15_15) (fun _ _ => ⟨rfl, e51, (by decide : 0 + 0 ≤ _), (by decide : 0 + 0 ≤ _)⟩))
  obtain ⟨rfl, N56q, K56, g56_0⟩ := hQ56
  have N56 := Fr.app N49 N56q
  have eK56 : T56.heap = T56.heap := rfl
  have KK56 : Keep h0 T56.heap [b44a] := Keep.trans (Keep.refl h0 [b44a]) K56 (allS (Or.inl (List.mem_of_getElem? (i := 0) rfl)) all0)
  obtain ⟨_, X56, N56⟩ := own_hide X56 N56
  refine own_go (T' := T56) (f' := (mkF m 18 #[oR b2, oI 0, oR a18] [])) (fun _ k => st56.trans k) ?_
  refine own_ret X56 (v := none) (fun _ => rfl) Bs (fun fs hr => X56.returnOut hx Br (hb hby d15_18) hr) ?_ (by decide) (by decide)
  show Q15a13 Z b2 a18 cs b44a b18 kc18 k44b h0 n0 _ T56.heap _
  rw [eK56]
  exact ⟨rfl, N56, KK56, g56_0⟩
theorem pd18 : parseMethodDescriptor "(ILjava/lang/String;)V" = some ⟨[.int, (.object "java/lang/String")], none⟩ := by decide +kernel
def own_t8 (pc : Nat) : Option (Instr × Nat) := bif Nat.ble pc 20 then (bif Nat.ble pc 13 then (bif Nat.ble pc 1 then (bif Nat.ble pc 0 then (bif Nat.beq pc 0 then some (.aload_n 1, 1) else none) else (bif Nat.beq pc 1 then some (.ifnonnull 8, 3) else none)) else (bif Nat.ble pc 9 then (bif Nat.beq pc 9 then some (.aload_n 1, 1) else none) else (bif Nat.beq pc 13 then some (.istore_n 2, 1) else none))) else (bif Nat.ble pc 15 then (bif Nat.ble pc 14 then (bif Nat.beq pc 14 then some (.aload_n 0, 1) else none) else (bif Nat.beq pc 15 then some (.aload_n 0, 1) else none)) else (bif Nat.ble pc 19 then (bif Nat.beq pc 19 then some (.iload_n 2, 1) else none) else (bif Nat.beq pc 20 then some (.iadd, 1) else none)))) else (bif Nat.ble pc 33 then (bif Nat.ble pc 25 then (bif Nat.ble pc 24 then (bif Nat.beq pc 24 then some (.aload_n 0, 1) else none) else (bif Nat.beq pc 25 then some (.aload_n 0, 1) else none)) else (bif Nat.ble pc 29 then (bif Nat.beq pc 29 then some (.aload_n 1, 1) else none) else (bif Nat.beq pc 33 then some (.aload_n 0, 1) else none))) else (bif Nat.ble pc 38 then (bif Nat.ble pc 34 then (bif Nat.beq pc 34 then some (.dup, 1) else none) else (bif Nat.beq pc 38 then some (.iload_n 2, 1) else none)) else (bif Nat.ble pc 39 then (bif Nat.beq pc 39 then some (.iadd, 1) else none) else (bif Nat.beq pc 43 then some (.aload_n 0, 1) else none))))
theorem own_ok8 : ∀ pc q, own_fetch 45 own_t8 pc = some q → decode jdk_68_method_22_code pc = .ok q := own_tab (by decide +kernel)
theorem d8_10 : decode jdk_68_method_22_code 10 = .ok (.invokevirtual 32, 3) := by decide +kernel
theorem d8_16 : decode jdk_68_method_22_code 16 = .ok (.getfield 79, 3) := by decide +kernel
theorem d8_21 : decode jdk_68_method_22_code 21 = .ok (.invokevirtual 100, 3) := by decide +kernel
theorem d8_26 : decode jdk_68_method_22_code 26 = .ok (.getfield 79, 3) := by decide +kernel
theorem d8_30 : decode jdk_68_method_22_code 30 = .ok (.invokevirtual 208, 3) := by decide +kernel
theorem d8_35 : decode jdk_68_method_22_code 35 = .ok (.getfield 79, 3) := by decide +kernel
theorem d8_40 : decode jdk_68_method_22_code 40 = .ok (.putfield 79, 3) := by decide +kernel
theorem d8_44 : decode jdk_68_method_22_code 44 = .ok (.areturn, 1) := by decide +kernel
theorem ef_rm8a4 (m : MethodId) (b2 : Addr) (a18 : Addr) : entryFrame m #[(.ref b2), (.ref a18)] 3 = mkF m 0 #[.val (.ref b2), .val (.ref a18), .unset] [] := by first | (simp [entryFrame, mkF, argsToLocals, Value.category]; done) | rfl
def Q8a4 (Z : State) (b2 : Addr) (a18 : Addr) (cs : Int32) (b15a : Addr) (k15b : ClassId) (b18 : Addr) (kc18 : ClassId) (h0 : Heap) (n0 : Nat) (v : Option Value) (h : Heap) (L : List Loc) : Prop := ∃ (b44a : Addr) (k44b : ClassId), v = some (.ref b2) ∧ Fr n0 L ∧ Keep h0 h [b2] ∧ n0 ≤ b44a ∧ h0.size ≤ b44a ∧ Fld Z h b2 "java/lang/AbstractStringBuilder" "value" "[B" (.ref b44a) ∧ Fld Z h b2 "java/lang/AbstractStringBuilder" "coder" "B" (.int (0 : Int32)) ∧ Fld Z h b2 "java/lang/AbstractStringBuilder" "count" "I" (.int (17 : Int32)) ∧ Arv Z h b44a k44b .byte (34 : Int32) own_ls3 (.int (0 : Int32)) ∧ Exa Z h b44a "[B"
set_option maxRecDepth 65536 in
set_option maxHeartbeats 40000000 in
theorem rm8a4 (l : Launch) (Z : State) (a0 : Array Value) (hw : ∀ d ∈ tables_1, d.before a0 Z = true) (ws : List Jvm.Cond) (b2 : Addr) (a18 : Addr) (cs : Int32) (b15a : Addr) (k15b : ClassId) (b18 : Addr) (kc18 : ClassId) (h0 : Heap) (n0 : Nat) (Z0 : n0 ≤ h0.size) (PS0 : Sta Z h0 "java/lang/String" "COMPACT_STRINGS" "Z" (.int cs)) (PE9 : Exa Z h0 b2 "java/lang/StringBuilder") (PF10 : Fld Z h0 b2 "java/lang/AbstractStringBuilder" "value" "[B" (.ref b15a)) (PF11 : Fld Z h0 b2 "java/lang/AbstractStringBuilder" "coder" "B" (.int (0 : Int32))) (PF12 : Fld Z h0 b2 "java/lang/AbstractStringBuilder" "count" "I" (.int (0 : Int32))) (PV13 : Arv Z h0 b15a k15b .byte (16 : Int32) own_ls0 (.int (0 : Int32))) (PE15 : Exa Z h0 a18 "java/lang/String") (PF16 : Fld Z h0 a18 "java/lang/String" "coder" "B" (.int (0 : Int32))) (PF17 : Fld Z h0 a18 "java/lang/String" "value" "[B" (.ref b18)) (PV18 : Arv Z h0 b18 kc18 .byte (17 : Int32) own_ls1 (.int (0 : Int32))) (PP0 : ¬ (cs = (0 : Int32))) (ne_a18_b2 : a18 ≠ b2) (ne_b18_b2 : b18 ≠ b2) (n_b2 : n0 ≤ b2) :
    own_Met l mn15 jdk_68_method_22_code 3 (some (.object "java/lang/AbstractStringBuilder")) ws (oRm 4 1 34 62) #[(.ref b2), (.ref a18)] Z h0 (Q8a4 Z b2 a18 cs b15a k15b b18 kc18 h0 n0) := by
  refine own_met (own := "java/lang/AbstractStringBuilder") rfl (plainFor_of_name pn_3) ?_
  intro p e s m below meth c s₁ hx hby hml hZ hown hnm X0 e0 Br Bs
  have N0 := Fr.nil n0
  have tt := own_tt hx hby own_ok8
  rw [ef_rm8a4 m b2 a18]
  refine own_go (T' := s₁) (f' := (mkF m 10 #[oR b2, oR a18, oU] [vR a18])) (fun _ k => own_e X0 tt 0 3 k rfl) ?_
  obtain ⟨cq23, kq23, q23a, q23b, q23c⟩ := isOf hZ e0 PE15
  obtain ⟨_, T23, Lc23, X23, hQ23, st23⟩ := own_out (X0.virtualBack hx (y := mn7) (z := mn7) hown (mvT hZ (ow53 hw)) (mvT hZ (ow54 hw)) (notFace_of_selects (args := #[]) (mvT hZ (ow56 hw))) (mvT hZ (ow56 hw)) (mvT hZ (ow55 hw)) (by decide) (backOf (W := 0) (rm9a5 l Z a0 hw [] a18 cs b18 kc18 h0 n0 Z0 PS0 PE15 PF16 PF17 PV18 PP0) hZ (ow57 hw) (ow31 hw) (by decide) (by decide)) q23a q23c (g := (mkF m 10 #[oR b2, oR a18, oU] [vR a18])) rfl (by rw [hml]; rfl) (Steps.refl _) (argsL := []) (rest := []) (lenOf pd1 rfl) rfl (by show 2 * 0 + _ ≤ _; exact Nat.le_of_eq rfl) (hb hby d8_10) (fun _ _ => ⟨rfl, e0, (by decide : 0 + 0 ≤ _), (by decide : 0 + 0 ≤ _)⟩))
  obtain ⟨rfl, N23q, hh23⟩ := hQ23
  have N23 := Fr.app N0 N23q
  obtain ⟨_, X23, N23⟩ := own_hide X23 N23
  refine own_go (T' := T23) (f' := (mkF m 16 #[oR b2, oR a18, oI 17] [vR b2, vR b2])) (fun _ k => st23.trans (own_e X23 tt 13 3 k rfl)) ?_
  obtain ⟨T24, X24, e24, st24⟩ := getF X23 hx hZ hown (host := "") (Or.inl (ow66 hw)) Via.refl hh23 PF12 (g := (mkF m 16 #[oR b2, oR a18, oI 17] [vR b2, vR b2])) rfl rfl (hb hby d8_16)
  refine own_go (T' := T24) (f' := (mkF m 21 #[oR b2, oR a18, oI 17] [vI 17, vR b2])) (fun _ k => st24 _ (own_e X24 tt 19 2 k rfl)) ?_
  obtain ⟨cq44, q44, q44'⟩ := PE9.cell
  obtain ⟨_, T44, Lc44, X44, hQ44, st44⟩ := own_out (X24.privateBack hx (y := mn11) hown (mvT hZ (ow68 hw)) (mvT hZ (ow69 hw)) (own_selp (mvT hZ (ow71 hw)) (Cond.privateMethod_at (mvP hZ (ow70 hw) (args := #[]))) (mvT hZ (ow69 hw)) (by decide)) (Cond.privateMethod_at (mvP hZ (ow70 hw) (args := #[]))) (mvT hZ (ow72 hw)) (by decide) (backOf (W := 0) (rm11a7 l Z a0 hw [] b2 b15a k15b h0 n0 Z0 PE9 PF10 PF11 PF12 PV13 n_b2) hZ (ow72 hw) (ow25 hw) (by decide) (by decide)) (g := (mkF m 21 #[oR b2, oR a18, oI 17] [vI 17, vR b2])) rfl (by rw [hml]; rfl) (Steps.refl _) (a := b2) (by rw [e24]; exact q44) q44' (argsL := [(.int (17 : Int32))]) (rest := []) (lenOf pd11 rfl) rfl (by show 2 * 0 + _ ≤ _; exact Nat.le_of_eq rfl) (hb hby d8_21) (fun _ _ => ⟨rfl, e24, (by decide : 0 + 1 ≤ _), (by decide : 0 + 34 ≤ _)⟩))
  obtain ⟨b44a, k44b, rfl, N44q, K44, n_b44a, sg_b44a, g44_0, g44_1, g44_2, g44_3, g44_4⟩ := hQ44
  have N44 := Fr.app N23 N44q
  have sz_b44a : h0.size ≤ b44a := Nat.le_trans (Keep.refl h0 [b2]).1 sg_b44a
  have eK44 : T44.heap = T44.heap := rfl
  have KK44 : Keep h0 T44.heap [b2] := Keep.trans (Keep.refl h0 [b2]) K44 (allS (Or.inl (List.mem_of_getElem? (i := 0) rfl)) all0)
  obtain ⟨_, X44, N44⟩ := own_hide X44 N44
  refine own_go (T' := T44) (f' := (mkF m 26 #[oR b2, oR a18, oI 17] [vR b2, vR b2])) (fun _ k => st44.trans (own_e X44 tt 24 2 k rfl)) ?_
  obtain ⟨T45, X45, e45, st45⟩ := getF X44 hx hZ hown (host := "") (Or.inl (ow66 hw)) Via.refl eK44 g44_2 (g := (mkF m 26 #[oR b2, oR a18, oI 17] [vR b2, vR b2])) rfl rfl (hb hby d8_26)
  refine own_go (T' := T45) (f' := (mkF m 30 #[oR b2, oR a18, oI 17] [vR a18, vI 0, vR b2])) (fun _ k => st45 _ (own_e X45 tt 29 1 k rfl)) ?_
  obtain ⟨cq57, q57, q57'⟩ := (PE9.keep K44).cell
  obtain ⟨_, T57, Lc57, X57, hQ57, st57⟩ := own_out (X45.privateBack hx (y := mn14) hown (mvT hZ (ow94 hw)) (mvT hZ (ow95 hw)) (own_selp (mvT hZ (ow97 hw)) (Cond.privateMethod_at (mvP hZ (ow96 hw) (args := #[]))) (mvT hZ (ow95 hw)) (by decide)) (Cond.privateMethod_at (mvP hZ (ow96 hw) (args := #[]))) (mvT hZ (ow98 hw)) (by decide) (backOf (W := 0) (rm15a13 l Z a0 hw [] b2 a18 cs b44a b18 kc18 k44b T44.heap n0 (Nat.le_trans Z0 K44.1) (own_sta_keep PS0 K44 (own_wsE PE9 own_ws0)) (PE9.keep K44) g44_0 g44_1 (PE15.keep K44) (PF16.keep K44 (ninS ne_a18_b2 nin0)) (PF17.keep K44 (ninS ne_a18_b2 nin0)) (PV18.keep K44 (ninS ne_b18_b2 nin0)) g44_3 PP0 n_b44a) hZ (ow98 hw) (ow25 hw) (by decide) (by decide)) (g := (mkF m 30 #[oR b2, oR a18, oI 17] [vR a18, vI 0, vR b2])) rfl (by rw [hml]; rfl) (Steps.refl _) (a := b2) (by rw [e45]; exact q57) q57' (argsL := [(.int (0 : Int32)), (.ref a18)]) (rest := []) (lenOf pd18 rfl) rfl (by show 2 * 0 + _ ≤ _; exact Nat.le_of_eq rfl) (hb hby d8_30) (fun _ _ => ⟨rfl, e45, (by decide : 1 + 0 ≤ _), (by decide : 34 + 0 ≤ _)⟩))
  obtain ⟨rfl, N57q, K57, g57_0⟩ := hQ57
  have N57 := Fr.app N44 N57q
  have eK57 : T57.heap = T57.heap := rfl
  have KK57 : Keep h0 T57.heap [b2] := Keep.trans KK44 K57 (allS (Or.inr sz_b44a) all0)
  obtain ⟨_, X57, N57⟩ := own_hide X57 N57
  refine own_go (T' := T57) (f' := (mkF m 35 #[oR b2, oR a18, oI 17] [vR b2, vR b2])) (fun _ k => st57.trans (own_e X57 tt 33 2 k rfl)) ?_
  have q58 : b2 ≠ b44a := (Nat.ne_of_lt (Nat.lt_of_lt_of_le PE9.lt sz_b44a))
  obtain ⟨T59, X59, e59, st59⟩ := getF X57 hx hZ hown (host := "") (Or.inl (ow66 hw)) Via.refl eK57 (g44_2.keep K57 (ninS q58 nin0)) (g := (mkF m 35 #[oR b2, oR a18, oI 17] [vR b2, vR b2])) rfl rfl (hb hby d8_35)
  refine own_go (T' := T59) (f' := (mkF m 40 #[oR b2, oR a18, oI 17] [vI 17, vR b2])) (fun _ k => st59 _ (own_e X59 tt 38 2 k rfl)) ?_
  obtain ⟨T60, h60, X60, e60, W60, st60⟩ := putF X59 hx hZ hown (host := "") (Or.inl (ow66 hw)) Via.refl e59 (g44_2.keep K57 (ninS q58 nin0)) ((PE9.keep K44).keep K57) (Or.inl (ow67 hw)) (ow16 hw) (ty := .int) (by decide) rfl rfl (g := (mkF m 40 #[oR b2, oR a18, oI 17] [vI 17, vR b2])) rfl rfl (hb hby d8_40)
  have Fw60 := Fld.same W60 (g44_2.keep K57 (ninS q58 nin0))
  have K60 : Keep h0 h60 [b2] := KK57.wr W60 (Or.inl (List.mem_of_getElem? (i := 0) rfl))
  have N60 := Fr.snoc X60 N57 n_b2
  refine own_go (T' := T60) (f' := (mkF m 44 #[oR b2, oR a18, oI 17] [vR b2])) (fun _ k => st60 _ (own_e X60 tt 43 1 k rfl)) ?_
  refine own_ret X60 (v := some (.ref b2)) (fun h => by rw [Br] at h; cases h) Bs (fun fs hr => own_retA X60 hx Br rfl rfl (hb hby d8_44) hr) ?_ (by decide) (by decide)
  show Q8a4 Z b2 a18 cs b15a k15b b18 kc18 h0 n0 _ T60.heap _
  have G61 := ((g44_0.keep K57 (ninS q58 nin0)).other W60 (Or.inr (slot_ne (Or.inl (ow34 hw)) (Or.inl (ow67 hw)) (by decide) (t := (.array .byte)) (t' := .int) (by decide) (by decide))))
  have G62 := ((g44_1.keep K57 (ninS q58 nin0)).other W60 (Or.inr (slot_ne (Or.inl (ow36 hw)) (Or.inl (ow67 hw)) (by decide) (t := .byte) (t' := .int) (by decide) (by decide))))
  rw [e60]
  exact ⟨b44a, k44b, rfl, N60, K60, n_b44a, sz_b44a, G61, G62, Fw60, (g57_0.other W60 (Ne.symm q58)), ((g44_4.keep K57).wr W60)⟩
theorem pd22 : parseMethodDescriptor "(Ljava/lang/String;)Ljava/lang/AbstractStringBuilder;" = some ⟨[(.object "java/lang/String")], some (.object "java/lang/AbstractStringBuilder")⟩ := by decide +kernel
def own_t7 (pc : Nat) : Option (Instr × Nat) := bif Nat.ble pc 1 then (bif Nat.ble pc 0 then (bif Nat.beq pc 0 then some (.aload_n 0, 1) else none) else (bif Nat.beq pc 1 then some (.aload_n 1, 1) else none)) else (bif Nat.ble pc 5 then (bif Nat.beq pc 5 then some (.pop, 1) else none) else (bif Nat.beq pc 6 then some (.aload_n 0, 1) else none))
theorem own_ok7 : ∀ pc q, own_fetch 8 own_t7 pc = some q → decode jdk_67_method_7_code pc = .ok q := own_tab (by decide +kernel)
theorem d7_2 : decode jdk_67_method_7_code 2 = .ok (.invokespecial 29, 3) := by decide +kernel
theorem d7_7 : decode jdk_67_method_7_code 7 = .ok (.areturn, 1) := by decide +kernel
theorem ef_rm7a3 (m : MethodId) (b2 : Addr) (a18 : Addr) : entryFrame m #[(.ref b2), (.ref a18)] 2 = mkF m 0 #[.val (.ref b2), .val (.ref a18)] [] := by first | (simp [entryFrame, mkF, argsToLocals, Value.category]; done) | rfl
def Q7a3 (Z : State) (b2 : Addr) (a18 : Addr) (cs : Int32) (b15a : Addr) (k15b : ClassId) (b18 : Addr) (kc18 : ClassId) (h0 : Heap) (n0 : Nat) (v : Option Value) (h : Heap) (L : List Loc) : Prop := ∃ (b63a : Addr) (k63b : ClassId), v = some (.ref b2) ∧ Fr n0 L ∧ Keep h0 h [b2] ∧ n0 ≤ b63a ∧ h0.size ≤ b63a ∧ Fld Z h b2 "java/lang/AbstractStringBuilder" "value" "[B" (.ref b63a) ∧ Fld Z h b2 "java/lang/AbstractStringBuilder" "coder" "B" (.int (0 : Int32)) ∧ Fld Z h b2 "java/lang/AbstractStringBuilder" "count" "I" (.int (17 : Int32)) ∧ Arv Z h b63a k63b .byte (34 : Int32) own_ls3 (.int (0 : Int32)) ∧ Exa Z h b63a "[B"
set_option maxRecDepth 65536 in
set_option maxHeartbeats 40000000 in
theorem rm7a3 (l : Launch) (Z : State) (a0 : Array Value) (hw : ∀ d ∈ tables_1, d.before a0 Z = true) (ws : List Jvm.Cond) (b2 : Addr) (a18 : Addr) (cs : Int32) (b15a : Addr) (k15b : ClassId) (b18 : Addr) (kc18 : ClassId) (h0 : Heap) (n0 : Nat) (Z0 : n0 ≤ h0.size) (PS0 : Sta Z h0 "java/lang/String" "COMPACT_STRINGS" "Z" (.int cs)) (PE9 : Exa Z h0 b2 "java/lang/StringBuilder") (PF10 : Fld Z h0 b2 "java/lang/AbstractStringBuilder" "value" "[B" (.ref b15a)) (PF11 : Fld Z h0 b2 "java/lang/AbstractStringBuilder" "coder" "B" (.int (0 : Int32))) (PF12 : Fld Z h0 b2 "java/lang/AbstractStringBuilder" "count" "I" (.int (0 : Int32))) (PV13 : Arv Z h0 b15a k15b .byte (16 : Int32) own_ls0 (.int (0 : Int32))) (PE15 : Exa Z h0 a18 "java/lang/String") (PF16 : Fld Z h0 a18 "java/lang/String" "coder" "B" (.int (0 : Int32))) (PF17 : Fld Z h0 a18 "java/lang/String" "value" "[B" (.ref b18)) (PV18 : Arv Z h0 b18 kc18 .byte (17 : Int32) own_ls1 (.int (0 : Int32))) (PP0 : ¬ (cs = (0 : Int32))) (ne_a18_b2 : a18 ≠ b2) (ne_b18_b2 : b18 ≠ b2) (n_b2 : n0 ≤ b2) :
    own_Met l mn16 jdk_67_method_7_code 2 (some (.object "java/lang/StringBuilder")) ws (oRm 5 1 34 76) #[(.ref b2), (.ref a18)] Z h0 (Q7a3 Z b2 a18 cs b15a k15b b18 kc18 h0 n0) := by
  refine own_met (own := "java/lang/StringBuilder") rfl (plainFor_of_name pn_8) ?_
  intro p e s m below meth c s₁ hx hby hml hZ hown hnm X0 e0 Br Bs
  have N0 := Fr.nil n0
  have tt := own_tt hx hby own_ok7
  rw [ef_rm7a3 m b2 a18]
  refine own_go (T' := s₁) (f' := (mkF m 2 #[oR b2, oR a18] [vR a18, vR b2])) (fun _ k => own_e X0 tt 0 2 k rfl) ?_
  obtain ⟨_, T63, Lc63, X63, hQ63, st63⟩ := own_out (superBack X0 hx hZ (y := mn15) hown (ow48 hw) (own_same (y := mn15) (y2 := mn11) (ow71 hw) rfl (ow49 hw) (by decide)) (ow49 hw) (ow50 hw) (by decide) (backOf (W := 0) (rm8a4 l Z a0 hw [] b2 a18 cs b15a k15b b18 kc18 h0 n0 Z0 PS0 PE9 PF10 PF11 PF12 PV13 PE15 PF16 PF17 PV18 PP0 ne_a18_b2 ne_b18_b2 n_b2) hZ (ow52 hw) (ow25 hw) (by decide) (by decide)) e0 (Ins.self PE9) (g := (mkF m 2 #[oR b2, oR a18] [vR a18, vR b2])) rfl (by rw [hml]; rfl) (ow52 hw) (argsL := [(.ref a18)]) (rest := []) (lenOf pd22 rfl) rfl (by show 2 * 0 + _ ≤ _; exact Nat.le_of_eq rfl) (hb hby d7_2) (fun _ _ => ⟨rfl, e0, (by decide : 0 + 1 ≤ _), (by decide : 0 + 34 ≤ _)⟩))
  obtain ⟨b63a, k63b, rfl, N63q, K63, n_b63a, sg_b63a, g63_0, g63_1, g63_2, g63_3, g63_4⟩ := hQ63
  have N63 := Fr.app N0 N63q
  have sz_b63a : h0.size ≤ b63a := Nat.le_trans (Keep.refl h0 [b2]).1 sg_b63a
  have eK63 : T63.heap = T63.heap := rfl
  have KK63 : Keep h0 T63.heap [b2] := Keep.trans (Keep.refl h0 [b2]) K63 (allS (Or.inl (List.mem_of_getElem? (i := 0) rfl)) all0)
  obtain ⟨_, X63, N63⟩ := own_hide X63 N63
  refine own_go (T' := T63) (f' := (mkF m 7 #[oR b2, oR a18] [vR b2])) (fun _ k => st63.trans (own_e X63 tt 5 2 k rfl)) ?_
  refine own_ret X63 (v := some (.ref b2)) (fun h => by rw [Br] at h; cases h) Bs (fun fs hr => own_retA X63 hx Br rfl rfl (hb hby d7_7) hr) ?_ (by decide) (by decide)
  show Q7a3 Z b2 a18 cs b15a k15b b18 kc18 h0 n0 _ T63.heap _
  rw [eK63]
  exact ⟨b63a, k63b, rfl, N63, KK63, n_b63a, sz_b63a, g63_0, g63_1, g63_2, g63_3, g63_4⟩
theorem pd23 : parseMethodDescriptor "(Ljava/lang/String;)Ljava/lang/StringBuilder;" = some ⟨[(.object "java/lang/String")], some (.object "java/lang/StringBuilder")⟩ := by decide +kernel
theorem d11_14 : decode jdk_68_method_9_code 14 = .ok (.ifCond .le 24, 3) := by decide +kernel
theorem ef_rm11a21 (m : MethodId) (b2 : Addr) (i85 : Int32) : entryFrame m #[(.ref b2), (.int i85)] 3 = mkF m 0 #[.val (.ref b2), .val (.int i85), .unset] [] := by first | (simp [entryFrame, mkF, argsToLocals, Value.category]; done) | rfl
def Q11a21 (Z : State) (b2 : Addr) (i85 : Int32) (b66a : Addr) (k66b : ClassId) (h0 : Heap) (n0 : Nat) (v : Option Value) (h : Heap) (L : List Loc) : Prop := v = none ∧ Fr n0 L ∧ h = h0
set_option maxRecDepth 65536 in
set_option maxHeartbeats 40000000 in
theorem rm11a21 (l : Launch) (Z : State) (a0 : Array Value) (hw : ∀ d ∈ tables_1, d.before a0 Z = true) (ws : List Jvm.Cond) (b2 : Addr) (i85 : Int32) (b66a : Addr) (k66b : ClassId) (h0 : Heap) (n0 : Nat) (Z0 : n0 ≤ h0.size) (PF10 : Fld Z h0 b2 "java/lang/AbstractStringBuilder" "value" "[B" (.ref b66a)) (PF11 : Fld Z h0 b2 "java/lang/AbstractStringBuilder" "coder" "B" (.int (0 : Int32))) (PV19 : Arv Z h0 b66a k66b .byte (34 : Int32) own_ls3 (.int (0 : Int32))) (PP1 : ¬ ((0 : Int32) < (i85 - (34 : Int32)))) :
    own_Met l mn11 jdk_68_method_9_code 3 none ws (oRm 0 0 0 0) #[(.ref b2), (.int i85)] Z h0 (Q11a21 Z b2 i85 b66a k66b h0 n0) := by
  refine own_met (own := "java/lang/AbstractStringBuilder") rfl (plainFor_of_name pn_3) ?_
  intro p e s m below meth c s₁ hx hby hml hZ hown hnm X0 e0 Br Bs
  have N0 := Fr.nil n0
  have tt := own_tt hx hby own_ok11
  rw [ef_rm11a21 m b2 i85]
  refine own_go (T' := s₁) (f' := (mkF m 1 #[oR b2, .val (.int i85), oU] [vR b2])) (fun _ k => own_e X0 tt 0 1 k rfl) ?_
  obtain ⟨T86, X86, e86, st86⟩ := getF X0 hx hZ hown (host := "") (Or.inl (ow33 hw)) Via.refl e0 PF10 (g := (mkF m 1 #[oR b2, .val (.int i85), oU] [vR b2])) rfl rfl (hb hby d11_1)
  refine own_go (T' := T86) (f' := (mkF m 6 #[oR b2, .val (.int i85), oU] [vR b2, vI 34])) (fun _ k => st86 _ (own_alen X86 hx hZ e86 PV19 rfl rfl (hb hby d11_4) (own_e X86 tt 5 1 k rfl))) ?_
  obtain ⟨T87, X87, e87, st87⟩ := getF X86 hx hZ hown (host := "") (Or.inl (ow35 hw)) Via.refl e86 PF11 (g := (mkF m 6 #[oR b2, .val (.int i85), oU] [vR b2, vI 34])) rfl rfl (hb hby d11_6)
  refine own_go (T' := T87) (f' := (mkF m 38 #[oR b2, .val (.int i85), oI 34] [])) (fun _ k => st87 _ (own_r X87 tt 9 5 rfl (XS.ifYes X87.here hx rfl (pc0 := 14) (pc' := 38) rfl (hb hby d11_14) rfl ((if0 _ _).trans (flt PP1).2.2.2) (by decide) (by decide) k))) ?_
  refine own_ret X87 (v := none) (fun _ => rfl) Bs (fun fs hr => X87.returnOut hx Br (hb hby d11_38) hr) ?_ (by decide) (by decide)
  show Q11a21 Z b2 i85 b66a k66b h0 n0 _ T87.heap _
  exact ⟨rfl, N0, e87⟩
def own_t21 (pc : Nat) : Option (Instr × Nat) := bif Nat.ble pc 6 then (bif Nat.ble pc 3 then (bif Nat.beq pc 3 then some (.ifCond .eq 14, 3) else none) else (bif Nat.beq pc 6 then some (.aload_n 0, 1) else none)) else (bif Nat.ble pc 10 then (bif Nat.beq pc 10 then some (.ifCond .ne 7, 3) else none) else (bif Nat.ble pc 13 then (bif Nat.beq pc 13 then some (.iconst 1, 1) else none) else (bif Nat.beq pc 14 then some (.goto 4, 3) else none)))
theorem own_ok21 : ∀ pc q, own_fetch 19 own_t21 pc = some q → decode jdk_68_method_68_code pc = .ok q := own_tab (by decide +kernel)
theorem d21_0 : decode jdk_68_method_68_code 0 = .ok (.getstatic 18, 3) := by decide +kernel
theorem d21_3 : decode jdk_68_method_68_code 3 = .ok (.ifCond .eq 14, 3) := by decide +kernel
theorem d21_7 : decode jdk_68_method_68_code 7 = .ok (.getfield 22, 3) := by decide +kernel
theorem d21_18 : decode jdk_68_method_68_code 18 = .ok (.ireturn, 1) := by decide +kernel
theorem ef_rm21a22 (m : MethodId) (b2 : Addr) : entryFrame m #[(.ref b2)] 1 = mkF m 0 #[.val (.ref b2)] [] := by first | (simp [entryFrame, mkF, argsToLocals, Value.category]; done) | rfl
def Q21a22 (Z : State) (b2 : Addr) (cs : Int32) (h0 : Heap) (n0 : Nat) (v : Option Value) (h : Heap) (L : List Loc) : Prop := v = some (.int (1 : Int32)) ∧ Fr n0 L ∧ h = h0
set_option maxRecDepth 65536 in
set_option maxHeartbeats 40000000 in
theorem rm21a22 (l : Launch) (Z : State) (a0 : Array Value) (hw : ∀ d ∈ tables_1, d.before a0 Z = true) (ws : List Jvm.Cond) (b2 : Addr) (cs : Int32) (h0 : Heap) (n0 : Nat) (Z0 : n0 ≤ h0.size) (PS0 : Sta Z h0 "java/lang/String" "COMPACT_STRINGS" "Z" (.int cs)) (PF11 : Fld Z h0 b2 "java/lang/AbstractStringBuilder" "coder" "B" (.int (0 : Int32))) (PP0 : ¬ (cs = (0 : Int32))) :
    own_Met l mn17 jdk_68_method_68_code 1 (some .boolean) ws (oRm 0 0 0 0) #[(.ref b2)] Z h0 (Q21a22 Z b2 cs h0 n0) := by
  refine own_met (own := "java/lang/AbstractStringBuilder") rfl (plainFor_of_name pn_3) ?_
  intro p e s m below meth c s₁ hx hby hml hZ hown hnm X0 e0 Br Bs
  have N0 := Fr.nil n0
  have tt := own_tt hx hby own_ok21
  rw [ef_rm21a22 m b2]
  obtain ⟨T89, X89, e89, st89⟩ := getS2 X0 hx hZ hown (host := "") (Or.inl (ow30 hw)) Via.refl e0 PS0 (g := (mkF m 0 #[oR b2] [])) rfl (hb hby d21_0)
  refine own_go (T' := T89) (f' := (mkF m 7 #[oR b2] [vR b2])) (fun _ k => st89 _ (XS.ifNo X89.here hx rfl (hb hby d21_3) rfl ((if0 _ _).trans (feq PP0).1) (own_e X89 tt 6 1 k rfl))) ?_
  obtain ⟨T90, X90, e90, st90⟩ := getF X89 hx hZ hown (host := "") (Or.inl (ow35 hw)) Via.refl e89 PF11 (g := (mkF m 7 #[oR b2] [vR b2])) rfl rfl (hb hby d21_7)
  refine own_go (T' := T90) (f' := (mkF m 18 #[oR b2] [vI 1])) (fun _ k => st90 _ (own_e X90 tt 10 3 k rfl)) ?_
  refine own_ret X90 (v := some (.int (1 : Int32))) (fun h => by rw [Br] at h; cases h) Bs (fun fs hr => retN X90 hx (t := .boolean) Br (by simp) (hb hby d21_18) hr) ?_ (by decide) (by decide)
  show Q21a22 Z b2 cs h0 n0 _ T90.heap _
  exact ⟨rfl, N0, e90⟩
theorem pd6 : parseMethodDescriptor "()Z" = some ⟨[], some .boolean⟩ := by decide +kernel
theorem pd16 : parseMethodDescriptor "(II[B)I" = some ⟨[.int, .int, (.array .byte)], some .int⟩ := by decide +kernel
def own_t19 (pc : Nat) : Option (Instr × Nat) := bif Nat.ble pc 17 then (bif Nat.ble pc 6 then (bif Nat.ble pc 4 then (bif Nat.ble pc 0 then (bif Nat.beq pc 0 then some (.aload_n 0, 1) else none) else (bif Nat.beq pc 4 then some (.istore_n 2, 1) else none)) else (bif Nat.ble pc 5 then (bif Nat.beq pc 5 then some (.iload_n 2, 1) else none) else (bif Nat.beq pc 6 then some (.iload_n 1, 1) else none))) else (bif Nat.ble pc 11 then (bif Nat.ble pc 10 then (bif Nat.beq pc 10 then some (.iadd, 1) else none) else (bif Nat.beq pc 11 then some (.istore_n 3, 1) else none)) else (bif Nat.ble pc 12 then (bif Nat.beq pc 12 then some (.aload_n 0, 1) else none) else (bif Nat.ble pc 13 then (bif Nat.beq pc 13 then some (.iload_n 3, 1) else none) else (bif Nat.beq pc 17 then some (.aload_n 0, 1) else none))))) else (bif Nat.ble pc 26 then (bif Nat.ble pc 24 then (bif Nat.ble pc 21 then (bif Nat.beq pc 21 then some (.ifCond .eq 16, 3) else none) else (bif Nat.beq pc 24 then some (.iload_n 1, 1) else none)) else (bif Nat.ble pc 25 then (bif Nat.beq pc 25 then some (.iload_n 3, 1) else none) else (bif Nat.beq pc 26 then some (.aload_n 0, 1) else none))) else (bif Nat.ble pc 34 then (bif Nat.ble pc 33 then (bif Nat.beq pc 33 then some (.pop, 1) else none) else (bif Nat.beq pc 34 then some (.goto 14, 3) else none)) else (bif Nat.ble pc 48 then (bif Nat.beq pc 48 then some (.aload_n 0, 1) else none) else (bif Nat.ble pc 49 then (bif Nat.beq pc 49 then some (.iload_n 3, 1) else none) else (bif Nat.beq pc 53 then some (.aload_n 0, 1) else none)))))
theorem own_ok19 : ∀ pc q, own_fetch 55 own_t19 pc = some q → decode jdk_68_method_32_code pc = .ok q := own_tab (by decide +kernel)
theorem d19_1 : decode jdk_68_method_32_code 1 = .ok (.getfield 79, 3) := by decide +kernel
theorem d19_7 : decode jdk_68_method_32_code 7 = .ok (.invokestatic 245, 3) := by decide +kernel
theorem d19_14 : decode jdk_68_method_32_code 14 = .ok (.invokevirtual 100, 3) := by decide +kernel
theorem d19_18 : decode jdk_68_method_32_code 18 = .ok (.invokevirtual 83, 3) := by decide +kernel
theorem d19_27 : decode jdk_68_method_32_code 27 = .ok (.getfield 15, 3) := by decide +kernel
theorem d19_30 : decode jdk_68_method_32_code 30 = .ok (.invokestatic 248, 3) := by decide +kernel
theorem d19_50 : decode jdk_68_method_32_code 50 = .ok (.putfield 79, 3) := by decide +kernel
theorem d19_54 : decode jdk_68_method_32_code 54 = .ok (.areturn, 1) := by decide +kernel
theorem ef_rm19a26 (m : MethodId) (b2 : Addr) (y0 : Int32) : entryFrame m #[(.ref b2), (.int y0)] 4 = mkF m 0 #[.val (.ref b2), .val (.int y0), .unset, .unset] [] := by first | (simp [entryFrame, mkF, argsToLocals, Value.category]; done) | rfl
def Q19a26 (Z : State) (b2 : Addr) (y0 : Int32) (cs : Int32) (wd : Addr) (kd : ClassId) (vd : List Value) (wt : Addr) (kt : ClassId) (vt : List Value) (b66a : Addr) (k66b : ClassId) (h0 : Heap) (n0 : Nat) (v : Option Value) (h : Heap) (L : List Loc) : Prop := ∃ (us109 : List Value), v = some (.ref b2) ∧ Fr n0 L ∧ Keep h0 h [b66a, b2] ∧ Arv Z h b66a k66b .byte (34 : Int32) us109 (.int (0 : Int32)) ∧ Fld Z h b2 "java/lang/AbstractStringBuilder" "value" "[B" (.ref b66a) ∧ Fld Z h b2 "java/lang/AbstractStringBuilder" "coder" "B" (.int (0 : Int32)) ∧ Fld Z h b2 "java/lang/AbstractStringBuilder" "count" "I" (.int ((17 : Int32) + (own_dg y0))) ∧ us109.length = ((34 : Int32)).toNatClampNeg
set_option maxRecDepth 65536 in
set_option maxHeartbeats 40000000 in
theorem rm19a26 (l : Launch) (Z : State) (a0 : Array Value) (hw : ∀ d ∈ tables_1, d.before a0 Z = true) (ws : List Jvm.Cond) (b2 : Addr) (y0 : Int32) (cs : Int32) (wd : Addr) (kd : ClassId) (vd : List Value) (wt : Addr) (kt : ClassId) (vt : List Value) (b66a : Addr) (k66b : ClassId) (h0 : Heap) (n0 : Nat) (Z0 : n0 ≤ h0.size) (PS0 : Sta Z h0 "java/lang/String" "COMPACT_STRINGS" "Z" (.int cs)) (PS1 : Sta Z h0 "java/lang/Integer" "DigitOnes" "[B" (.ref wd)) (PV2 : Arv Z h0 wd kd .byte (100 : Int32) vd (.int (0 : Int32))) (PS3 : Sta Z h0 "java/lang/Integer" "DigitTens" "[B" (.ref wt)) (PV4 : Arv Z h0 wt kt .byte (100 : Int32) vt (.int (0 : Int32))) (PE9 : Exa Z h0 b2 "java/lang/StringBuilder") (PF10 : Fld Z h0 b2 "java/lang/AbstractStringBuilder" "value" "[B" (.ref b66a)) (PF11 : Fld Z h0 b2 "java/lang/AbstractStringBuilder" "coder" "B" (.int (0 : Int32))) (PF12 : Fld Z h0 b2 "java/lang/AbstractStringBuilder" "count" "I" (.int (17 : Int32))) (PV19 : Arv Z h0 b66a k66b .byte (34 : Int32) own_ls3 (.int (0 : Int32))) (PP0 : ¬ (cs = (0 : Int32))) (PP1 : ¬ (y0 < (0 : Int32))) (PP2 : ¬ ((0 : Int32) < (((17 : Int32) + (own_dg y0)) - (34 : Int32)))) (PP3 : ¬ (((17 : Int32) + (own_dg y0)) < (own_dg y0))) (PP4 : ¬ ((34 : Int32) < ((17 : Int32) + (own_dg y0)))) (ne_b66a_wd : b66a ≠ wd) (ne_b66a_wt : b66a ≠ wt) (ne_b2_b66a : b2 ≠ b66a) (ne_b66a_b2 : b66a ≠ b2) (n_b2 : n0 ≤ b2) (n_b66a : n0 ≤ b66a) (pr_st_vd : own_SameSt Z) :
    own_Met l mn19 jdk_68_method_32_code 4 (some (.object "java/lang/AbstractStringBuilder")) ws (oRm 2 0 0 78) #[(.ref b2), (.int y0)] Z h0 (Q19a26 Z b2 y0 cs wd kd vd wt kt vt b66a k66b h0 n0) := by
  refine own_met (own := "java/lang/AbstractStringBuilder") rfl (plainFor_of_name pn_3) ?_
  intro p e s m below meth c s₁ hx hby hml hZ hown hnm X0 e0 Br Bs
  have N0 := Fr.nil n0
  have tt := own_tt hx hby own_ok19
  rw [ef_rm19a26 m b2 y0]
  refine own_go (T' := s₁) (f' := (mkF m 1 #[oR b2, .val (.int y0), oU, oU] [vR b2])) (fun _ k => own_e X0 tt 0 1 k rfl) ?_
  obtain ⟨T104, X104, e104, st104⟩ := getF X0 hx hZ hown (host := "") (Or.inl (ow66 hw)) Via.refl e0 PF12 (g := (mkF m 1 #[oR b2, .val (.int y0), oU, oU] [vR b2])) rfl rfl (hb hby d19_1)
  refine own_go (T' := T104) (f' := (mkF m 7 #[oR b2, .val (.int y0), oI 17, oU] [(.int y0), vI 17])) (fun _ k => st104 _ (own_e X104 tt 4 3 k rfl)) ?_
  obtain ⟨_, T105, Lc105, X105, hQ105, st105⟩ := own_outC (Jvm.LawKit.callS X104 hx (y := mn3) hown (mvT hZ (ow120 hw)) (mvT hZ (ow121 hw)) (mvT hZ (ow122 hw)) (mvT hZ (ow123 hw)) (by decide) (backOf (W := 1) (rm20 l Z a0 hw [] y0 h0 n0 Z0 PP1) hZ (ow123 hw) (ow122 hw) (by decide) (by decide)) (g := (mkF m 7 #[oR b2, .val (.int y0), oI 17, oU] [(.int y0), vI 17])) rfl (by rw [hml]; rfl) (argsL := [(.int y0)]) (rest := [(.int (17 : Int32))]) (lenOf pd8 rfl) rfl (by show 2 * 0 + _ ≤ _; exact Nat.le_of_eq rfl) (hb hby d19_7) (fun _ _ => ⟨rfl, e104, (by decide : 0 + 0 ≤ _), (by decide : 0 + 0 ≤ _)⟩))
  obtain ⟨rfl, N105q, hh105⟩ := hQ105
  have N105 := Fr.app N0 N105q
  obtain ⟨_, X105, N105⟩ := own_hide X105 N105
  refine own_go (T' := T105) (f' := (mkF m 14 #[oR b2, .val (.int y0), oI 17, .val (.int ((17 : Int32) + (own_dg y0)))] [(.int ((17 : Int32) + (own_dg y0))), vR b2])) (fun _ k => st105 _ (own_e X105 tt 10 4 k rfl)) ?_
  obtain ⟨cq106, q106, q106'⟩ := PE9.cell
  obtain ⟨_, T106, Lc106, X106, hQ106, st106⟩ := own_out (X105.privateBack hx (y := mn11) hown (mvT hZ (ow68 hw)) (mvT hZ (ow69 hw)) (own_selp (mvT hZ (ow71 hw)) (Cond.privateMethod_at (mvP hZ (ow70 hw) (args := #[]))) (mvT hZ (ow69 hw)) (by decide)) (Cond.privateMethod_at (mvP hZ (ow70 hw) (args := #[]))) (mvT hZ (ow72 hw)) (by decide) (backOf (W := 0) (rm11a21 l Z a0 hw [] b2 ((17 : Int32) + (own_dg y0)) b66a k66b h0 n0 Z0 PF10 PF11 PV19 PP2) hZ (ow72 hw) (ow25 hw) (by decide) (by decide)) (g := (mkF m 14 #[oR b2, .val (.int y0), oI 17, .val (.int ((17 : Int32) + (own_dg y0)))] [(.int ((17 : Int32) + (own_dg y0))), vR b2])) rfl (by rw [hml]; rfl) (Steps.refl _) (a := b2) (by rw [hh105]; exact q106) q106' (argsL := [(.int ((17 : Int32) + (own_dg y0)))]) (rest := []) (lenOf pd11 rfl) rfl (by show 2 * 0 + _ ≤ _; exact Nat.le_of_eq rfl) (hb hby d19_14) (fun _ _ => ⟨rfl, hh105, (by decide : 0 + 0 ≤ _), (by decide : 0 + 0 ≤ _)⟩))
  obtain ⟨rfl, N106q, hh106⟩ := hQ106
  have N106 := Fr.app N105 N106q
  obtain ⟨_, X106, N106⟩ := own_hide X106 N106
  refine own_go (T' := T106) (f' := (mkF m 18 #[oR b2, .val (.int y0), oI 17, .val (.int ((17 : Int32) + (own_dg y0)))] [vR b2])) (fun _ k => st106.trans (own_e X106 tt 17 1 k rfl)) ?_
  obtain ⟨cq107, kq107, q107a, q107b, q107c⟩ := isOf hZ hh106 PE9
  obtain ⟨_, T107, Lc107, X107, hQ107, st107⟩ := own_out (X106.virtualBack hx (y := mn17) (z := mn17) hown (mvT hZ (ow124 hw)) (mvT hZ (ow125 hw)) (notFace_of_selects (args := #[]) (mvT hZ (ow127 hw))) (mvT hZ (ow127 hw)) (mvT hZ (ow126 hw)) (by decide) (backOf (W := 0) (rm21a22 l Z a0 hw [] b2 cs h0 n0 Z0 PS0 PF11 PP0) hZ (ow128 hw) (ow25 hw) (by decide) (by decide)) q107a q107c (g := (mkF m 18 #[oR b2, .val (.int y0), oI 17, .val (.int ((17 : Int32) + (own_dg y0)))] [vR b2])) rfl (by rw [hml]; rfl) (Steps.refl _) (argsL := []) (rest := []) (lenOf pd6 rfl) rfl (by show 2 * 0 + _ ≤ _; exact Nat.le_of_eq rfl) (hb hby d19_18) (fun _ _ => ⟨rfl, hh106, (by decide : 0 + 0 ≤ _), (by decide : 0 + 0 ≤ _)⟩))
  obtain ⟨rfl, N107q, hh107⟩ := hQ107
  have N107 := Fr.app N106 N107q
  obtain ⟨_, X107, N107⟩ := own_hide X107 N107
  refine own_go (T' := T107) (f' := (mkF m 27 #[oR b2, .val (.int y0), oI 17, .val (.int ((17 : Int32) + (own_dg y0)))] [vR b2, (.int ((17 : Int32) + (own_dg y0))), (.int y0)])) (fun _ k => st107.trans (own_e X107 tt 21 4 k rfl)) ?_
  obtain ⟨T108, X108, e108, st108⟩ := getF X107 hx hZ hown (host := "") (Or.inl (ow33 hw)) Via.refl hh107 PF10 (g := (mkF m 27 #[oR b2, .val (.int y0), oI 17, .val (.int ((17 : Int32) + (own_dg y0)))] [vR b2, (.int ((17 : Int32) + (own_dg y0))), (.int y0)])) rfl rfl (hb hby d19_27)
  refine own_go (T' := T108) (f' := (mkF m 30 #[oR b2, .val (.int y0), oI 17, .val (.int ((17 : Int32) + (own_dg y0)))] [vR b66a, (.int ((17 : Int32) + (own_dg y0))), (.int y0)])) (fun _ k => st108 _ k) ?_
  obtain ⟨_, T109, Lc109, X109, hQ109, st109⟩ := own_outC (Jvm.LawKit.callS X108 hx (y := mn18) hown (mvT hZ (ow129 hw)) (mvT hZ (ow130 hw)) (mvT hZ (ow122 hw)) (mvT hZ (ow131 hw)) (by decide) (own_gcBack hZ hw (W := 0) (n0 := n0) PV19 PS1 PV2 PS3 PV4 ne_b66a_wd ne_b66a_wt pr_st_vd PP1 PP3 PP4 n_b66a (by decide) (by decide)) (g := (mkF m 30 #[oR b2, .val (.int y0), oI 17, .val (.int ((17 : Int32) + (own_dg y0)))] [vR b66a, (.int ((17 : Int32) + (own_dg y0))), (.int y0)])) rfl (by rw [hml]; rfl) (argsL := [(.int y0), (.int ((17 : Int32) + (own_dg y0))), (.ref b66a)]) (rest := []) (lenOf pd16 rfl) rfl (by show 2 * 0 + _ ≤ _; exact Nat.le_of_eq rfl) (hb hby d19_30) (fun _ _ => ⟨rfl, e108, (by decide : 0 + 0 ≤ _), (by decide : 0 + 0 ≤ _)⟩))
  obtain ⟨r109, us109, rfl, N109q, K109, hl109, V109⟩ := hQ109
  have N109 := Fr.app N107 N109q
  have eK109 : T109.heap = T109.heap := rfl
  have KK109 : Keep h0 T109.heap [b66a, b2] := Keep.trans (Keep.refl h0 [b66a, b2]) K109 (allS (Or.inl (List.mem_of_getElem? (i := 0) rfl)) all0)
  obtain ⟨_, X109, N109⟩ := own_hide X109 N109
  refine own_go (T' := T109) (f' := (mkF m 50 #[oR b2, .val (.int y0), oI 17, .val (.int ((17 : Int32) + (own_dg y0)))] [(.int ((17 : Int32) + (own_dg y0))), vR b2])) (fun _ k => st109 _ (own_e X109 tt 33 4 k rfl)) ?_
  obtain ⟨T110, h110, X110, e110, W110, st110⟩ := putF X109 hx hZ hown (host := "") (Or.inl (ow66 hw)) Via.refl eK109 (PF12.keep K109 (ninS ne_b2_b66a nin0)) (PE9.keep K109) (Or.inl (ow67 hw)) (ow16 hw) (ty := .int) (by decide) rfl rfl (g := (mkF m 50 #[oR b2, .val (.int y0), oI 17, .val (.int ((17 : Int32) + (own_dg y0)))] [(.int ((17 : Int32) + (own_dg y0))), vR b2])) rfl rfl (hb hby d19_50)
  have Fw110 := Fld.same W110 (PF12.keep K109 (ninS ne_b2_b66a nin0))
  have K110 : Keep h0 h110 [b66a, b2] := KK109.wr W110 (Or.inl (List.mem_of_getElem? (i := 1) rfl))
  have N110 := Fr.snoc X110 N109 n_b2
  refine own_go (T' := T110) (f' := (mkF m 54 #[oR b2, .val (.int y0), oI 17, .val (.int ((17 : Int32) + (own_dg y0)))] [vR b2])) (fun _ k => st110 _ (own_e X110 tt 53 1 k rfl)) ?_
  refine own_ret X110 (v := some (.ref b2)) (fun h => by rw [Br] at h; cases h) Bs (fun fs hr => own_retA X110 hx Br rfl rfl (hb hby d19_54) hr) ?_ (by decide) (by decide)
  show Q19a26 Z b2 y0 cs wd kd vd wt kt vt b66a k66b h0 n0 _ T110.heap _
  have G111 := ((PF10.keep K109 (ninS ne_b2_b66a nin0)).other W110 (Or.inr (slot_ne (Or.inl (ow34 hw)) (Or.inl (ow67 hw)) (by decide) (t := (.array .byte)) (t' := .int) (by decide) (by decide))))
  have G112 := ((PF11.keep K109 (ninS ne_b2_b66a nin0)).other W110 (Or.inr (slot_ne (Or.inl (ow36 hw)) (Or.inl (ow67 hw)) (by decide) (t := .byte) (t' := .int) (by decide) (by decide))))
  rw [e110]
  exact ⟨us109, rfl, N110, K110, (V109.other W110 ne_b66a_b2), G111, G112, Fw110, hl109⟩
theorem pd9 : parseMethodDescriptor "(I)Ljava/lang/AbstractStringBuilder;" = some ⟨[.int], some (.object "java/lang/AbstractStringBuilder")⟩ := by decide +kernel
def own_t18 (pc : Nat) : Option (Instr × Nat) := bif Nat.ble pc 1 then (bif Nat.ble pc 0 then (bif Nat.beq pc 0 then some (.aload_n 0, 1) else none) else (bif Nat.beq pc 1 then some (.iload_n 1, 1) else none)) else (bif Nat.ble pc 5 then (bif Nat.beq pc 5 then some (.pop, 1) else none) else (bif Nat.beq pc 6 then some (.aload_n 0, 1) else none))
theorem own_ok18 : ∀ pc q, own_fetch 8 own_t18 pc = some q → decode jdk_67_method_15_code pc = .ok q := own_tab (by decide +kernel)
theorem d18_2 : decode jdk_67_method_15_code 2 = .ok (.invokespecial 53, 3) := by decide +kernel
theorem d18_7 : decode jdk_67_method_15_code 7 = .ok (.areturn, 1) := by decide +kernel
theorem ef_rm18a25 (m : MethodId) (b2 : Addr) (y0 : Int32) : entryFrame m #[(.ref b2), (.int y0)] 2 = mkF m 0 #[.val (.ref b2), .val (.int y0)] [] := by first | (simp [entryFrame, mkF, argsToLocals, Value.category]; done) | rfl
def Q18a25 (Z : State) (b2 : Addr) (y0 : Int32) (cs : Int32) (wd : Addr) (kd : ClassId) (vd : List Value) (wt : Addr) (kt : ClassId) (vt : List Value) (b66a : Addr) (k66b : ClassId) (h0 : Heap) (n0 : Nat) (v : Option Value) (h : Heap) (L : List Loc) : Prop := ∃ (us113a : List Value), v = some (.ref b2) ∧ Fr n0 L ∧ Keep h0 h [b2, b66a] ∧ Fld Z h b2 "java/lang/AbstractStringBuilder" "value" "[B" (.ref b66a) ∧ Fld Z h b2 "java/lang/AbstractStringBuilder" "coder" "B" (.int (0 : Int32)) ∧ Fld Z h b2 "java/lang/AbstractStringBuilder" "count" "I" (.int ((17 : Int32) + (own_dg y0))) ∧ Arv Z h b66a k66b .byte (34 : Int32) us113a (.int (0 : Int32)) ∧ us113a.length = ((34 : Int32)).toNatClampNeg
set_option maxRecDepth 65536 in
set_option maxHeartbeats 40000000 in
theorem rm18a25 (l : Launch) (Z : State) (a0 : Array Value) (hw : ∀ d ∈ tables_1, d.before a0 Z = true) (ws : List Jvm.Cond) (b2 : Addr) (y0 : Int32) (cs : Int32) (wd : Addr) (kd : ClassId) (vd : List Value) (wt : Addr) (kt : ClassId) (vt : List Value) (b66a : Addr) (k66b : ClassId) (h0 : Heap) (n0 : Nat) (Z0 : n0 ≤ h0.size) (PS0 : Sta Z h0 "java/lang/String" "COMPACT_STRINGS" "Z" (.int cs)) (PS1 : Sta Z h0 "java/lang/Integer" "DigitOnes" "[B" (.ref wd)) (PV2 : Arv Z h0 wd kd .byte (100 : Int32) vd (.int (0 : Int32))) (PS3 : Sta Z h0 "java/lang/Integer" "DigitTens" "[B" (.ref wt)) (PV4 : Arv Z h0 wt kt .byte (100 : Int32) vt (.int (0 : Int32))) (PE9 : Exa Z h0 b2 "java/lang/StringBuilder") (PF10 : Fld Z h0 b2 "java/lang/AbstractStringBuilder" "value" "[B" (.ref b66a)) (PF11 : Fld Z h0 b2 "java/lang/AbstractStringBuilder" "coder" "B" (.int (0 : Int32))) (PF12 : Fld Z h0 b2 "java/lang/AbstractStringBuilder" "count" "I" (.int (17 : Int32))) (PV19 : Arv Z h0 b66a k66b .byte (34 : Int32) own_ls3 (.int (0 : Int32))) (PP0 : ¬ (cs = (0 : Int32))) (PP1 : ¬ (y0 < (0 : Int32))) (PP2 : ¬ ((0 : Int32) < (((17 : Int32) + (own_dg y0)) - (34 : Int32)))) (PP3 : ¬ (((17 : Int32) + (own_dg y0)) < (own_dg y0))) (PP4 : ¬ ((34 : Int32) < ((17 : Int32) + (own_dg y0)))) (ne_b66a_wd : b66a ≠ wd) (ne_b66a_wt : b66a ≠ wt) (ne_b2_b66a : b2 ≠ b66a) (ne_b66a_b2 : b66a ≠ b2) (n_b2 : n0 ≤ b2) (n_b66a : n0 ≤ b66a) (pr_st_vd : own_SameSt Z) :
    own_Met l mn20 jdk_67_method_15_code 2 (some (.object "java/lang/StringBuilder")) ws (oRm 3 0 0 93) #[(.ref b2), (.int y0)] Z h0 (Q18a25 Z b2 y0 cs wd kd vd wt kt vt b66a k66b h0 n0) := by
  refine own_met (own := "java/lang/StringBuilder") rfl (plainFor_of_name pn_8) ?_
  intro p e s m below meth c s₁ hx hby hml hZ hown hnm X0 e0 Br Bs
  have N0 := Fr.nil n0
  have tt := own_tt hx hby own_ok18
  rw [ef_rm18a25 m b2 y0]
  refine own_go (T' := s₁) (f' := (mkF m 2 #[oR b2, .val (.int y0)] [(.int y0), vR b2])) (fun _ k => own_e X0 tt 0 2 k rfl) ?_
  obtain ⟨_, T113, Lc113, X113, hQ113, st113⟩ := own_out (superBack X0 hx hZ (y := mn19) hown (ow116 hw) (own_same (y := mn19) (y2 := mn11) (ow71 hw) rfl (ow117 hw) (by decide)) (ow117 hw) (ow50 hw) (by decide) (backOf (W := 0) (rm19a26 l Z a0 hw [] b2 y0 cs wd kd vd wt kt vt b66a k66b h0 n0 Z0 PS0 PS1 PV2 PS3 PV4 PE9 PF10 PF11 PF12 PV19 PP0 PP1 PP2 PP3 PP4 ne_b66a_wd ne_b66a_wt ne_b2_b66a ne_b66a_b2 n_b2 n_b66a pr_st_vd) hZ (ow119 hw) (ow25 hw) (by decide) (by decide)) e0 (Ins.self PE9) (g := (mkF m 2 #[oR b2, .val (.int y0)] [(.int y0), vR b2])) rfl (by rw [hml]; rfl) (ow119 hw) (argsL := [(.int y0)]) (rest := []) (lenOf pd9 rfl) rfl (by show 2 * 0 + _ ≤ _; exact Nat.le_of_eq rfl) (hb hby d18_2) (fun _ _ => ⟨rfl, e0, (by decide : 0 + 0 ≤ _), (by decide : 0 + 0 ≤ _)⟩))
  obtain ⟨us113a, rfl, N113q, K113, g113_0, g113_1, g113_2, g113_3, g113_4⟩ := hQ113
  have N113 := Fr.app N0 N113q
  have eK113 : T113.heap = T113.heap := rfl
  have KK113 : Keep h0 T113.heap [b2, b66a] := Keep.trans (Keep.refl h0 [b2, b66a]) K113 (allS (Or.inl (List.mem_of_getElem? (i := 1) rfl)) (allS (Or.inl (List.mem_of_getElem? (i := 0) rfl)) all0))
  obtain ⟨_, X113, N113⟩ := own_hide X113 N113
  refine own_go (T' := T113) (f' := (mkF m 7 #[oR b2, .val (.int y0)] [vR b2])) (fun _ k => st113.trans (own_e X113 tt 5 2 k rfl)) ?_
  refine own_ret X113 (v := some (.ref b2)) (fun h => by rw [Br] at h; cases h) Bs (fun fs hr => own_retA X113 hx Br rfl rfl (hb hby d18_7) hr) ?_ (by decide) (by decide)
  show Q18a25 Z b2 y0 cs wd kd vd wt kt vt b66a k66b h0 n0 _ T113.heap _
  rw [eK113]
  exact ⟨us113a, rfl, N113, KK113, g113_1, g113_2, g113_3, g113_0, g113_4⟩
theorem pd10 : parseMethodDescriptor "(I)Ljava/lang/StringBuilder;" = some ⟨[.int], some (.object "java/lang/StringBuilder")⟩ := by decide +kernel
theorem ef_rm9a29 (m : MethodId) (a123 : Addr) : entryFrame m #[(.ref a123)] 1 = mkF m 0 #[.val (.ref a123)] [] := by first | (simp [entryFrame, mkF, argsToLocals, Value.category]; done) | rfl
def Q9a29 (Z : State) (a123 : Addr) (cs : Int32) (b123 : Addr) (kc123 : ClassId) (h0 : Heap) (n0 : Nat) (v : Option Value) (h : Heap) (L : List Loc) : Prop := v = some (.int (5 : Int32)) ∧ Fr n0 L ∧ h = h0
set_option maxRecDepth 65536 in
set_option maxHeartbeats 40000000 in
theorem rm9a29 (l : Launch) (Z : State) (a0 : Array Value) (hw : ∀ d ∈ tables_1, d.before a0 Z = true) (ws : List Jvm.Cond) (a123 : Addr) (cs : Int32) (b123 : Addr) (kc123 : ClassId) (h0 : Heap) (n0 : Nat) (Z0 : n0 ≤ h0.size) (PS0 : Sta Z h0 "java/lang/String" "COMPACT_STRINGS" "Z" (.int cs)) (PE21 : Exa Z h0 a123 "java/lang/String") (PF22 : Fld Z h0 a123 "java/lang/String" "coder" "B" (.int (0 : Int32))) (PF23 : Fld Z h0 a123 "java/lang/String" "value" "[B" (.ref b123)) (PV24 : Arv Z h0 b123 kc123 .byte (5 : Int32) own_ls4 (.int (0 : Int32))) (PP0 : ¬ (cs = (0 : Int32))) :
    own_Met l mn7 jdk_42_method_54_code 1 (some .int) ws (oRm 1 0 0 13) #[(.ref a123)] Z h0 (Q9a29 Z a123 cs b123 kc123 h0 n0) := by
  refine own_met (own := "java/lang/String") rfl (plainFor_of_name pn_7) ?_
  intro p e s m below meth c s₁ hx hby hml hZ hown hnm X0 e0 Br Bs
  have N0 := Fr.nil n0
  have tt := own_tt hx hby own_ok9
  rw [ef_rm9a29 m a123]
  refine own_go (T' := s₁) (f' := (mkF m 1 #[oR a123] [vR a123])) (fun _ k => own_e X0 tt 0 1 k rfl) ?_
  obtain ⟨T126, X126, e126, st126⟩ := getF X0 hx hZ hown (host := "") (Or.inl (ow58 hw)) Via.refl e0 PF23 (g := (mkF m 1 #[oR a123] [vR a123])) rfl rfl (hb hby d9_1)
  refine own_go (T' := T126) (f' := (mkF m 6 #[oR a123] [vR a123, vI 5])) (fun _ k => st126 _ (own_alen X126 hx hZ e126 PV24 rfl rfl (hb hby d9_4) (own_e X126 tt 5 1 k rfl))) ?_
  obtain ⟨cq127, kq127, q127a, q127b, q127c⟩ := isOf hZ e126 PE21
  obtain ⟨_, T127, Lc127, X127, hQ127, st127⟩ := own_out (X126.virtualBack hx (y := mn6) (z := mn6) hown (mvT hZ (ow59 hw)) (mvT hZ (ow60 hw)) (notFace_of_selects (args := #[]) (mvT hZ (ow62 hw))) (mvT hZ (ow62 hw)) (mvT hZ (ow61 hw)) (by decide) (backOf (W := 1) (rm10a6 l Z a0 hw [] a123 cs h0 n0 Z0 PS0 PF22 PP0) hZ (ow63 hw) (ow31 hw) (by decide) (by decide)) q127a q127c (g := (mkF m 6 #[oR a123] [vR a123, vI 5])) rfl (by rw [hml]; rfl) (Steps.refl _) (argsL := []) (rest := [(.int (5 : Int32))]) (lenOf pd0 rfl) rfl (by show 2 * 0 + _ ≤ _; exact Nat.le_of_eq rfl) (hb hby d9_6) (fun _ _ => ⟨rfl, e126, (by decide : 0 + 0 ≤ _), (by decide : 0 + 0 ≤ _)⟩))
  obtain ⟨rfl, N127q, hh127⟩ := hQ127
  have N127 := Fr.app N0 N127q
  obtain ⟨_, X127, N127⟩ := own_hide X127 N127
  refine own_go (T' := T127) (f' := (mkF m 10 #[oR a123] [vI 5])) (fun _ k => st127.trans (own_e X127 tt 9 1 k rfl)) ?_
  refine own_ret X127 (v := some (.int (5 : Int32))) (fun h => by rw [Br] at h; cases h) Bs (fun fs hr => retI X127 hx Br (hb hby d9_10) hr) ?_ (by decide) (by decide)
  show Q9a29 Z a123 cs b123 kc123 h0 n0 _ T127.heap _
  exact ⟨rfl, N127, hh127⟩
theorem ef_rm11a33 (m : MethodId) (b2 : Addr) (i141 : Int32) : entryFrame m #[(.ref b2), (.int i141)] 3 = mkF m 0 #[.val (.ref b2), .val (.int i141), .unset] [] := by first | (simp [entryFrame, mkF, argsToLocals, Value.category]; done) | rfl
def Q11a33 (Z : State) (b2 : Addr) (i141 : Int32) (b66a : Addr) (k66b : ClassId) (us117a : List Value) (h0 : Heap) (n0 : Nat) (v : Option Value) (h : Heap) (L : List Loc) : Prop := v = none ∧ Fr n0 L ∧ h = h0
set_option maxRecDepth 65536 in
set_option maxHeartbeats 40000000 in
theorem rm11a33 (l : Launch) (Z : State) (a0 : Array Value) (hw : ∀ d ∈ tables_1, d.before a0 Z = true) (ws : List Jvm.Cond) (b2 : Addr) (i141 : Int32) (b66a : Addr) (k66b : ClassId) (us117a : List Value) (h0 : Heap) (n0 : Nat) (Z0 : n0 ≤ h0.size) (PF10 : Fld Z h0 b2 "java/lang/AbstractStringBuilder" "value" "[B" (.ref b66a)) (PF11 : Fld Z h0 b2 "java/lang/AbstractStringBuilder" "coder" "B" (.int (0 : Int32))) (PV19 : Arv Z h0 b66a k66b .byte (34 : Int32) us117a (.int (0 : Int32))) (PP3 : ¬ ((0 : Int32) < (i141 - (34 : Int32)))) :
    own_Met l mn11 jdk_68_method_9_code 3 none ws (oRm 0 0 0 0) #[(.ref b2), (.int i141)] Z h0 (Q11a33 Z b2 i141 b66a k66b us117a h0 n0) := by
  refine own_met (own := "java/lang/AbstractStringBuilder") rfl (plainFor_of_name pn_3) ?_
  intro p e s m below meth c s₁ hx hby hml hZ hown hnm X0 e0 Br Bs
  have N0 := Fr.nil n0
  have tt := own_tt hx hby own_ok11
  rw [ef_rm11a33 m b2 i141]
  refine own_go (T' := s₁) (f' := (mkF m 1 #[oR b2, .val (.int i141), oU] [vR b2])) (fun _ k => own_e X0 tt 0 1 k rfl) ?_
  obtain ⟨T142, X142, e142, st142⟩ := getF X0 hx hZ hown (host := "") (Or.inl (ow33 hw)) Via.refl e0 PF10 (g := (mkF m 1 #[oR b2, .val (.int i141), oU] [vR b2])) rfl rfl (hb hby d11_1)
  refine own_go (T' := T142) (f' := (mkF m 6 #[oR b2, .val (.int i141), oU] [vR b2, vI 34])) (fun _ k => st142 _ (own_alen X142 hx hZ e142 PV19 rfl rfl (hb hby d11_4) (own_e X142 tt 5 1 k rfl))) ?_
  obtain ⟨T143, X143, e143, st143⟩ := getF X142 hx hZ hown (host := "") (Or.inl (ow35 hw)) Via.refl e142 PF11 (g := (mkF m 6 #[oR b2, .val (.int i141), oU] [vR b2, vI 34])) rfl rfl (hb hby d11_6)
  refine own_go (T' := T143) (f' := (mkF m 38 #[oR b2, .val (.int i141), oI 34] [])) (fun _ k => st143 _ (own_r X143 tt 9 5 rfl (XS.ifYes X143.here hx rfl (pc0 := 14) (pc' := 38) rfl (hb hby d11_14) rfl ((if0 _ _).trans (flt PP3).2.2.2) (by decide) (by decide) k))) ?_
  refine own_ret X143 (v := none) (fun _ => rfl) Bs (fun fs hr => X143.returnOut hx Br (hb hby d11_38) hr) ?_ (by decide) (by decide)
  show Q11a33 Z b2 i141 b66a k66b us117a h0 n0 _ T143.heap _
  exact ⟨rfl, N0, e143⟩
theorem ef_rm17a43 (m : MethodId) (a123 : Addr) (b66a : Addr) (i169 : Int32) : entryFrame m #[(.ref a123), (.ref b66a), (.int i169), (.int (0 : Int32))] 4 = mkF m 0 #[.val (.ref a123), .val (.ref b66a), .val (.int i169), .val (.int (0 : Int32))] [] := by first | (simp [entryFrame, mkF, argsToLocals, Value.category]; done) | rfl
def Q17a43 (Z : State) (a123 : Addr) (b66a : Addr) (i169 : Int32) (cs : Int32) (k66b : ClassId) (us117a : List Value) (b123 : Addr) (kc123 : ClassId) (h0 : Heap) (n0 : Nat) (v : Option Value) (h : Heap) (L : List Loc) : Prop := ∃ (us180 : List Value), v = none ∧ Fr n0 L ∧ Keep h0 h [b66a] ∧ Arv Z h b66a k66b .byte (34 : Int32) us180 (.int (0 : Int32)) ∧ us180.length = ((34 : Int32)).toNatClampNeg
set_option maxRecDepth 65536 in
set_option maxHeartbeats 40000000 in
theorem rm17a43 (l : Launch) (Z : State) (a0 : Array Value) (hw : ∀ d ∈ tables_1, d.before a0 Z = true) (ws : List Jvm.Cond) (a123 : Addr) (b66a : Addr) (i169 : Int32) (cs : Int32) (k66b : ClassId) (us117a : List Value) (b123 : Addr) (kc123 : ClassId) (h0 : Heap) (n0 : Nat) (Z0 : n0 ≤ h0.size) (PS0 : Sta Z h0 "java/lang/String" "COMPACT_STRINGS" "Z" (.int cs)) (PV19 : Arv Z h0 b66a k66b .byte (34 : Int32) us117a (.int (0 : Int32))) (PE21 : Exa Z h0 a123 "java/lang/String") (PF22 : Fld Z h0 a123 "java/lang/String" "coder" "B" (.int (0 : Int32))) (PF23 : Fld Z h0 a123 "java/lang/String" "value" "[B" (.ref b123)) (PV24 : Arv Z h0 b123 kc123 .byte (5 : Int32) own_ls4 (.int (0 : Int32))) (PP0 : ¬ (cs = (0 : Int32))) (PP4 : ¬ ((29 : Int32) < (i169 <<< ((0 : Int32) &&& 31)))) (PP5 : ¬ ((i169 <<< ((0 : Int32) &&& 31)) < (0 : Int32))) (n_b66a : n0 ≤ b66a) (pr_len_us117a : us117a.length = ((34 : Int32)).toNatClampNeg) :
    own_Met l mn13 jdk_42_method_147_code 4 none ws (oRm 1 0 0 18) #[(.ref a123), (.ref b66a), (.int i169), (.int (0 : Int32))] Z h0 (Q17a43 Z a123 b66a i169 cs k66b us117a b123 kc123 h0 n0) := by
  refine own_met (own := "java/lang/String") rfl (plainFor_of_name pn_7) ?_
  intro p e s m below meth c s₁ hx hby hml hZ hown hnm X0 e0 Br Bs
  have N0 := Fr.nil n0
  have tt := own_tt hx hby own_ok17
  rw [ef_rm17a43 m a123 b66a i169]
  refine own_go (T' := s₁) (f' := (mkF m 1 #[oR a123, oR b66a, .val (.int i169), oI 0] [vR a123])) (fun _ k => own_e X0 tt 0 1 k rfl) ?_
  obtain ⟨cq177, kq177, q177a, q177b, q177c⟩ := isOf hZ e0 PE21
  obtain ⟨_, T177, Lc177, X177, hQ177, st177⟩ := own_out (X0.virtualBack hx (y := mn6) (z := mn6) hown (mvT hZ (ow59 hw)) (mvT hZ (ow60 hw)) (notFace_of_selects (args := #[]) (mvT hZ (ow62 hw))) (mvT hZ (ow62 hw)) (mvT hZ (ow61 hw)) (by decide) (backOf (W := 0) (rm10a6 l Z a0 hw [] a123 cs h0 n0 Z0 PS0 PF22 PP0) hZ (ow63 hw) (ow31 hw) (by decide) (by decide)) q177a q177c (g := (mkF m 1 #[oR a123, oR b66a, .val (.int i169), oI 0] [vR a123])) rfl (by rw [hml]; rfl) (Steps.refl _) (argsL := []) (rest := []) (lenOf pd0 rfl) rfl (by show 2 * 0 + _ ≤ _; exact Nat.le_of_eq rfl) (hb hby d17_1) (fun _ _ => ⟨rfl, e0, (by decide : 0 + 0 ≤ _), (by decide : 0 + 0 ≤ _)⟩))
  obtain ⟨rfl, N177q, hh177⟩ := hQ177
  have N177 := Fr.app N0 N177q
  obtain ⟨_, X177, N177⟩ := own_hide X177 N177
  refine own_go (T' := T177) (f' := (mkF m 9 #[oR a123, oR b66a, .val (.int i169), oI 0] [vR a123])) (fun _ k => st177.trans (own_e X177 tt 4 3 k rfl)) ?_
  obtain ⟨T178, X178, e178, st178⟩ := getF X177 hx hZ hown (host := "") (Or.inl (ow58 hw)) Via.refl hh177 PF23 (g := (mkF m 9 #[oR a123, oR b66a, .val (.int i169), oI 0] [vR a123])) rfl rfl (hb hby d17_9)
  refine own_go (T' := T178) (f' := (mkF m 18 #[oR a123, oR b66a, .val (.int i169), oI 0] [vR a123, (.int (i169 <<< ((0 : Int32) &&& 31))), vR b66a, vI 0, vR b123])) (fun _ k => st178 _ (own_e X178 tt 12 6 k rfl)) ?_
  obtain ⟨T179, X179, e179, st179⟩ := getF X178 hx hZ hown (host := "") (Or.inl (ow58 hw)) Via.refl e178 PF23 (g := (mkF m 18 #[oR a123, oR b66a, .val (.int i169), oI 0] [vR a123, (.int (i169 <<< ((0 : Int32) &&& 31))), vR b66a, vI 0, vR b123])) rfl rfl (hb hby d17_18)
  refine own_go (T' := T179) (f' := (mkF m 22 #[oR a123, oR b66a, .val (.int i169), oI 0] [vI 5, (.int (i169 <<< ((0 : Int32) &&& 31))), vR b66a, vI 0, vR b123])) (fun _ k => st179 _ (own_alen X179 hx hZ e179 PV24 rfl rfl (hb hby d17_21) k)) ?_
  obtain ⟨T180, h180, Lq180, X180, e180, N180, K180, V180, st180⟩ := cpA X179 hx hZ hown (ow110 hw) (ow93 hw) (ow91 hw) (ow92 hw) e179 PV24 PV19 (Or.inl ⟨rfl, rfl⟩) (sp := (0 : Int32)) (dp := (i169 <<< ((0 : Int32) &&& 31))) (nn := (5 : Int32)) (by decide) PP5 (by decide) (by decide) (own_cl (k := (29 : Int32)) (by decide) (by decide) (by decide) PP4) rfl (by rw [pr_len_us117a]; exact (own_cl (k := (29 : Int32)) (by decide) (by decide) (by decide) PP4)) N177 n_b66a (g := (mkF m 22 #[oR a123, oR b66a, .val (.int i169), oI 0] [vI 5, (.int (i169 <<< ((0 : Int32) &&& 31))), vR b66a, vI 0, vR b123])) rfl (by rw [hml]; rfl) rfl (hb hby d17_22) (by decide) (W := 0) (by show 2 * 0 + _ ≤ _; exact Nat.le_of_eq rfl) (by decide)
  obtain ⟨us180, hl180, Vo180⟩ := own_open V180
  have KK180 : Keep h0 h180 [b66a] := Keep.trans (Keep.refl h0 [b66a]) K180 (allS (Or.inl (List.mem_of_getElem? (i := 0) rfl)) all0)
  refine own_go (T' := T180) (f' := (mkF m 43 #[oR a123, oR b66a, .val (.int i169), oI 0] [])) (fun _ k => st180 _ (own_e X180 tt 25 1 k rfl)) ?_
  refine own_ret X180 (v := none) (fun _ => rfl) Bs (fun fs hr => X180.returnOut hx Br (hb hby d17_43) hr) ?_ (by decide) (by decide)
  show Q17a43 Z a123 b66a i169 cs k66b us117a b123 kc123 h0 n0 _ T180.heap _
  rw [e180]
  exact ⟨us180, rfl, N180, KK180, Vo180, hl180⟩
theorem ef_rm15a42 (m : MethodId) (b2 : Addr) (i169 : Int32) (a123 : Addr) : entryFrame m #[(.ref b2), (.int i169), (.ref a123)] 3 = mkF m 0 #[.val (.ref b2), .val (.int i169), .val (.ref a123)] [] := by first | (simp [entryFrame, mkF, argsToLocals, Value.category]; done) | rfl
def Q15a42 (Z : State) (b2 : Addr) (i169 : Int32) (a123 : Addr) (cs : Int32) (b66a : Addr) (k66b : ClassId) (us117a : List Value) (b123 : Addr) (kc123 : ClassId) (h0 : Heap) (n0 : Nat) (v : Option Value) (h : Heap) (L : List Loc) : Prop := ∃ (us181a : List Value), v = none ∧ Fr n0 L ∧ Keep h0 h [b66a] ∧ Arv Z h b66a k66b .byte (34 : Int32) us181a (.int (0 : Int32)) ∧ us181a.length = ((34 : Int32)).toNatClampNeg
set_option maxRecDepth 65536 in
set_option maxHeartbeats 40000000 in
theorem rm15a42 (l : Launch) (Z : State) (a0 : Array Value) (hw : ∀ d ∈ tables_1, d.before a0 Z = true) (ws : List Jvm.Cond) (b2 : Addr) (i169 : Int32) (a123 : Addr) (cs : Int32) (b66a : Addr) (k66b : ClassId) (us117a : List Value) (b123 : Addr) (kc123 : ClassId) (h0 : Heap) (n0 : Nat) (Z0 : n0 ≤ h0.size) (PS0 : Sta Z h0 "java/lang/String" "COMPACT_STRINGS" "Z" (.int cs)) (PE9 : Exa Z h0 b2 "java/lang/StringBuilder") (PF10 : Fld Z h0 b2 "java/lang/AbstractStringBuilder" "value" "[B" (.ref b66a)) (PF11 : Fld Z h0 b2 "java/lang/AbstractStringBuilder" "coder" "B" (.int (0 : Int32))) (PV19 : Arv Z h0 b66a k66b .byte (34 : Int32) us117a (.int (0 : Int32))) (PE21 : Exa Z h0 a123 "java/lang/String") (PF22 : Fld Z h0 a123 "java/lang/String" "coder" "B" (.int (0 : Int32))) (PF23 : Fld Z h0 a123 "java/lang/String" "value" "[B" (.ref b123)) (PV24 : Arv Z h0 b123 kc123 .byte (5 : Int32) own_ls4 (.int (0 : Int32))) (PP0 : ¬ (cs = (0 : Int32))) (PP4 : ¬ ((29 : Int32) < (i169 <<< ((0 : Int32) &&& 31)))) (PP5 : ¬ ((i169 <<< ((0 : Int32) &&& 31)) < (0 : Int32))) (n_b66a : n0 ≤ b66a) (pr_len_us117a : us117a.length = ((34 : Int32)).toNatClampNeg) :
    own_Met l mn14 jdk_68_method_73_code 3 none ws (oRm 2 0 0 33) #[(.ref b2), (.int i169), (.ref a123)] Z h0 (Q15a42 Z b2 i169 a123 cs b66a k66b us117a b123 kc123 h0 n0) := by
  refine own_met (own := "java/lang/AbstractStringBuilder") rfl (plainFor_of_name pn_3) ?_
  intro p e s m below meth c s₁ hx hby hml hZ hown hnm X0 e0 Br Bs
  have N0 := Fr.nil n0
  have tt := own_tt hx hby own_ok15
  rw [ef_rm15a42 m b2 i169 a123]
  refine own_go (T' := s₁) (f' := (mkF m 2 #[oR b2, .val (.int i169), oR a123] [vR a123, vR b2])) (fun _ k => own_e X0 tt 0 2 k rfl) ?_
  obtain ⟨cq174, q174, q174'⟩ := PE9.cell
  obtain ⟨_, T174, Lc174, X174, hQ174, st174⟩ := own_out (X0.privateBack hx (y := mn12) hown (mvT hZ (ow99 hw)) (mvT hZ (ow100 hw)) (own_selp (mvT hZ (ow102 hw)) (Cond.privateMethod_at (mvP hZ (ow101 hw) (args := #[]))) (mvT hZ (ow100 hw)) (by decide)) (Cond.privateMethod_at (mvP hZ (ow101 hw) (args := #[]))) (mvT hZ (ow103 hw)) (by decide) (backOf (W := 0) (rm16a14 l Z a0 hw [] b2 a123 cs h0 n0 Z0 PS0 PF11 PE21 PF22 PP0) hZ (ow103 hw) (ow25 hw) (by decide) (by decide)) (g := (mkF m 2 #[oR b2, .val (.int i169), oR a123] [vR a123, vR b2])) rfl (by rw [hml]; rfl) (Steps.refl _) (a := b2) (by rw [e0]; exact q174) q174' (argsL := [(.ref a123)]) (rest := []) (lenOf pd24 rfl) rfl (by show 2 * 0 + _ ≤ _; exact Nat.le_of_eq rfl) (hb hby d15_2) (fun _ _ => ⟨rfl, e0, (by decide : 0 + 0 ≤ _), (by decide : 0 + 0 ≤ _)⟩))
  obtain ⟨rfl, N174q, hh174⟩ := hQ174
  have N174 := Fr.app N0 N174q
  obtain ⟨_, X174, N174⟩ := own_hide X174 N174
  refine own_go (T' := T174) (f' := (mkF m 7 #[oR b2, .val (.int i169), oR a123] [vR b2, vR a123])) (fun _ k => st174.trans (own_e X174 tt 5 2 k rfl)) ?_
  obtain ⟨T175, X175, e175, st175⟩ := getF X174 hx hZ hown (host := "") (Or.inl (ow33 hw)) Via.refl hh174 PF10 (g := (mkF m 7 #[oR b2, .val (.int i169), oR a123] [vR b2, vR a123])) rfl rfl (hb hby d15_7)
  refine own_go (T' := T175) (f' := (mkF m 12 #[oR b2, .val (.int i169), oR a123] [vR b2, (.int i169), vR b66a, vR a123])) (fun _ k => st175 _ (own_e X175 tt 10 2 k rfl)) ?_
  obtain ⟨T176, X176, e176, st176⟩ := getF X175 hx hZ hown (host := "") (Or.inl (ow35 hw)) Via.refl e175 PF11 (g := (mkF m 12 #[oR b2, .val (.int i169), oR a123] [vR b2, (.int i169), vR b66a, vR a123])) rfl rfl (hb hby d15_12)
  refine own_go (T' := T176) (f' := (mkF m 15 #[oR b2, .val (.int i169), oR a123] [vI 0, (.int i169), vR b66a, vR a123])) (fun _ k => st176 _ k) ?_
  obtain ⟨cq181, kq181, q181a, q181b, q181c⟩ := isOf hZ e176 PE21
  obtain ⟨_, T181, Lc181, X181, hQ181, st181⟩ := own_out (X176.virtualBack hx (y := mn13) (z := mn13) hown (mvT hZ (ow105 hw)) (mvT hZ (ow106 hw)) (notFace_of_selects (args := #[]) (mvT hZ (ow108 hw))) (mvT hZ (ow108 hw)) (mvT hZ (ow107 hw)) (by decide) (backOf (W := 0) (rm17a43 l Z a0 hw [] a123 b66a i169 cs k66b us117a b123 kc123 h0 n0 Z0 PS0 PV19 PE21 PF22 PF23 PV24 PP0 PP4 PP5 n_b66a pr_len_us117a) hZ (ow109 hw) (ow31 hw) (by decide) (by decide)) q181a q181c (g := (mkF m 15 #[oR b2, .val (.int i169), oR a123] [vI 0, (.int i169), vR b66a, vR a123])) rfl (by rw [hml]; rfl) (Steps.refl _) (argsL := [(.ref b66a), (.int i169), (.int (0 : Int32))]) (rest := []) (lenOf pd28 rfl) rfl (by show 2 * 0 + _ ≤ _; exact Nat.le_of_eq rfl) (hb hby d15_15) (fun _ _ => ⟨rfl, e176, (by decide : 0 + 0 ≤ _), (by decide : 0 + 0 ≤ _)⟩))
  obtain ⟨us181a, rfl, N181q, K181, g181_0, g181_1⟩ := hQ181
  have N181 := Fr.app N174 N181q
  have eK181 : T181.heap = T181.heap := rfl
  have KK181 : Keep h0 T181.heap [b66a] := Keep.trans (Keep.refl h0 [b66a]) K181 (allS (Or.inl (List.mem_of_getElem? (i := 0) rfl)) all0)
  obtain ⟨_, X181, N181⟩ := own_hide X181 N181
  refine own_go (T' := T181) (f' := (mkF m 18 #[oR b2, .val (.int i169), oR a123] [])) (fun _ k => st181.trans k) ?_
  refine own_ret X181 (v := none) (fun _ => rfl) Bs (fun fs hr => X181.returnOut hx Br (hb hby d15_18) hr) ?_ (by decide) (by decide)
  show Q15a42 Z b2 i169 a123 cs b66a k66b us117a b123 kc123 h0 n0 _ T181.heap _
  rw [eK181]
  exact ⟨us181a, rfl, N181, KK181, g181_0, g181_1⟩
theorem ef_rm8a41 (m : MethodId) (b2 : Addr) (a123 : Addr) : entryFrame m #[(.ref b2), (.ref a123)] 3 = mkF m 0 #[.val (.ref b2), .val (.ref a123), .unset] [] := by first | (simp [entryFrame, mkF, argsToLocals, Value.category]; done) | rfl
def Q8a41 (Z : State) (b2 : Addr) (a123 : Addr) (cs : Int32) (b66a : Addr) (i169 : Int32) (k66b : ClassId) (us117a : List Value) (b123 : Addr) (kc123 : ClassId) (h0 : Heap) (n0 : Nat) (v : Option Value) (h : Heap) (L : List Loc) : Prop := ∃ (us182a : List Value), v = some (.ref b2) ∧ Fr n0 L ∧ Keep h0 h [b66a, b2] ∧ Arv Z h b66a k66b .byte (34 : Int32) us182a (.int (0 : Int32)) ∧ Fld Z h b2 "java/lang/AbstractStringBuilder" "value" "[B" (.ref b66a) ∧ Fld Z h b2 "java/lang/AbstractStringBuilder" "coder" "B" (.int (0 : Int32)) ∧ Fld Z h b2 "java/lang/AbstractStringBuilder" "count" "I" (.int (i169 + (5 : Int32))) ∧ us182a.length = ((34 : Int32)).toNatClampNeg
set_option maxRecDepth 65536 in
set_option maxHeartbeats 40000000 in
theorem rm8a41 (l : Launch) (Z : State) (a0 : Array Value) (hw : ∀ d ∈ tables_1, d.before a0 Z = true) (ws : List Jvm.Cond) (b2 : Addr) (a123 : Addr) (cs : Int32) (b66a : Addr) (i169 : Int32) (k66b : ClassId) (us117a : List Value) (b123 : Addr) (kc123 : ClassId) (h0 : Heap) (n0 : Nat) (Z0 : n0 ≤ h0.size) (PS0 : Sta Z h0 "java/lang/String" "COMPACT_STRINGS" "Z" (.int cs)) (PE9 : Exa Z h0 b2 "java/lang/StringBuilder") (PF10 : Fld Z h0 b2 "java/lang/AbstractStringBuilder" "value" "[B" (.ref b66a)) (PF11 : Fld Z h0 b2 "java/lang/AbstractStringBuilder" "coder" "B" (.int (0 : Int32))) (PF12 : Fld Z h0 b2 "java/lang/AbstractStringBuilder" "count" "I" (.int i169)) (PV19 : Arv Z h0 b66a k66b .byte (34 : Int32) us117a (.int (0 : Int32))) (PE21 : Exa Z h0 a123 "java/lang/String") (PF22 : Fld Z h0 a123 "java/lang/String" "coder" "B" (.int (0 : Int32))) (PF23 : Fld Z h0 a123 "java/lang/String" "value" "[B" (.ref b123)) (PV24 : Arv Z h0 b123 kc123 .byte (5 : Int32) own_ls4 (.int (0 : Int32))) (PP0 : ¬ (cs = (0 : Int32))) (PP3 : ¬ ((0 : Int32) < ((i169 + (5 : Int32)) - (34 : Int32)))) (PP4 : ¬ ((29 : Int32) < (i169 <<< ((0 : Int32) &&& 31)))) (PP5 : ¬ ((i169 <<< ((0 : Int32) &&& 31)) < (0 : Int32))) (ne_b2_b66a : b2 ≠ b66a) (ne_b66a_b2 : b66a ≠ b2) (n_b2 : n0 ≤ b2) (n_b66a : n0 ≤ b66a) (pr_len_us117a : us117a.length = ((34 : Int32)).toNatClampNeg) :
    own_Met l mn15 jdk_68_method_22_code 3 (some (.object "java/lang/AbstractStringBuilder")) ws (oRm 3 0 0 47) #[(.ref b2), (.ref a123)] Z h0 (Q8a41 Z b2 a123 cs b66a i169 k66b us117a b123 kc123 h0 n0) := by
  refine own_met (own := "java/lang/AbstractStringBuilder") rfl (plainFor_of_name pn_3) ?_
  intro p e s m below meth c s₁ hx hby hml hZ hown hnm X0 e0 Br Bs
  have N0 := Fr.nil n0
  have tt := own_tt hx hby own_ok8
  rw [ef_rm8a41 m b2 a123]
  refine own_go (T' := s₁) (f' := (mkF m 10 #[oR b2, oR a123, oU] [vR a123])) (fun _ k => own_e X0 tt 0 3 k rfl) ?_
  obtain ⟨cq170, kq170, q170a, q170b, q170c⟩ := isOf hZ e0 PE21
  obtain ⟨_, T170, Lc170, X170, hQ170, st170⟩ := own_out (X0.virtualBack hx (y := mn7) (z := mn7) hown (mvT hZ (ow53 hw)) (mvT hZ (ow54 hw)) (notFace_of_selects (args := #[]) (mvT hZ (ow56 hw))) (mvT hZ (ow56 hw)) (mvT hZ (ow55 hw)) (by decide) (backOf (W := 0) (rm9a29 l Z a0 hw [] a123 cs b123 kc123 h0 n0 Z0 PS0 PE21 PF22 PF23 PV24 PP0) hZ (ow57 hw) (ow31 hw) (by decide) (by decide)) q170a q170c (g := (mkF m 10 #[oR b2, oR a123, oU] [vR a123])) rfl (by rw [hml]; rfl) (Steps.refl _) (argsL := []) (rest := []) (lenOf pd1 rfl) rfl (by show 2 * 0 + _ ≤ _; exact Nat.le_of_eq rfl) (hb hby d8_10) (fun _ _ => ⟨rfl, e0, (by decide : 0 + 0 ≤ _), (by decide : 0 + 0 ≤ _)⟩))
  obtain ⟨rfl, N170q, hh170⟩ := hQ170
  have N170 := Fr.app N0 N170q
  obtain ⟨_, X170, N170⟩ := own_hide X170 N170
  refine own_go (T' := T170) (f' := (mkF m 16 #[oR b2, oR a123, oI 5] [vR b2, vR b2])) (fun _ k => st170.trans (own_e X170 tt 13 3 k rfl)) ?_
  obtain ⟨T171, X171, e171, st171⟩ := getF X170 hx hZ hown (host := "") (Or.inl (ow66 hw)) Via.refl hh170 PF12 (g := (mkF m 16 #[oR b2, oR a123, oI 5] [vR b2, vR b2])) rfl rfl (hb hby d8_16)
  refine own_go (T' := T171) (f' := (mkF m 21 #[oR b2, oR a123, oI 5] [(.int (i169 + (5 : Int32))), vR b2])) (fun _ k => st171 _ (own_e X171 tt 19 2 k rfl)) ?_
  obtain ⟨cq172, q172, q172'⟩ := PE9.cell
  obtain ⟨_, T172, Lc172, X172, hQ172, st172⟩ := own_out (X171.privateBack hx (y := mn11) hown (mvT hZ (ow68 hw)) (mvT hZ (ow69 hw)) (own_selp (mvT hZ (ow71 hw)) (Cond.privateMethod_at (mvP hZ (ow70 hw) (args := #[]))) (mvT hZ (ow69 hw)) (by decide)) (Cond.privateMethod_at (mvP hZ (ow70 hw) (args := #[]))) (mvT hZ (ow72 hw)) (by decide) (backOf (W := 0) (rm11a33 l Z a0 hw [] b2 (i169 + (5 : Int32)) b66a k66b us117a h0 n0 Z0 PF10 PF11 PV19 PP3) hZ (ow72 hw) (ow25 hw) (by decide) (by decide)) (g := (mkF m 21 #[oR b2, oR a123, oI 5] [(.int (i169 + (5 : Int32))), vR b2])) rfl (by rw [hml]; rfl) (Steps.refl _) (a := b2) (by rw [e171]; exact q172) q172' (argsL := [(.int (i169 + (5 : Int32)))]) (rest := []) (lenOf pd11 rfl) rfl (by show 2 * 0 + _ ≤ _; exact Nat.le_of_eq rfl) (hb hby d8_21) (fun _ _ => ⟨rfl, e171, (by decide : 0 + 0 ≤ _), (by decide : 0 + 0 ≤ _)⟩))
  obtain ⟨rfl, N172q, hh172⟩ := hQ172
  have N172 := Fr.app N170 N172q
  obtain ⟨_, X172, N172⟩ := own_hide X172 N172
  refine own_go (T' := T172) (f' := (mkF m 26 #[oR b2, oR a123, oI 5] [vR b2, vR b2])) (fun _ k => st172.trans (own_e X172 tt 24 2 k rfl)) ?_
  obtain ⟨T173, X173, e173, st173⟩ := getF X172 hx hZ hown (host := "") (Or.inl (ow66 hw)) Via.refl hh172 PF12 (g := (mkF m 26 #[oR b2, oR a123, oI 5] [vR b2, vR b2])) rfl rfl (hb hby d8_26)
  refine own_go (T' := T173) (f' := (mkF m 30 #[oR b2, oR a123, oI 5] [vR a123, (.int i169), vR b2])) (fun _ k => st173 _ (own_e X173 tt 29 1 k rfl)) ?_
  obtain ⟨cq182, q182, q182'⟩ := PE9.cell
  obtain ⟨_, T182, Lc182, X182, hQ182, st182⟩ := own_out (X173.privateBack hx (y := mn14) hown (mvT hZ (ow94 hw)) (mvT hZ (ow95 hw)) (own_selp (mvT hZ (ow97 hw)) (Cond.privateMethod_at (mvP hZ (ow96 hw) (args := #[]))) (mvT hZ (ow95 hw)) (by decide)) (Cond.privateMethod_at (mvP hZ (ow96 hw) (args := #[]))) (mvT hZ (ow98 hw)) (by decide) (backOf (W := 0) (rm15a42 l Z a0 hw [] b2 i169 a123 cs b66a k66b us117a b123 kc123 h0 n0 Z0 PS0 PE9 PF10 PF11 PV19 PE21 PF22 PF23 PV24 PP0 PP4 PP5 n_b66a pr_len_us117a) hZ (ow98 hw) (ow25 hw) (by decide) (by decide)) (g := (mkF m 30 #[oR b2, oR a123, oI 5] [vR a123, (.int i169), vR b2])) rfl (by rw [hml]; rfl) (Steps.refl _) (a := b2) (by rw [e173]; exact q182) q182' (argsL := [(.int i169), (.ref a123)]) (rest := []) (lenOf pd18 rfl) rfl (by show 2 * 0 + _ ≤ _; exact Nat.le_of_eq rfl) (hb hby d8_30) (fun _ _ => ⟨rfl, e173, (by decide : 0 + 0 ≤ _), (by decide : 0 + 0 ≤ _)⟩))
  obtain ⟨us182a, rfl, N182q, K182, g182_0, g182_1⟩ := hQ182
  have N182 := Fr.app N172 N182q
  have eK182 : T182.heap = T182.heap := rfl
  have KK182 : Keep h0 T182.heap [b66a, b2] := Keep.trans (Keep.refl h0 [b66a, b2]) K182 (allS (Or.inl (List.mem_of_getElem? (i := 0) rfl)) all0)
  obtain ⟨_, X182, N182⟩ := own_hide X182 N182
  refine own_go (T' := T182) (f' := (mkF m 35 #[oR b2, oR a123, oI 5] [vR b2, vR b2])) (fun _ k => st182.trans (own_e X182 tt 33 2 k rfl)) ?_
  obtain ⟨T183, X183, e183, st183⟩ := getF X182 hx hZ hown (host := "") (Or.inl (ow66 hw)) Via.refl eK182 (PF12.keep K182 (ninS ne_b2_b66a nin0)) (g := (mkF m 35 #[oR b2, oR a123, oI 5] [vR b2, vR b2])) rfl rfl (hb hby d8_35)
  refine own_go (T' := T183) (f' := (mkF m 40 #[oR b2, oR a123, oI 5] [(.int (i169 + (5 : Int32))), vR b2])) (fun _ k => st183 _ (own_e X183 tt 38 2 k rfl)) ?_
  obtain ⟨T184, h184, X184, e184, W184, st184⟩ := putF X183 hx hZ hown (host := "") (Or.inl (ow66 hw)) Via.refl e183 (PF12.keep K182 (ninS ne_b2_b66a nin0)) (PE9.keep K182) (Or.inl (ow67 hw)) (ow16 hw) (ty := .int) (by decide) rfl rfl (g := (mkF m 40 #[oR b2, oR a123, oI 5] [(.int (i169 + (5 : Int32))), vR b2])) rfl rfl (hb hby d8_40)
  have Fw184 := Fld.same W184 (PF12.keep K182 (ninS ne_b2_b66a nin0))
  have K184 : Keep h0 h184 [b66a, b2] := KK182.wr W184 (Or.inl (List.mem_of_getElem? (i := 1) rfl))
  have N184 := Fr.snoc X184 N182 n_b2
  refine own_go (T' := T184) (f' := (mkF m 44 #[oR b2, oR a123, oI 5] [vR b2])) (fun _ k => st184 _ (own_e X184 tt 43 1 k rfl)) ?_
  refine own_ret X184 (v := some (.ref b2)) (fun h => by rw [Br] at h; cases h) Bs (fun fs hr => own_retA X184 hx Br rfl rfl (hb hby d8_44) hr) ?_ (by decide) (by decide)
  show Q8a41 Z b2 a123 cs b66a i169 k66b us117a b123 kc123 h0 n0 _ T184.heap _
  have G185 := ((PF10.keep K182 (ninS ne_b2_b66a nin0)).other W184 (Or.inr (slot_ne (Or.inl (ow34 hw)) (Or.inl (ow67 hw)) (by decide) (t := (.array .byte)) (t' := .int) (by decide) (by decide))))
  have G186 := ((PF11.keep K182 (ninS ne_b2_b66a nin0)).other W184 (Or.inr (slot_ne (Or.inl (ow36 hw)) (Or.inl (ow67 hw)) (by decide) (t := .byte) (t' := .int) (by decide) (by decide))))
  rw [e184]
  exact ⟨us182a, rfl, N184, K184, (g182_0.other W184 ne_b66a_b2), G185, G186, Fw184, g182_1⟩
theorem ef_rm7a40 (m : MethodId) (b2 : Addr) (a123 : Addr) : entryFrame m #[(.ref b2), (.ref a123)] 2 = mkF m 0 #[.val (.ref b2), .val (.ref a123)] [] := by first | (simp [entryFrame, mkF, argsToLocals, Value.category]; done) | rfl
def Q7a40 (Z : State) (b2 : Addr) (a123 : Addr) (cs : Int32) (b66a : Addr) (i169 : Int32) (k66b : ClassId) (us117a : List Value) (b123 : Addr) (kc123 : ClassId) (h0 : Heap) (n0 : Nat) (v : Option Value) (h : Heap) (L : List Loc) : Prop := ∃ (us187a : List Value), v = some (.ref b2) ∧ Fr n0 L ∧ Keep h0 h [b2, b66a] ∧ Fld Z h b2 "java/lang/AbstractStringBuilder" "value" "[B" (.ref b66a) ∧ Fld Z h b2 "java/lang/AbstractStringBuilder" "coder" "B" (.int (0 : Int32)) ∧ Fld Z h b2 "java/lang/AbstractStringBuilder" "count" "I" (.int (i169 + (5 : Int32))) ∧ Arv Z h b66a k66b .byte (34 : Int32) us187a (.int (0 : Int32)) ∧ us187a.length = ((34 : Int32)).toNatClampNeg
set_option maxRecDepth 65536 in
set_option maxHeartbeats 40000000 in
theorem rm7a40 (l : Launch) (Z : State) (a0 : Array Value) (hw : ∀ d ∈ tables_1, d.before a0 Z = true) (ws : List Jvm.Cond) (b2 : Addr) (a123 : Addr) (cs : Int32) (b66a : Addr) (i169 : Int32) (k66b : ClassId) (us117a : List Value) (b123 : Addr) (kc123 : ClassId) (h0 : Heap) (n0 : Nat) (Z0 : n0 ≤ h0.size) (PS0 : Sta Z h0 "java/lang/String" "COMPACT_STRINGS" "Z" (.int cs)) (PE9 : Exa Z h0 b2 "java/lang/StringBuilder") (PF10 : Fld Z h0 b2 "java/lang/AbstractStringBuilder" "value" "[B" (.ref b66a)) (PF11 : Fld Z h0 b2 "java/lang/AbstractStringBuilder" "coder" "B" (.int (0 : Int32))) (PF12 : Fld Z h0 b2 "java/lang/AbstractStringBuilder" "count" "I" (.int i169)) (PV19 : Arv Z h0 b66a k66b .byte (34 : Int32) us117a (.int (0 : Int32))) (PE21 : Exa Z h0 a123 "java/lang/String") (PF22 : Fld Z h0 a123 "java/lang/String" "coder" "B" (.int (0 : Int32))) (PF23 : Fld Z h0 a123 "java/lang/String" "value" "[B" (.ref b123)) (PV24 : Arv Z h0 b123 kc123 .byte (5 : Int32) own_ls4 (.int (0 : Int32))) (PP0 : ¬ (cs = (0 : Int32))) (PP3 : ¬ ((0 : Int32) < ((i169 + (5 : Int32)) - (34 : Int32)))) (PP4 : ¬ ((29 : Int32) < (i169 <<< ((0 : Int32) &&& 31)))) (PP5 : ¬ ((i169 <<< ((0 : Int32) &&& 31)) < (0 : Int32))) (ne_b2_b66a : b2 ≠ b66a) (ne_b66a_b2 : b66a ≠ b2) (n_b2 : n0 ≤ b2) (n_b66a : n0 ≤ b66a) (pr_len_us117a : us117a.length = ((34 : Int32)).toNatClampNeg) :
    own_Met l mn16 jdk_67_method_7_code 2 (some (.object "java/lang/StringBuilder")) ws (oRm 4 0 0 61) #[(.ref b2), (.ref a123)] Z h0 (Q7a40 Z b2 a123 cs b66a i169 k66b us117a b123 kc123 h0 n0) := by
  refine own_met (own := "java/lang/StringBuilder") rfl (plainFor_of_name pn_8) ?_
  intro p e s m below meth c s₁ hx hby hml hZ hown hnm X0 e0 Br Bs
  have N0 := Fr.nil n0
  have tt := own_tt hx hby own_ok7
  rw [ef_rm7a40 m b2 a123]
  refine own_go (T' := s₁) (f' := (mkF m 2 #[oR b2, oR a123] [vR a123, vR b2])) (fun _ k => own_e X0 tt 0 2 k rfl) ?_
  obtain ⟨_, T187, Lc187, X187, hQ187, st187⟩ := own_out (superBack X0 hx hZ (y := mn15) hown (ow48 hw) (own_same (y := mn15) (y2 := mn11) (ow71 hw) rfl (ow49 hw) (by decide)) (ow49 hw) (ow50 hw) (by decide) (backOf (W := 0) (rm8a41 l Z a0 hw [] b2 a123 cs b66a i169 k66b us117a b123 kc123 h0 n0 Z0 PS0 PE9 PF10 PF11 PF12 PV19 PE21 PF22 PF23 PV24 PP0 PP3 PP4 PP5 ne_b2_b66a ne_b66a_b2 n_b2 n_b66a pr_len_us117a) hZ (ow52 hw) (ow25 hw) (by decide) (by decide)) e0 (Ins.self PE9) (g := (mkF m 2 #[oR b2, oR a123] [vR a123, vR b2])) rfl (by rw [hml]; rfl) (ow52 hw) (argsL := [(.ref a123)]) (rest := []) (lenOf pd22 rfl) rfl (by show 2 * 0 + _ ≤ _; exact Nat.le_of_eq rfl) (hb hby d7_2) (fun _ _ => ⟨rfl, e0, (by decide : 0 + 0 ≤ _), (by decide : 0 + 0 ≤ _)⟩))
  obtain ⟨us187a, rfl, N187q, K187, g187_0, g187_1, g187_2, g187_3, g187_4⟩ := hQ187
  have N187 := Fr.app N0 N187q
  have eK187 : T187.heap = T187.heap := rfl
  have KK187 : Keep h0 T187.heap [b2, b66a] := Keep.trans (Keep.refl h0 [b2, b66a]) K187 (allS (Or.inl (List.mem_of_getElem? (i := 1) rfl)) (allS (Or.inl (List.mem_of_getElem? (i := 0) rfl)) all0))
  obtain ⟨_, X187, N187⟩ := own_hide X187 N187
  refine own_go (T' := T187) (f' := (mkF m 7 #[oR b2, oR a123] [vR b2])) (fun _ k => st187.trans (own_e X187 tt 5 2 k rfl)) ?_
  refine own_ret X187 (v := some (.ref b2)) (fun h => by rw [Br] at h; cases h) Bs (fun fs hr => own_retA X187 hx Br rfl rfl (hb hby d7_7) hr) ?_ (by decide) (by decide)
  show Q7a40 Z b2 a123 cs b66a i169 k66b us117a b123 kc123 h0 n0 _ T187.heap _
  rw [eK187]
  exact ⟨us187a, rfl, N187, KK187, g187_1, g187_2, g187_3, g187_0, g187_4⟩
theorem ef_rm2a60 (m : MethodId) (i232 : Int32) : entryFrame m #[(.int i232), (.int (36 : Int32))] 2 = mkF m 0 #[.val (.int i232), .val (.int (36 : Int32))] [] := by first | (simp [entryFrame, mkF, argsToLocals, Value.category]; done) | rfl
def Q2a60 (Z : State) (i232 : Int32) (h0 : Heap) (n0 : Nat) (v : Option Value) (h : Heap) (L : List Loc) : Prop := v = some (.int (36 : Int32)) ∧ Fr n0 L ∧ h = h0
set_option maxRecDepth 65536 in
set_option maxHeartbeats 40000000 in
theorem rm2a60 (l : Launch) (Z : State) (a0 : Array Value) (hw : ∀ d ∈ tables_1, d.before a0 Z = true) (ws : List Jvm.Cond) (i232 : Int32) (h0 : Heap) (n0 : Nat) (Z0 : n0 ≤ h0.size) (PP2 : i232 < (36 : Int32)) :
    own_Met l mn1 jdk_29_method_65_code 2 (some .int) ws (oRm 0 0 0 0) #[(.int i232), (.int (36 : Int32))] Z h0 (Q2a60 Z i232 h0 n0) := by
  refine own_met (own := "java/lang/Math") rfl (Jvm.Free.JP.mathPlain rfl (by decide +kernel)) ?_
  intro p e s m below meth c s₁ hx hby hml hZ hown hnm X0 e0 Br Bs
  have N0 := Fr.nil n0
  have tt := own_tt hx hby own_ok2
  rw [ef_rm2a60 m i232]
  refine own_go (T' := s₁) (f' := (mkF m 10 #[.val (.int i232), oI 36] [vI 36])) (fun _ k => own_r X0 tt 0 2 rfl (XS.icmpYes X0.here hx rfl (pc0 := 2) (pc' := 9) rfl (hb hby d2_2) rfl (tlt PP2).1 (by decide) (by decide) (own_e X0 tt 9 1 k rfl))) ?_
  refine own_ret X0 (v := some (.int (36 : Int32))) (fun h => by rw [Br] at h; cases h) Bs (fun fs hr => retI X0 hx Br (hb hby d2_10) hr) ?_ (by decide) (by decide)
  show Q2a60 Z i232 h0 n0 _ s₁.heap _
  exact ⟨rfl, N0, e0⟩
theorem ef_rm13a59 (m : MethodId) (i232 : Int32) : entryFrame m #[(.int (34 : Int32)), (.int i232), (.int (36 : Int32))] 4 = mkF m 0 #[.val (.int (34 : Int32)), .val (.int i232), .val (.int (36 : Int32)), .unset] [] := by first | (simp [entryFrame, mkF, argsToLocals, Value.category]; done) | rfl
def Q13a59 (Z : State) (i232 : Int32) (h0 : Heap) (n0 : Nat) (v : Option Value) (h : Heap) (L : List Loc) : Prop := v = some (.int (70 : Int32)) ∧ Fr n0 L ∧ h = h0
set_option maxRecDepth 65536 in
set_option maxHeartbeats 40000000 in
theorem rm13a59 (l : Launch) (Z : State) (a0 : Array Value) (hw : ∀ d ∈ tables_1, d.before a0 Z = true) (ws : List Jvm.Cond) (i232 : Int32) (h0 : Heap) (n0 : Nat) (Z0 : n0 ≤ h0.size) (PP2 : i232 < (36 : Int32)) :
    own_Met l mn8 jdk_48_method_27_code 4 (some .int) ws (oRm 1 0 0 14) #[(.int (34 : Int32)), (.int i232), (.int (36 : Int32))] Z h0 (Q13a59 Z i232 h0 n0) := by
  refine own_met (own := "jdk/internal/util/ArraysSupport") rfl (plainFor_of_name pn_12) ?_
  intro p e s m below meth c s₁ hx hby hml hZ hown hnm X0 e0 Br Bs
  have N0 := Fr.nil n0
  have tt := own_tt hx hby own_ok13
  rw [ef_rm13a59 m i232]
  refine own_go (T' := s₁) (f' := (mkF m 3 #[oI 34, .val (.int i232), oI 36, oU] [vI 36, (.int i232), vI 34])) (fun _ k => own_e X0 tt 0 3 k rfl) ?_
  obtain ⟨_, T233, Lc233, X233, hQ233, st233⟩ := own_outC (Jvm.LawKit.callS X0 hx (y := mn1) hown (mvT hZ (ow82 hw)) (mvT hZ (ow6 hw)) (mvT hZ (ow3 hw)) (mvT hZ (ow7 hw)) (by decide) (backOf (W := 1) (rm2a60 l Z a0 hw [] i232 h0 n0 Z0 PP2) hZ (ow7 hw) (ow3 hw) (by decide) (by decide)) (g := (mkF m 3 #[oI 34, .val (.int i232), oI 36, oU] [vI 36, (.int i232), vI 34])) rfl (by rw [hml]; rfl) (argsL := [(.int i232), (.int (36 : Int32))]) (rest := [(.int (34 : Int32))]) (lenOf pd12 rfl) rfl (by show 2 * 0 + _ ≤ _; exact Nat.le_of_eq rfl) (hb hby d13_3) (fun _ _ => ⟨rfl, e0, (by decide : 0 + 0 ≤ _), (by decide : 0 + 0 ≤ _)⟩))
  obtain ⟨rfl, N233q, hh233⟩ := hQ233
  have N233 := Fr.app N0 N233q
  obtain ⟨_, X233, N233⟩ := own_hide X233 N233
  refine own_go (T' := T233) (f' := (mkF m 20 #[oI 34, .val (.int i232), oI 36, oI 70] [vI 70])) (fun _ k => st233 _ (own_r X233 tt 6 6 rfl (X233.ldcInt hx hown (mvT hZ (ow83 hw)) (g := (mkF m 14 #[oI 34, .val (.int i232), oI 36, oI 70] [vI 70])) rfl (hb hby d13_14) _ (own_e X233 tt 16 2 k rfl)))) ?_
  refine own_ret X233 (v := some (.int (70 : Int32))) (fun h => by rw [Br] at h; cases h) Bs (fun fs hr => retI X233 hx Br (hb hby d13_20) hr) ?_ (by decide) (by decide)
  show Q13a59 Z i232 h0 n0 _ T233.heap _
  exact ⟨rfl, N233, hh233⟩
theorem ef_rm12a58 (m : MethodId) (b2 : Addr) (i225 : Int32) : entryFrame m #[(.ref b2), (.int i225)] 6 = mkF m 0 #[.val (.ref b2), .val (.int i225), .unset, .unset, .unset, .unset] [] := by first | (simp [entryFrame, mkF, argsToLocals, Value.category]; done) | rfl
def Q12a58 (Z : State) (b2 : Addr) (i225 : Int32) (b66a : Addr) (k66b : ClassId) (us188a : List Value) (h0 : Heap) (n0 : Nat) (v : Option Value) (h : Heap) (L : List Loc) : Prop := v = some (.int (70 : Int32)) ∧ Fr n0 L ∧ h = h0
set_option maxRecDepth 65536 in
set_option maxHeartbeats 40000000 in
theorem rm12a58 (l : Launch) (Z : State) (a0 : Array Value) (hw : ∀ d ∈ tables_1, d.before a0 Z = true) (ws : List Jvm.Cond) (b2 : Addr) (i225 : Int32) (b66a : Addr) (k66b : ClassId) (us188a : List Value) (h0 : Heap) (n0 : Nat) (Z0 : n0 ≤ h0.size) (PF10 : Fld Z h0 b2 "java/lang/AbstractStringBuilder" "value" "[B" (.ref b66a)) (PF11 : Fld Z h0 b2 "java/lang/AbstractStringBuilder" "coder" "B" (.int (0 : Int32))) (PV19 : Arv Z h0 b66a k66b .byte (34 : Int32) us188a (.int (0 : Int32))) (PP3 : ((i225 <<< ((0 : Int32) &&& 31)) - (34 : Int32)) < (36 : Int32)) :
    own_Met l mn9 jdk_68_method_10_code 6 (some .int) ws (oRm 2 0 0 29) #[(.ref b2), (.int i225)] Z h0 (Q12a58 Z b2 i225 b66a k66b us188a h0 n0) := by
  refine own_met (own := "java/lang/AbstractStringBuilder") rfl (plainFor_of_name pn_3) ?_
  intro p e s m below meth c s₁ hx hby hml hZ hown hnm X0 e0 Br Bs
  have N0 := Fr.nil n0
  have tt := own_tt hx hby own_ok12
  rw [ef_rm12a58 m b2 i225]
  refine own_go (T' := s₁) (f' := (mkF m 1 #[oR b2, .val (.int i225), oU, oU, oU, oU] [vR b2])) (fun _ k => own_e X0 tt 0 1 k rfl) ?_
  obtain ⟨T229, X229, e229, st229⟩ := getF X0 hx hZ hown (host := "") (Or.inl (ow33 hw)) Via.refl e0 PF10 (g := (mkF m 1 #[oR b2, .val (.int i225), oU, oU, oU, oU] [vR b2])) rfl rfl (hb hby d12_1)
  refine own_go (T' := T229) (f' := (mkF m 8 #[oR b2, .val (.int i225), oI 34, oU, oU, oU] [vR b2, (.int i225)])) (fun _ k => st229 _ (own_alen X229 hx hZ e229 PV19 rfl rfl (hb hby d12_4) (own_e X229 tt 5 3 k rfl))) ?_
  obtain ⟨T230, X230, e230, st230⟩ := getF X229 hx hZ hown (host := "") (Or.inl (ow35 hw)) Via.refl e229 PF11 (g := (mkF m 8 #[oR b2, .val (.int i225), oI 34, oU, oU, oU] [vR b2, (.int i225)])) rfl rfl (hb hby d12_8)
  refine own_go (T' := T230) (f' := (mkF m 24 #[oR b2, .val (.int i225), oI 34, .val (.int (i225 <<< ((0 : Int32) &&& 31))), .val (.int ((i225 <<< ((0 : Int32) &&& 31)) - (34 : Int32))), oU] [vR b2, vI 2, vI 34, (.int ((i225 <<< ((0 : Int32) &&& 31)) - (34 : Int32))), vI 34])) (fun _ k => st230 _ (own_e X230 tt 11 11 k rfl)) ?_
  obtain ⟨T231, X231, e231, st231⟩ := getF X230 hx hZ hown (host := "") (Or.inl (ow35 hw)) Via.refl e230 PF11 (g := (mkF m 24 #[oR b2, .val (.int i225), oI 34, .val (.int (i225 <<< ((0 : Int32) &&& 31))), .val (.int ((i225 <<< ((0 : Int32) &&& 31)) - (34 : Int32))), oU] [vR b2, vI 2, vI 34, (.int ((i225 <<< ((0 : Int32) &&& 31)) - (34 : Int32))), vI 34])) rfl rfl (hb hby d12_24)
  refine own_go (T' := T231) (f' := (mkF m 29 #[oR b2, .val (.int i225), oI 34, .val (.int (i225 <<< ((0 : Int32) &&& 31))), .val (.int ((i225 <<< ((0 : Int32) &&& 31)) - (34 : Int32))), oU] [vI 36, (.int ((i225 <<< ((0 : Int32) &&& 31)) - (34 : Int32))), vI 34])) (fun _ k => st231 _ (own_e X231 tt 27 2 k rfl)) ?_
  obtain ⟨_, T234, Lc234, X234, hQ234, st234⟩ := own_outC (Jvm.LawKit.callS X231 hx (y := mn8) hown (mvT hZ (ow78 hw)) (mvT hZ (ow79 hw)) (mvT hZ (ow80 hw)) (mvT hZ (ow81 hw)) (by decide) (backOf (W := 0) (rm13a59 l Z a0 hw [] ((i225 <<< ((0 : Int32) &&& 31)) - (34 : Int32)) h0 n0 Z0 PP3) hZ (ow81 hw) (ow80 hw) (by decide) (by decide)) (g := (mkF m 29 #[oR b2, .val (.int i225), oI 34, .val (.int (i225 <<< ((0 : Int32) &&& 31))), .val (.int ((i225 <<< ((0 : Int32) &&& 31)) - (34 : Int32))), oU] [vI 36, (.int ((i225 <<< ((0 : Int32) &&& 31)) - (34 : Int32))), vI 34])) rfl (by rw [hml]; rfl) (argsL := [(.int (34 : Int32)), (.int ((i225 <<< ((0 : Int32) &&& 31)) - (34 : Int32))), (.int (36 : Int32))]) (rest := []) (lenOf pd15 rfl) rfl (by show 2 * 0 + _ ≤ _; exact Nat.le_of_eq rfl) (hb hby d12_29) (fun _ _ => ⟨rfl, e231, (by decide : 0 + 0 ≤ _), (by decide : 0 + 0 ≤ _)⟩))
  obtain ⟨rfl, N234q, hh234⟩ := hQ234
  have N234 := Fr.app N0 N234q
  obtain ⟨_, X234, N234⟩ := own_hide X234 N234
  refine own_go (T' := T234) (f' := (mkF m 54 #[oR b2, .val (.int i225), oI 34, .val (.int (i225 <<< ((0 : Int32) &&& 31))), .val (.int ((i225 <<< ((0 : Int32) &&& 31)) - (34 : Int32))), oI 70] [vR b2, vI 70])) (fun _ k => st234 _ (own_r X234 tt 32 2 rfl (X234.ldcInt hx hown (mvT hZ (ow84 hw)) (g := (mkF m 36 #[oR b2, .val (.int i225), oI 34, .val (.int (i225 <<< ((0 : Int32) &&& 31))), .val (.int ((i225 <<< ((0 : Int32) &&& 31)) - (34 : Int32))), oI 70] [vI 70])) rfl (hb hby d12_36) _ (own_e X234 tt 38 3 k rfl)))) ?_
  obtain ⟨T235, X235, e235, st235⟩ := getF X234 hx hZ hown (host := "") (Or.inl (ow35 hw)) Via.refl hh234 PF11 (g := (mkF m 54 #[oR b2, .val (.int i225), oI 34, .val (.int (i225 <<< ((0 : Int32) &&& 31))), .val (.int ((i225 <<< ((0 : Int32) &&& 31)) - (34 : Int32))), oI 70] [vR b2, vI 70])) rfl rfl (hb hby d12_54)
  refine own_go (T' := T235) (f' := (mkF m 58 #[oR b2, .val (.int i225), oI 34, .val (.int (i225 <<< ((0 : Int32) &&& 31))), .val (.int ((i225 <<< ((0 : Int32) &&& 31)) - (34 : Int32))), oI 70] [vI 70])) (fun _ k => st235 _ (own_e X235 tt 57 1 k rfl)) ?_
  refine own_ret X235 (v := some (.int (70 : Int32))) (fun h => by rw [Br] at h; cases h) Bs (fun fs hr => retI X235 hx Br (hb hby d12_58) hr) ?_ (by decide) (by decide)
  show Q12a58 Z b2 i225 b66a k66b us188a h0 n0 _ T235.heap _
  exact ⟨rfl, N234, e235⟩
theorem ef_rm1a62 (m : MethodId)  : entryFrame m #[(.int (34 : Int32)), (.int (70 : Int32))] 2 = mkF m 0 #[.val (.int (34 : Int32)), .val (.int (70 : Int32))] [] := by first | (simp [entryFrame, mkF, argsToLocals, Value.category]; done) | rfl
def Q1a62 (Z : State)  (h0 : Heap) (n0 : Nat) (v : Option Value) (h : Heap) (L : List Loc) : Prop := v = some (.int (34 : Int32)) ∧ Fr n0 L ∧ h = h0
set_option maxRecDepth 65536 in
set_option maxHeartbeats 40000000 in
theorem rm1a62 (l : Launch) (Z : State) (a0 : Array Value) (hw : ∀ d ∈ tables_1, d.before a0 Z = true) (ws : List Jvm.Cond)  (h0 : Heap) (n0 : Nat) (Z0 : n0 ≤ h0.size) :
    own_Met l mn0 jdk_29_method_69_code 2 (some .int) ws (oRm 0 0 0 0) #[(.int (34 : Int32)), (.int (70 : Int32))] Z h0 (Q1a62 Z  h0 n0) := by
  refine own_met (own := "java/lang/Math") rfl (Jvm.Free.JP.mathPlain rfl (by decide +kernel)) ?_
  intro p e s m below meth c s₁ hx hby hml hZ hown hnm X0 e0 Br Bs
  have N0 := Fr.nil n0
  have tt := own_tt hx hby own_ok1
  rw [ef_rm1a62 m ]
  refine own_go (T' := s₁) (f' := (mkF m 10 #[oI 34, oI 70] [vI 34])) (fun _ k => own_e X0 tt 0 5 k rfl) ?_
  refine own_ret X0 (v := some (.int (34 : Int32))) (fun h => by rw [Br] at h; cases h) Bs (fun fs hr => retI X0 hx Br (hb hby d1_10) hr) ?_ (by decide) (by decide)
  show Q1a62 Z  h0 n0 _ s₁.heap _
  exact ⟨rfl, N0, e0⟩
theorem ef_rm14a61 (m : MethodId) (b66a : Addr) : entryFrame m #[(.ref b66a), (.int (70 : Int32))] 3 = mkF m 0 #[.val (.ref b66a), .val (.int (70 : Int32)), .unset] [] := by first | (simp [entryFrame, mkF, argsToLocals, Value.category]; done) | rfl
def Q14a61 (Z : State) (b66a : Addr) (k66b : ClassId) (us188a : List Value) (h0 : Heap) (n0 : Nat) (v : Option Value) (h : Heap) (L : List Loc) : Prop := ∃ (b238 : Addr) (k238 : ClassId) (us240 : List Value), v = some (.ref b238) ∧ Fr n0 L ∧ Keep h0 h [] ∧ n0 ≤ b238 ∧ h0.size ≤ b238 ∧ Arv Z h b238 k238 .byte (70 : Int32) us240 (.int (0 : Int32)) ∧ Exa Z h b238 "[B" ∧ us240.length = ((70 : Int32)).toNatClampNeg
set_option maxRecDepth 65536 in
set_option maxHeartbeats 40000000 in
theorem rm14a61 (l : Launch) (Z : State) (a0 : Array Value) (hw : ∀ d ∈ tables_1, d.before a0 Z = true) (ws : List Jvm.Cond) (b66a : Addr) (k66b : ClassId) (us188a : List Value) (h0 : Heap) (n0 : Nat) (Z0 : n0 ≤ h0.size) (PV19 : Arv Z h0 b66a k66b .byte (34 : Int32) us188a (.int (0 : Int32))) :
    own_Met l mn10 jdk_65_method_121_code 3 (some (.array .byte)) ws (oRm 1 1 70 18) #[(.ref b66a), (.int (70 : Int32))] Z h0 (Q14a61 Z b66a k66b us188a h0 n0) := by
  refine own_met (own := "java/util/Arrays") rfl (plainFor_of_name pn_11) ?_
  intro p e s m below meth c s₁ hx hby hml hZ hown hnm X0 e0 Br Bs
  have N0 := Fr.nil n0
  have tt := own_tt hx hby own_ok14
  rw [ef_rm14a61 m b66a]
  refine own_go (T' := s₁) (f' := (mkF m 15 #[oR b66a, oI 70, oU] [vI 70])) (fun _ k => own_r X0 tt 0 2 rfl (own_alen X0 hx hZ e0 PV19 rfl rfl (hb hby d14_2) (own_e X0 tt 3 2 k rfl))) ?_
  obtain ⟨T238, h238, k238, X238, e238, E238, A238, EA238, st238⟩ := newPE (aty := .byte) X0 hx hZ (ow32 hw) e0 (g := (mkF m 15 #[oR b66a, oI 70, oU] [vI 70])) rfl (hb hby d14_15) rfl (by decide) (cap := 70) (by decide) (by decide) (by decide) (by decide) (ad := "[B") (by decide +kernel)
  obtain ⟨b238, g_b238⟩ : ∃ z, z = h0.size := ⟨_, rfl⟩
  have sg_b238 : h0.size ≤ b238 := Nat.le_of_eq g_b238.symm
  rw [← g_b238] at A238 EA238 st238
  have n_b238 : n0 ≤ b238 := Nat.le_trans Z0 (Nat.le_of_eq g_b238.symm)
  have sz_b238 : h0.size ≤ b238 := Nat.le_trans (Keep.refl h0 []).1 (Nat.le_of_eq g_b238.symm)
  have K238 : Keep h0 h238 [] := (Keep.refl h0 []).ext E238
  have V_b238 : Arv Z h238 b238 k238 .byte (70 : Int32) [] (.int (0 : Int32)) := Arv.new A238 (by decide)
  obtain ⟨us238, hl238, Vo238⟩ := own_open V_b238
  refine own_go (T' := T238) (f' := (mkF m 25 #[oR b66a, oI 70, oR b238] [vI 70, vI 34, vI 0, vR b238, vI 0, vR b66a])) (fun _ k => st238 _ (own_r X238 tt 17 6 rfl (own_alen X238 hx hZ e238 (PV19.ext E238) rfl rfl (hb hby d14_23) (own_e X238 tt 24 1 k rfl)))) ?_
  obtain ⟨_, T239, Lc239, X239, hQ239, st239⟩ := own_outC (Jvm.LawKit.callS X238 hx (y := mn0) hown (mvT hZ (ow89 hw)) (mvT hZ (ow2 hw)) (mvT hZ (ow3 hw)) (mvT hZ (ow4 hw)) (by decide) (backOf (W := 4) (rm1a62 l Z a0 hw []  h238 n0 (Nat.le_trans Z0 E238.1) ) hZ (ow4 hw) (ow3 hw) (by decide) (by decide)) (g := (mkF m 25 #[oR b66a, oI 70, oR b238] [vI 70, vI 34, vI 0, vR b238, vI 0, vR b66a])) rfl (by rw [hml]; rfl) (argsL := [(.int (34 : Int32)), (.int (70 : Int32))]) (rest := [(.int (0 : Int32)), (.ref b238), (.int (0 : Int32)), (.ref b66a)]) (lenOf pd12 rfl) rfl (by show 2 * 0 + _ ≤ _; exact Nat.le_of_eq rfl) (hb hby d14_25) (fun _ _ => ⟨rfl, e238, (by decide : 1 + 0 ≤ _), (by decide : 70 + 0 ≤ _)⟩))
  obtain ⟨rfl, N239q, hh239⟩ := hQ239
  have N239 := Fr.app N0 N239q
  obtain ⟨_, X239, N239⟩ := own_hide X239 N239
  refine own_go (T' := T239) (f' := (mkF m 28 #[oR b66a, oI 70, oR b238] [vI 34, vI 0, vR b238, vI 0, vR b66a])) (fun _ k => st239 _ k) ?_
  obtain ⟨T240, h240, Lq240, X240, e240, N240, K240, V240, st240⟩ := cpA X239 hx hZ hown (ow90 hw) (ow93 hw) (ow91 hw) (ow92 hw) hh239 (PV19.ext E238) Vo238 (Or.inl ⟨rfl, rfl⟩) (sp := (0 : Int32)) (dp := (0 : Int32)) (nn := (34 : Int32)) (by decide) (by decide) (by decide) (by decide) (by decide) rfl (by rw [hl238]; exact (by decide)) N239 n_b238 (g := (mkF m 28 #[oR b66a, oI 70, oR b238] [vI 34, vI 0, vR b238, vI 0, vR b66a])) rfl (by rw [hml]; rfl) rfl (hb hby d14_28) (by decide) (W := 0) (by show 2 * 0 + _ ≤ _; exact Nat.le_of_eq rfl) (by decide)
  obtain ⟨us240, hl240, Vo240⟩ := own_open V240
  have KK240 : Keep h0 h240 [] := Keep.trans K238 K240 (allS (Or.inr sz_b238) all0)
  refine own_go (T' := T240) (f' := (mkF m 32 #[oR b66a, oI 70, oR b238] [vR b238])) (fun _ k => st240 _ (own_e X240 tt 31 1 k rfl)) ?_
  refine own_ret X240 (v := some (.ref b238)) (fun h => by rw [Br] at h; cases h) Bs (fun fs hr => own_retA X240 hx Br rfl rfl (hb hby d14_32) hr) ?_ (by decide) (by decide)
  show Q14a61 Z b66a k66b us188a h0 n0 _ T240.heap _
  rw [e240]
  exact ⟨b238, k238, us240, rfl, N240, KK240, n_b238, sz_b238, Vo240, (EA238.keep K240), hl240⟩
theorem ef_rm11a57 (m : MethodId) (b2 : Addr) (i225 : Int32) : entryFrame m #[(.ref b2), (.int i225)] 3 = mkF m 0 #[.val (.ref b2), .val (.int i225), .unset] [] := by first | (simp [entryFrame, mkF, argsToLocals, Value.category]; done) | rfl
def Q11a57 (Z : State) (b2 : Addr) (i225 : Int32) (b66a : Addr) (i222 : Int32) (k66b : ClassId) (us188a : List Value) (h0 : Heap) (n0 : Nat) (v : Option Value) (h : Heap) (L : List Loc) : Prop := ∃ (b241a : Addr) (k241b : ClassId) (us241c : List Value), v = none ∧ Fr n0 L ∧ Keep h0 h [b2] ∧ n0 ≤ b241a ∧ h0.size ≤ b241a ∧ Fld Z h b2 "java/lang/AbstractStringBuilder" "value" "[B" (.ref b241a) ∧ Fld Z h b2 "java/lang/AbstractStringBuilder" "coder" "B" (.int (0 : Int32)) ∧ Fld Z h b2 "java/lang/AbstractStringBuilder" "count" "I" (.int i222) ∧ Arv Z h b241a k241b .byte (70 : Int32) us241c (.int (0 : Int32)) ∧ Exa Z h b241a "[B" ∧ us241c.length = ((70 : Int32)).toNatClampNeg
set_option maxRecDepth 65536 in
set_option maxHeartbeats 40000000 in
theorem rm11a57 (l : Launch) (Z : State) (a0 : Array Value) (hw : ∀ d ∈ tables_1, d.before a0 Z = true) (ws : List Jvm.Cond) (b2 : Addr) (i225 : Int32) (b66a : Addr) (i222 : Int32) (k66b : ClassId) (us188a : List Value) (h0 : Heap) (n0 : Nat) (Z0 : n0 ≤ h0.size) (PE9 : Exa Z h0 b2 "java/lang/StringBuilder") (PF10 : Fld Z h0 b2 "java/lang/AbstractStringBuilder" "value" "[B" (.ref b66a)) (PF11 : Fld Z h0 b2 "java/lang/AbstractStringBuilder" "coder" "B" (.int (0 : Int32))) (PF12 : Fld Z h0 b2 "java/lang/AbstractStringBuilder" "count" "I" (.int i222)) (PV19 : Arv Z h0 b66a k66b .byte (34 : Int32) us188a (.int (0 : Int32))) (PP2 : (0 : Int32) < (i225 - (34 : Int32))) (PP3 : ((i225 <<< ((0 : Int32) &&& 31)) - (34 : Int32)) < (36 : Int32)) (n_b2 : n0 ≤ b2) :
    own_Met l mn11 jdk_68_method_9_code 3 none ws (oRm 3 1 70 48) #[(.ref b2), (.int i225)] Z h0 (Q11a57 Z b2 i225 b66a i222 k66b us188a h0 n0) := by
  refine own_met (own := "java/lang/AbstractStringBuilder") rfl (plainFor_of_name pn_3) ?_
  intro p e s m below meth c s₁ hx hby hml hZ hown hnm X0 e0 Br Bs
  have N0 := Fr.nil n0
  have tt := own_tt hx hby own_ok11
  rw [ef_rm11a57 m b2 i225]
  refine own_go (T' := s₁) (f' := (mkF m 1 #[oR b2, .val (.int i225), oU] [vR b2])) (fun _ k => own_e X0 tt 0 1 k rfl) ?_
  obtain ⟨T226, X226, e226, st226⟩ := getF X0 hx hZ hown (host := "") (Or.inl (ow33 hw)) Via.refl e0 PF10 (g := (mkF m 1 #[oR b2, .val (.int i225), oU] [vR b2])) rfl rfl (hb hby d11_1)
  refine own_go (T' := T226) (f' := (mkF m 6 #[oR b2, .val (.int i225), oU] [vR b2, vI 34])) (fun _ k => st226 _ (own_alen X226 hx hZ e226 PV19 rfl rfl (hb hby d11_4) (own_e X226 tt 5 1 k rfl))) ?_
  obtain ⟨T227, X227, e227, st227⟩ := getF X226 hx hZ hown (host := "") (Or.inl (ow35 hw)) Via.refl e226 PF11 (g := (mkF m 6 #[oR b2, .val (.int i225), oU] [vR b2, vI 34])) rfl rfl (hb hby d11_6)
  refine own_go (T' := T227) (f' := (mkF m 19 #[oR b2, .val (.int i225), oI 34] [vR b2, vR b2])) (fun _ k => st227 _ (own_r X227 tt 9 5 rfl (XS.ifNo X227.here hx rfl (hb hby d11_14) rfl ((if0 _ _).trans (tlt PP2).2.2.2) (own_e X227 tt 17 2 k rfl)))) ?_
  obtain ⟨T228, X228, e228, st228⟩ := getF X227 hx hZ hown (host := "") (Or.inl (ow33 hw)) Via.refl e227 PF10 (g := (mkF m 19 #[oR b2, .val (.int i225), oI 34] [vR b2, vR b2])) rfl rfl (hb hby d11_19)
  refine own_go (T' := T228) (f' := (mkF m 24 #[oR b2, .val (.int i225), oI 34] [(.int i225), vR b2, vR b66a, vR b2])) (fun _ k => st228 _ (own_e X228 tt 22 2 k rfl)) ?_
  obtain ⟨cq236, q236, q236'⟩ := PE9.cell
  obtain ⟨_, T236, Lc236, X236, hQ236, st236⟩ := own_out (X228.privateBack hx (y := mn9) hown (mvT hZ (ow73 hw)) (mvT hZ (ow74 hw)) (own_selp (mvT hZ (ow76 hw)) (Cond.privateMethod_at (mvP hZ (ow75 hw) (args := #[]))) (mvT hZ (ow74 hw)) (by decide)) (Cond.privateMethod_at (mvP hZ (ow75 hw) (args := #[]))) (mvT hZ (ow77 hw)) (by decide) (backOf (W := 2) (rm12a58 l Z a0 hw [] b2 i225 b66a k66b us188a h0 n0 Z0 PF10 PF11 PV19 PP3) hZ (ow77 hw) (ow25 hw) (by decide) (by decide)) (g := (mkF m 24 #[oR b2, .val (.int i225), oI 34] [(.int i225), vR b2, vR b66a, vR b2])) rfl (by rw [hml]; rfl) (Steps.refl _) (a := b2) (by rw [e228]; exact q236) q236' (argsL := [(.int i225)]) (rest := [(.ref b66a), (.ref b2)]) (lenOf pd8 rfl) rfl (by show 2 * 0 + _ ≤ _; exact Nat.le_of_eq rfl) (hb hby d11_24) (fun _ _ => ⟨rfl, e228, (by decide : 0 + 0 ≤ _), (by decide : 0 + 0 ≤ _)⟩))
  obtain ⟨rfl, N236q, hh236⟩ := hQ236
  have N236 := Fr.app N0 N236q
  obtain ⟨_, X236, N236⟩ := own_hide X236 N236
  refine own_go (T' := T236) (f' := (mkF m 28 #[oR b2, .val (.int i225), oI 34] [vR b2, vI 70, vR b66a, vR b2])) (fun _ k => st236.trans (own_e X236 tt 27 1 k rfl)) ?_
  obtain ⟨T237, X237, e237, st237⟩ := getF X236 hx hZ hown (host := "") (Or.inl (ow35 hw)) Via.refl hh236 PF11 (g := (mkF m 28 #[oR b2, .val (.int i225), oI 34] [vR b2, vI 70, vR b66a, vR b2])) rfl rfl (hb hby d11_28)
  refine own_go (T' := T237) (f' := (mkF m 32 #[oR b2, .val (.int i225), oI 34] [vI 70, vR b66a, vR b2])) (fun _ k => st237 _ (own_e X237 tt 31 1 k rfl)) ?_
  obtain ⟨_, T241, Lc241, X241, hQ241, st241⟩ := own_outC (Jvm.LawKit.callS X237 hx (y := mn10) hown (mvT hZ (ow85 hw)) (mvT hZ (ow86 hw)) (mvT hZ (ow87 hw)) (mvT hZ (ow88 hw)) (by decide) (backOf (W := 1) (rm14a61 l Z a0 hw [] b66a k66b us188a h0 n0 Z0 PV19) hZ (ow88 hw) (ow87 hw) (by decide) (by decide)) (g := (mkF m 32 #[oR b2, .val (.int i225), oI 34] [vI 70, vR b66a, vR b2])) rfl (by rw [hml]; rfl) (argsL := [(.ref b66a), (.int (70 : Int32))]) (rest := [(.ref b2)]) (lenOf pd27 rfl) rfl (by show 2 * 0 + _ ≤ _; exact Nat.le_of_eq rfl) (hb hby d11_32) (fun _ _ => ⟨rfl, e237, (by decide : 0 + 1 ≤ _), (by decide : 0 + 70 ≤ _)⟩))
  obtain ⟨b241a, k241b, us241c, rfl, N241q, K241, n_b241a, sg_b241a, g241_0, g241_1, g241_2⟩ := hQ241
  have N241 := Fr.app N236 N241q
  have sz_b241a : h0.size ≤ b241a := Nat.le_trans (Keep.refl h0 [b2]).1 sg_b241a
  have eK241 : T241.heap = T241.heap := rfl
  have KK241 : Keep h0 T241.heap [b2] := Keep.trans (Keep.refl h0 [b2]) K241 all0
  obtain ⟨_, X241, N241⟩ := own_hide X241 N241
  refine own_go (T' := T241) (f' := (mkF m 35 #[oR b2, .val (.int i225), oI 34] [vR b241a, vR b2])) (fun _ k => st241 _ k) ?_
  obtain ⟨T242, h242, X242, e242, W242, st242⟩ := putF X241 hx hZ hown (host := "") (Or.inl (ow33 hw)) Via.refl eK241 (PF10.keep K241 nin0) (PE9.keep K241) (Or.inl (ow34 hw)) (ow16 hw) (ty := (.array .byte)) (by decide) rfl rfl (g := (mkF m 35 #[oR b2, .val (.int i225), oI 34] [vR b241a, vR b2])) rfl rfl (hb hby d11_35)
  have Fw242 := Fld.same W242 (PF10.keep K241 nin0)
  have K242 : Keep h0 h242 [b2] := KK241.wr W242 (Or.inl (List.mem_of_getElem? (i := 0) rfl))
  have N242 := Fr.snoc X242 N241 n_b2
  refine own_go (T' := T242) (f' := (mkF m 38 #[oR b2, .val (.int i225), oI 34] [])) (fun _ k => st242 _ k) ?_
  refine own_ret X242 (v := none) (fun _ => rfl) Bs (fun fs hr => X242.returnOut hx Br (hb hby d11_38) hr) ?_ (by decide) (by decide)
  show Q11a57 Z b2 i225 b66a i222 k66b us188a h0 n0 _ T242.heap _
  have G243 := ((PF11.keep K241 nin0).other W242 (Or.inr (slot_ne (Or.inl (ow36 hw)) (Or.inl (ow34 hw)) (by decide) (t := .byte) (t' := (.array .byte)) (by decide) (by decide))))
  have G244 := ((PF12.keep K241 nin0).other W242 (Or.inr (slot_ne (Or.inl (ow67 hw)) (Or.inl (ow34 hw)) (by decide) (t := .int) (t' := (.array .byte)) (by decide) (by decide))))
  have q245 : b241a ≠ b2 := (Ne.symm (Nat.ne_of_lt (Nat.lt_of_lt_of_le PE9.lt sz_b241a)))
  rw [e242]
  exact ⟨b241a, k241b, us241c, rfl, N242, K242, n_b241a, sz_b241a, Fw242, G243, G244, (g241_0.other W242 q245), (g241_1.wr W242), g241_2⟩
theorem ef_rm19a66 (m : MethodId) (b2 : Addr) (y1 : Int32) : entryFrame m #[(.ref b2), (.int y1)] 4 = mkF m 0 #[.val (.ref b2), .val (.int y1), .unset, .unset] [] := by first | (simp [entryFrame, mkF, argsToLocals, Value.category]; done) | rfl
def Q19a66 (Z : State) (b2 : Addr) (y1 : Int32) (cs : Int32) (wd : Addr) (kd : ClassId) (vd : List Value) (wt : Addr) (kt : ClassId) (vt : List Value) (b66a : Addr) (i266 : Int32) (k66b : ClassId) (us188a : List Value) (h0 : Heap) (n0 : Nat) (v : Option Value) (h : Heap) (L : List Loc) : Prop := ∃ (b269a : Addr) (k269b : ClassId) (us272 : List Value), v = some (.ref b2) ∧ Fr n0 L ∧ Keep h0 h [b2] ∧ n0 ≤ b269a ∧ h0.size ≤ b269a ∧ Fld Z h b2 "java/lang/AbstractStringBuilder" "value" "[B" (.ref b269a) ∧ Fld Z h b2 "java/lang/AbstractStringBuilder" "coder" "B" (.int (0 : Int32)) ∧ Fld Z h b2 "java/lang/AbstractStringBuilder" "count" "I" (.int (i266 + (own_dg y1))) ∧ Arv Z h b269a k269b .byte (70 : Int32) us272 (.int (0 : Int32)) ∧ Exa Z h b269a "[B" ∧ us272.length = ((70 : Int32)).toNatClampNeg
set_option maxRecDepth 65536 in
set_option maxHeartbeats 40000000 in
theorem rm19a66 (l : Launch) (Z : State) (a0 : Array Value) (hw : ∀ d ∈ tables_1, d.before a0 Z = true) (ws : List Jvm.Cond) (b2 : Addr) (y1 : Int32) (cs : Int32) (wd : Addr) (kd : ClassId) (vd : List Value) (wt : Addr) (kt : ClassId) (vt : List Value) (b66a : Addr) (i266 : Int32) (k66b : ClassId) (us188a : List Value) (h0 : Heap) (n0 : Nat) (Z0 : n0 ≤ h0.size) (PS0 : Sta Z h0 "java/lang/String" "COMPACT_STRINGS" "Z" (.int cs)) (PS1 : Sta Z h0 "java/lang/Integer" "DigitOnes" "[B" (.ref wd)) (PV2 : Arv Z h0 wd kd .byte (100 : Int32) vd (.int (0 : Int32))) (PS3 : Sta Z h0 "java/lang/Integer" "DigitTens" "[B" (.ref wt)) (PV4 : Arv Z h0 wt kt .byte (100 : Int32) vt (.int (0 : Int32))) (PE9 : Exa Z h0 b2 "java/lang/StringBuilder") (PF10 : Fld Z h0 b2 "java/lang/AbstractStringBuilder" "value" "[B" (.ref b66a)) (PF11 : Fld Z h0 b2 "java/lang/AbstractStringBuilder" "coder" "B" (.int (0 : Int32))) (PF12 : Fld Z h0 b2 "java/lang/AbstractStringBuilder" "count" "I" (.int i266)) (PV19 : Arv Z h0 b66a k66b .byte (34 : Int32) us188a (.int (0 : Int32))) (PP0 : ¬ (cs = (0 : Int32))) (PP2 : ¬ (y1 < (0 : Int32))) (PP3 : (0 : Int32) < ((i266 + (own_dg y1)) - (34 : Int32))) (PP4 : (((i266 + (own_dg y1)) <<< ((0 : Int32) &&& 31)) - (34 : Int32)) < (36 : Int32)) (PP5 : ¬ ((i266 + (own_dg y1)) < (own_dg y1))) (PP6 : ¬ ((70 : Int32) < (i266 + (own_dg y1)))) (ne_wd_b2 : wd ≠ b2) (ne_wt_b2 : wt ≠ b2) (n_b2 : n0 ≤ b2) (pr_st_vd : own_SameSt Z) :
    own_Met l mn19 jdk_68_method_32_code 4 (some (.object "java/lang/AbstractStringBuilder")) ws (oRm 4 1 70 78) #[(.ref b2), (.int y1)] Z h0 (Q19a66 Z b2 y1 cs wd kd vd wt kt vt b66a i266 k66b us188a h0 n0) := by
  refine own_met (own := "java/lang/AbstractStringBuilder") rfl (plainFor_of_name pn_3) ?_
  intro p e s m below meth c s₁ hx hby hml hZ hown hnm X0 e0 Br Bs
  have N0 := Fr.nil n0
  have tt := own_tt hx hby own_ok19
  rw [ef_rm19a66 m b2 y1]
  refine own_go (T' := s₁) (f' := (mkF m 1 #[oR b2, .val (.int y1), oU, oU] [vR b2])) (fun _ k => own_e X0 tt 0 1 k rfl) ?_
  obtain ⟨T267, X267, e267, st267⟩ := getF X0 hx hZ hown (host := "") (Or.inl (ow66 hw)) Via.refl e0 PF12 (g := (mkF m 1 #[oR b2, .val (.int y1), oU, oU] [vR b2])) rfl rfl (hb hby d19_1)
  refine own_go (T' := T267) (f' := (mkF m 7 #[oR b2, .val (.int y1), .val (.int i266), oU] [(.int y1), (.int i266)])) (fun _ k => st267 _ (own_e X267 tt 4 3 k rfl)) ?_
  obtain ⟨_, T268, Lc268, X268, hQ268, st268⟩ := own_outC (Jvm.LawKit.callS X267 hx (y := mn3) hown (mvT hZ (ow120 hw)) (mvT hZ (ow121 hw)) (mvT hZ (ow122 hw)) (mvT hZ (ow123 hw)) (by decide) (backOf (W := 1) (rm20 l Z a0 hw [] y1 h0 n0 Z0 PP2) hZ (ow123 hw) (ow122 hw) (by decide) (by decide)) (g := (mkF m 7 #[oR b2, .val (.int y1), .val (.int i266), oU] [(.int y1), (.int i266)])) rfl (by rw [hml]; rfl) (argsL := [(.int y1)]) (rest := [(.int i266)]) (lenOf pd8 rfl) rfl (by show 2 * 0 + _ ≤ _; exact Nat.le_of_eq rfl) (hb hby d19_7) (fun _ _ => ⟨rfl, e267, (by decide : 0 + 0 ≤ _), (by decide : 0 + 0 ≤ _)⟩))
  obtain ⟨rfl, N268q, hh268⟩ := hQ268
  have N268 := Fr.app N0 N268q
  obtain ⟨_, X268, N268⟩ := own_hide X268 N268
  refine own_go (T' := T268) (f' := (mkF m 14 #[oR b2, .val (.int y1), .val (.int i266), .val (.int (i266 + (own_dg y1)))] [(.int (i266 + (own_dg y1))), vR b2])) (fun _ k => st268 _ (own_e X268 tt 10 4 k rfl)) ?_
  obtain ⟨cq269, q269, q269'⟩ := PE9.cell
  obtain ⟨_, T269, Lc269, X269, hQ269, st269⟩ := own_out (X268.privateBack hx (y := mn11) hown (mvT hZ (ow68 hw)) (mvT hZ (ow69 hw)) (own_selp (mvT hZ (ow71 hw)) (Cond.privateMethod_at (mvP hZ (ow70 hw) (args := #[]))) (mvT hZ (ow69 hw)) (by decide)) (Cond.privateMethod_at (mvP hZ (ow70 hw) (args := #[]))) (mvT hZ (ow72 hw)) (by decide) (backOf (W := 0) (rm11a57 l Z a0 hw [] b2 (i266 + (own_dg y1)) b66a i266 k66b us188a h0 n0 Z0 PE9 PF10 PF11 PF12 PV19 PP3 PP4 n_b2) hZ (ow72 hw) (ow25 hw) (by decide) (by decide)) (g := (mkF m 14 #[oR b2, .val (.int y1), .val (.int i266), .val (.int (i266 + (own_dg y1)))] [(.int (i266 + (own_dg y1))), vR b2])) rfl (by rw [hml]; rfl) (Steps.refl _) (a := b2) (by rw [hh268]; exact q269) q269' (argsL := [(.int (i266 + (own_dg y1)))]) (rest := []) (lenOf pd11 rfl) rfl (by show 2 * 0 + _ ≤ _; exact Nat.le_of_eq rfl) (hb hby d19_14) (fun _ _ => ⟨rfl, hh268, (by decide : 0 + 1 ≤ _), (by decide : 0 + 70 ≤ _)⟩))
  obtain ⟨b269a, k269b, us269c, rfl, N269q, K269, n_b269a, sg_b269a, g269_0, g269_1, g269_2, g269_3, g269_4, g269_5⟩ := hQ269
  have N269 := Fr.app N268 N269q
  have sz_b269a : h0.size ≤ b269a := Nat.le_trans (Keep.refl h0 [b2]).1 sg_b269a
  have eK269 : T269.heap = T269.heap := rfl
  have KK269 : Keep h0 T269.heap [b2] := Keep.trans (Keep.refl h0 [b2]) K269 (allS (Or.inl (List.mem_of_getElem? (i := 0) rfl)) all0)
  obtain ⟨_, X269, N269⟩ := own_hide X269 N269
  refine own_go (T' := T269) (f' := (mkF m 18 #[oR b2, .val (.int y1), .val (.int i266), .val (.int (i266 + (own_dg y1)))] [vR b2])) (fun _ k => st269.trans (own_e X269 tt 17 1 k rfl)) ?_
  obtain ⟨cq270, kq270, q270a, q270b, q270c⟩ := isOf hZ eK269 (PE9.keep K269)
  obtain ⟨_, T270, Lc270, X270, hQ270, st270⟩ := own_out (X269.virtualBack hx (y := mn17) (z := mn17) hown (mvT hZ (ow124 hw)) (mvT hZ (ow125 hw)) (notFace_of_selects (args := #[]) (mvT hZ (ow127 hw))) (mvT hZ (ow127 hw)) (mvT hZ (ow126 hw)) (by decide) (backOf (W := 0) (rm21a22 l Z a0 hw [] b2 cs T269.heap n0 (Nat.le_trans Z0 K269.1) (own_sta_keep PS0 K269 (own_wsE PE9 own_ws0)) g269_1 PP0) hZ (ow128 hw) (ow25 hw) (by decide) (by decide)) q270a q270c (g := (mkF m 18 #[oR b2, .val (.int y1), .val (.int i266), .val (.int (i266 + (own_dg y1)))] [vR b2])) rfl (by rw [hml]; rfl) (Steps.refl _) (argsL := []) (rest := []) (lenOf pd6 rfl) rfl (by show 2 * 0 + _ ≤ _; exact Nat.le_of_eq rfl) (hb hby d19_18) (fun _ _ => ⟨rfl, eK269, (by decide : 1 + 0 ≤ _), (by decide : 70 + 0 ≤ _)⟩))
  obtain ⟨rfl, N270q, hh270⟩ := hQ270
  have N270 := Fr.app N269 N270q
  obtain ⟨_, X270, N270⟩ := own_hide X270 N270
  refine own_go (T' := T270) (f' := (mkF m 27 #[oR b2, .val (.int y1), .val (.int i266), .val (.int (i266 + (own_dg y1)))] [vR b2, (.int (i266 + (own_dg y1))), (.int y1)])) (fun _ k => st270.trans (own_e X270 tt 21 4 k rfl)) ?_
  obtain ⟨T271, X271, e271, st271⟩ := getF X270 hx hZ hown (host := "") (Or.inl (ow33 hw)) Via.refl hh270 g269_0 (g := (mkF m 27 #[oR b2, .val (.int y1), .val (.int i266), .val (.int (i266 + (own_dg y1)))] [vR b2, (.int (i266 + (own_dg y1))), (.int y1)])) rfl rfl (hb hby d19_27)
  refine own_go (T' := T271) (f' := (mkF m 30 #[oR b2, .val (.int y1), .val (.int i266), .val (.int (i266 + (own_dg y1)))] [vR b269a, (.int (i266 + (own_dg y1))), (.int y1)])) (fun _ k => st271 _ k) ?_
  have q273 : b269a ≠ wd := (Ne.symm (Nat.ne_of_lt (Nat.lt_of_lt_of_le PV2.lt sz_b269a)))
  have q274 : b269a ≠ wt := (Ne.symm (Nat.ne_of_lt (Nat.lt_of_lt_of_le PV4.lt sz_b269a)))
  obtain ⟨_, T272, Lc272, X272, hQ272, st272⟩ := own_outC (Jvm.LawKit.callS X271 hx (y := mn18) hown (mvT hZ (ow129 hw)) (mvT hZ (ow130 hw)) (mvT hZ (ow122 hw)) (mvT hZ (ow131 hw)) (by decide) (own_gcBack hZ hw (W := 0) (n0 := n0) g269_3 (own_sta_keep PS1 K269 (own_wsE PE9 own_ws0)) (PV2.keep K269 (ninS ne_wd_b2 nin0)) (own_sta_keep PS3 K269 (own_wsE PE9 own_ws0)) (PV4.keep K269 (ninS ne_wt_b2 nin0)) q273 q274 pr_st_vd PP2 PP5 PP6 n_b269a (by decide) (by decide)) (g := (mkF m 30 #[oR b2, .val (.int y1), .val (.int i266), .val (.int (i266 + (own_dg y1)))] [vR b269a, (.int (i266 + (own_dg y1))), (.int y1)])) rfl (by rw [hml]; rfl) (argsL := [(.int y1), (.int (i266 + (own_dg y1))), (.ref b269a)]) (rest := []) (lenOf pd16 rfl) rfl (by show 2 * 0 + _ ≤ _; exact Nat.le_of_eq rfl) (hb hby d19_30) (fun _ _ => ⟨rfl, e271, (by decide : 1 + 0 ≤ _), (by decide : 70 + 0 ≤ _)⟩))
  obtain ⟨r272, us272, rfl, N272q, K272, hl272, V272⟩ := hQ272
  have N272 := Fr.app N270 N272q
  have eK272 : T272.heap = T272.heap := rfl
  have KK272 : Keep h0 T272.heap [b2] := Keep.trans KK269 K272 (allS (Or.inr sz_b269a) all0)
  obtain ⟨_, X272, N272⟩ := own_hide X272 N272
  refine own_go (T' := T272) (f' := (mkF m 50 #[oR b2, .val (.int y1), .val (.int i266), .val (.int (i266 + (own_dg y1)))] [(.int (i266 + (own_dg y1))), vR b2])) (fun _ k => st272 _ (own_e X272 tt 33 4 k rfl)) ?_
  have q275 : b2 ≠ b269a := (Nat.ne_of_lt (Nat.lt_of_lt_of_le PE9.lt sz_b269a))
  obtain ⟨T276, h276, X276, e276, W276, st276⟩ := putF X272 hx hZ hown (host := "") (Or.inl (ow66 hw)) Via.refl eK272 (g269_2.keep K272 (ninS q275 nin0)) ((PE9.keep K269).keep K272) (Or.inl (ow67 hw)) (ow16 hw) (ty := .int) (by decide) rfl rfl (g := (mkF m 50 #[oR b2, .val (.int y1), .val (.int i266), .val (.int (i266 + (own_dg y1)))] [(.int (i266 + (own_dg y1))), vR b2])) rfl rfl (hb hby d19_50)
  have Fw276 := Fld.same W276 (g269_2.keep K272 (ninS q275 nin0))
  have K276 : Keep h0 h276 [b2] := KK272.wr W276 (Or.inl (List.mem_of_getElem? (i := 0) rfl))
  have N276 := Fr.snoc X276 N272 n_b2
  refine own_go (T' := T276) (f' := (mkF m 54 #[oR b2, .val (.int y1), .val (.int i266), .val (.int (i266 + (own_dg y1)))] [vR b2])) (fun _ k => st276 _ (own_e X276 tt 53 1 k rfl)) ?_
  refine own_ret X276 (v := some (.ref b2)) (fun h => by rw [Br] at h; cases h) Bs (fun fs hr => own_retA X276 hx Br rfl rfl (hb hby d19_54) hr) ?_ (by decide) (by decide)
  show Q19a66 Z b2 y1 cs wd kd vd wt kt vt b66a i266 k66b us188a h0 n0 _ T276.heap _
  have G277 := ((g269_0.keep K272 (ninS q275 nin0)).other W276 (Or.inr (slot_ne (Or.inl (ow34 hw)) (Or.inl (ow67 hw)) (by decide) (t := (.array .byte)) (t' := .int) (by decide) (by decide))))
  have G278 := ((g269_1.keep K272 (ninS q275 nin0)).other W276 (Or.inr (slot_ne (Or.inl (ow36 hw)) (Or.inl (ow67 hw)) (by decide) (t := .byte) (t' := .int) (by decide) (by decide))))
  rw [e276]
  exact ⟨b269a, k269b, us272, rfl, N276, K276, n_b269a, sz_b269a, G277, G278, Fw276, (V272.other W276 (Ne.symm q275)), ((g269_4.keep K272).wr W276), hl272⟩
theorem ef_rm18a65 (m : MethodId) (b2 : Addr) (y1 : Int32) : entryFrame m #[(.ref b2), (.int y1)] 2 = mkF m 0 #[.val (.ref b2), .val (.int y1)] [] := by first | (simp [entryFrame, mkF, argsToLocals, Value.category]; done) | rfl
def Q18a65 (Z : State) (b2 : Addr) (y1 : Int32) (cs : Int32) (wd : Addr) (kd : ClassId) (vd : List Value) (wt : Addr) (kt : ClassId) (vt : List Value) (b66a : Addr) (i266 : Int32) (k66b : ClassId) (us188a : List Value) (h0 : Heap) (n0 : Nat) (v : Option Value) (h : Heap) (L : List Loc) : Prop := ∃ (b279a : Addr) (k279b : ClassId) (us279c : List Value), v = some (.ref b2) ∧ Fr n0 L ∧ Keep h0 h [b2] ∧ n0 ≤ b279a ∧ h0.size ≤ b279a ∧ Fld Z h b2 "java/lang/AbstractStringBuilder" "value" "[B" (.ref b279a) ∧ Fld Z h b2 "java/lang/AbstractStringBuilder" "coder" "B" (.int (0 : Int32)) ∧ Fld Z h b2 "java/lang/AbstractStringBuilder" "count" "I" (.int (i266 + (own_dg y1))) ∧ Arv Z h b279a k279b .byte (70 : Int32) us279c (.int (0 : Int32)) ∧ Exa Z h b279a "[B" ∧ us279c.length = ((70 : Int32)).toNatClampNeg
set_option maxRecDepth 65536 in
set_option maxHeartbeats 40000000 in
theorem rm18a65 (l : Launch) (Z : State) (a0 : Array Value) (hw : ∀ d ∈ tables_1, d.before a0 Z = true) (ws : List Jvm.Cond) (b2 : Addr) (y1 : Int32) (cs : Int32) (wd : Addr) (kd : ClassId) (vd : List Value) (wt : Addr) (kt : ClassId) (vt : List Value) (b66a : Addr) (i266 : Int32) (k66b : ClassId) (us188a : List Value) (h0 : Heap) (n0 : Nat) (Z0 : n0 ≤ h0.size) (PS0 : Sta Z h0 "java/lang/String" "COMPACT_STRINGS" "Z" (.int cs)) (PS1 : Sta Z h0 "java/lang/Integer" "DigitOnes" "[B" (.ref wd)) (PV2 : Arv Z h0 wd kd .byte (100 : Int32) vd (.int (0 : Int32))) (PS3 : Sta Z h0 "java/lang/Integer" "DigitTens" "[B" (.ref wt)) (PV4 : Arv Z h0 wt kt .byte (100 : Int32) vt (.int (0 : Int32))) (PE9 : Exa Z h0 b2 "java/lang/StringBuilder") (PF10 : Fld Z h0 b2 "java/lang/AbstractStringBuilder" "value" "[B" (.ref b66a)) (PF11 : Fld Z h0 b2 "java/lang/AbstractStringBuilder" "coder" "B" (.int (0 : Int32))) (PF12 : Fld Z h0 b2 "java/lang/AbstractStringBuilder" "count" "I" (.int i266)) (PV19 : Arv Z h0 b66a k66b .byte (34 : Int32) us188a (.int (0 : Int32))) (PP0 : ¬ (cs = (0 : Int32))) (PP2 : ¬ (y1 < (0 : Int32))) (PP3 : (0 : Int32) < ((i266 + (own_dg y1)) - (34 : Int32))) (PP4 : (((i266 + (own_dg y1)) <<< ((0 : Int32) &&& 31)) - (34 : Int32)) < (36 : Int32)) (PP5 : ¬ ((i266 + (own_dg y1)) < (own_dg y1))) (PP6 : ¬ ((70 : Int32) < (i266 + (own_dg y1)))) (ne_wd_b2 : wd ≠ b2) (ne_wt_b2 : wt ≠ b2) (n_b2 : n0 ≤ b2) (pr_st_vd : own_SameSt Z) :
    own_Met l mn20 jdk_67_method_15_code 2 (some (.object "java/lang/StringBuilder")) ws (oRm 5 1 70 93) #[(.ref b2), (.int y1)] Z h0 (Q18a65 Z b2 y1 cs wd kd vd wt kt vt b66a i266 k66b us188a h0 n0) := by
  refine own_met (own := "java/lang/StringBuilder") rfl (plainFor_of_name pn_8) ?_
  intro p e s m below meth c s₁ hx hby hml hZ hown hnm X0 e0 Br Bs
  have N0 := Fr.nil n0
  have tt := own_tt hx hby own_ok18
  rw [ef_rm18a65 m b2 y1]
  refine own_go (T' := s₁) (f' := (mkF m 2 #[oR b2, .val (.int y1)] [(.int y1), vR b2])) (fun _ k => own_e X0 tt 0 2 k rfl) ?_
  obtain ⟨_, T279, Lc279, X279, hQ279, st279⟩ := own_out (superBack X0 hx hZ (y := mn19) hown (ow116 hw) (own_same (y := mn19) (y2 := mn11) (ow71 hw) rfl (ow117 hw) (by decide)) (ow117 hw) (ow50 hw) (by decide) (backOf (W := 0) (rm19a66 l Z a0 hw [] b2 y1 cs wd kd vd wt kt vt b66a i266 k66b us188a h0 n0 Z0 PS0 PS1 PV2 PS3 PV4 PE9 PF10 PF11 PF12 PV19 PP0 PP2 PP3 PP4 PP5 PP6 ne_wd_b2 ne_wt_b2 n_b2 pr_st_vd) hZ (ow119 hw) (ow25 hw) (by decide) (by decide)) e0 (Ins.self PE9) (g := (mkF m 2 #[oR b2, .val (.int y1)] [(.int y1), vR b2])) rfl (by rw [hml]; rfl) (ow119 hw) (argsL := [(.int y1)]) (rest := []) (lenOf pd9 rfl) rfl (by show 2 * 0 + _ ≤ _; exact Nat.le_of_eq rfl) (hb hby d18_2) (fun _ _ => ⟨rfl, e0, (by decide : 0 + 1 ≤ _), (by decide : 0 + 70 ≤ _)⟩))
  obtain ⟨b279a, k279b, us279c, rfl, N279q, K279, n_b279a, sg_b279a, g279_0, g279_1, g279_2, g279_3, g279_4, g279_5⟩ := hQ279
  have N279 := Fr.app N0 N279q
  have sz_b279a : h0.size ≤ b279a := Nat.le_trans (Keep.refl h0 [b2]).1 sg_b279a
  have eK279 : T279.heap = T279.heap := rfl
  have KK279 : Keep h0 T279.heap [b2] := Keep.trans (Keep.refl h0 [b2]) K279 (allS (Or.inl (List.mem_of_getElem? (i := 0) rfl)) all0)
  obtain ⟨_, X279, N279⟩ := own_hide X279 N279
  refine own_go (T' := T279) (f' := (mkF m 7 #[oR b2, .val (.int y1)] [vR b2])) (fun _ k => st279.trans (own_e X279 tt 5 2 k rfl)) ?_
  refine own_ret X279 (v := some (.ref b2)) (fun h => by rw [Br] at h; cases h) Bs (fun fs hr => own_retA X279 hx Br rfl rfl (hb hby d18_7) hr) ?_ (by decide) (by decide)
  show Q18a65 Z b2 y1 cs wd kd vd wt kt vt b66a i266 k66b us188a h0 n0 _ T279.heap _
  rw [eK279]
  exact ⟨b279a, k279b, us279c, rfl, N279, KK279, n_b279a, sz_b279a, g279_0, g279_1, g279_2, g279_3, g279_4, g279_5⟩
def own_t26 (pc : Nat) : Option (Instr × Nat) := bif Nat.beq pc 0 then some (.aload_n 0, 1) else none
theorem own_ok26 : ∀ pc q, own_fetch 5 own_t26 pc = some q → decode jdk_68_method_64_code pc = .ok q := own_tab (by decide +kernel)
theorem d26_1 : decode jdk_68_method_64_code 1 = .ok (.getfield 15, 3) := by decide +kernel
theorem d26_4 : decode jdk_68_method_64_code 4 = .ok (.areturn, 1) := by decide +kernel
theorem ef_rm26a70 (m : MethodId) (b2 : Addr) : entryFrame m #[(.ref b2)] 1 = mkF m 0 #[.val (.ref b2)] [] := by first | (simp [entryFrame, mkF, argsToLocals, Value.category]; done) | rfl
def Q26a70 (Z : State) (b2 : Addr) (b280a : Addr) (h0 : Heap) (n0 : Nat) (v : Option Value) (h : Heap) (L : List Loc) : Prop := v = some (.ref b280a) ∧ Fr n0 L ∧ h = h0
set_option maxRecDepth 65536 in
set_option maxHeartbeats 40000000 in
theorem rm26a70 (l : Launch) (Z : State) (a0 : Array Value) (hw : ∀ d ∈ tables_1, d.before a0 Z = true) (ws : List Jvm.Cond) (b2 : Addr) (b280a : Addr) (h0 : Heap) (n0 : Nat) (Z0 : n0 ≤ h0.size) (PF10 : Fld Z h0 b2 "java/lang/AbstractStringBuilder" "value" "[B" (.ref b280a)) :
    own_Met l mn21 jdk_68_method_64_code 1 (some (.array .byte)) ws (oRm 0 0 0 0) #[(.ref b2)] Z h0 (Q26a70 Z b2 b280a h0 n0) := by
  refine own_met (own := "java/lang/AbstractStringBuilder") rfl (plainFor_of_name pn_3) ?_
  intro p e s m below meth c s₁ hx hby hml hZ hown hnm X0 e0 Br Bs
  have N0 := Fr.nil n0
  have tt := own_tt hx hby own_ok26
  rw [ef_rm26a70 m b2]
  refine own_go (T' := s₁) (f' := (mkF m 1 #[oR b2] [vR b2])) (fun _ k => own_e X0 tt 0 1 k rfl) ?_
  obtain ⟨T291, X291, e291, st291⟩ := getF X0 hx hZ hown (host := "") (Or.inl (ow33 hw)) Via.refl e0 PF10 (g := (mkF m 1 #[oR b2] [vR b2])) rfl rfl (hb hby d26_1)
  refine own_go (T' := T291) (f' := (mkF m 4 #[oR b2] [vR b280a])) (fun _ k => st291 _ k) ?_
  refine own_ret X291 (v := some (.ref b280a)) (fun h => by rw [Br] at h; cases h) Bs (fun fs hr => own_retA X291 hx Br rfl rfl (hb hby d26_4) hr) ?_ (by decide) (by decide)
  show Q26a70 Z b2 b280a h0 n0 _ T291.heap _
  exact ⟨rfl, N0, e291⟩
theorem pd7 : parseMethodDescriptor "()[B" = some ⟨[], some (.array .byte)⟩ := by decide +kernel
def own_t28 (pc : Nat) : Option (Instr × Nat) := bif Nat.beq pc 0 then some (.aload_n 0, 1) else none
theorem own_ok28 : ∀ pc q, own_fetch 5 own_t28 pc = some q → decode jdk_68_method_6_code pc = .ok q := own_tab (by decide +kernel)
theorem d28_1 : decode jdk_68_method_6_code 1 = .ok (.getfield 79, 3) := by decide +kernel
theorem d28_4 : decode jdk_68_method_6_code 4 = .ok (.ireturn, 1) := by decide +kernel
theorem ef_rm28a72 (m : MethodId) (b2 : Addr) : entryFrame m #[(.ref b2)] 1 = mkF m 0 #[.val (.ref b2)] [] := by first | (simp [entryFrame, mkF, argsToLocals, Value.category]; done) | rfl
def Q28a72 (Z : State) (b2 : Addr) (i288 : Int32) (h0 : Heap) (n0 : Nat) (v : Option Value) (h : Heap) (L : List Loc) : Prop := v = some (.int i288) ∧ Fr n0 L ∧ h = h0
set_option maxRecDepth 65536 in
set_option maxHeartbeats 40000000 in
theorem rm28a72 (l : Launch) (Z : State) (a0 : Array Value) (hw : ∀ d ∈ tables_1, d.before a0 Z = true) (ws : List Jvm.Cond) (b2 : Addr) (i288 : Int32) (h0 : Heap) (n0 : Nat) (Z0 : n0 ≤ h0.size) (PF12 : Fld Z h0 b2 "java/lang/AbstractStringBuilder" "count" "I" (.int i288)) :
    own_Met l mn22 jdk_68_method_6_code 1 (some .int) ws (oRm 0 0 0 0) #[(.ref b2)] Z h0 (Q28a72 Z b2 i288 h0 n0) := by
  refine own_met (own := "java/lang/AbstractStringBuilder") rfl (plainFor_of_name pn_3) ?_
  intro p e s m below meth c s₁ hx hby hml hZ hown hnm X0 e0 Br Bs
  have N0 := Fr.nil n0
  have tt := own_tt hx hby own_ok28
  rw [ef_rm28a72 m b2]
  refine own_go (T' := s₁) (f' := (mkF m 1 #[oR b2] [vR b2])) (fun _ k => own_e X0 tt 0 1 k rfl) ?_
  obtain ⟨T293, X293, e293, st293⟩ := getF X0 hx hZ hown (host := "") (Or.inl (ow66 hw)) Via.refl e0 PF12 (g := (mkF m 1 #[oR b2] [vR b2])) rfl rfl (hb hby d28_1)
  refine own_go (T' := T293) (f' := (mkF m 4 #[oR b2] [(.int i288)])) (fun _ k => st293 _ k) ?_
  refine own_ret X293 (v := some (.int i288)) (fun h => by rw [Br] at h; cases h) Bs (fun fs hr => retI X293 hx Br (hb hby d28_4) hr) ?_ (by decide) (by decide)
  show Q28a72 Z b2 i288 h0 n0 _ T293.heap _
  exact ⟨rfl, N0, e293⟩
def own_t27 (pc : Nat) : Option (Instr × Nat) := bif Nat.beq pc 0 then some (.aload_n 0, 1) else none
theorem own_ok27 : ∀ pc q, own_fetch 5 own_t27 pc = some q → decode jdk_67_method_93_code pc = .ok q := own_tab (by decide +kernel)
theorem d27_1 : decode jdk_67_method_93_code 1 = .ok (.invokespecial 343, 3) := by decide +kernel
theorem d27_4 : decode jdk_67_method_93_code 4 = .ok (.ireturn, 1) := by decide +kernel
theorem ef_rm27a71 (m : MethodId) (b2 : Addr) : entryFrame m #[(.ref b2)] 1 = mkF m 0 #[.val (.ref b2)] [] := by first | (simp [entryFrame, mkF, argsToLocals, Value.category]; done) | rfl
def Q27a71 (Z : State) (b2 : Addr) (i288 : Int32) (h0 : Heap) (n0 : Nat) (v : Option Value) (h : Heap) (L : List Loc) : Prop := v = some (.int i288) ∧ Fr n0 L ∧ h = h0
set_option maxRecDepth 65536 in
set_option maxHeartbeats 40000000 in
theorem rm27a71 (l : Launch) (Z : State) (a0 : Array Value) (hw : ∀ d ∈ tables_1, d.before a0 Z = true) (ws : List Jvm.Cond) (b2 : Addr) (i288 : Int32) (h0 : Heap) (n0 : Nat) (Z0 : n0 ≤ h0.size) (PE9 : Exa Z h0 b2 "java/lang/StringBuilder") (PF12 : Fld Z h0 b2 "java/lang/AbstractStringBuilder" "count" "I" (.int i288)) :
    own_Met l mn23 jdk_67_method_93_code 1 (some .int) ws (oRm 1 0 0 12) #[(.ref b2)] Z h0 (Q27a71 Z b2 i288 h0 n0) := by
  refine own_met (own := "java/lang/StringBuilder") rfl (plainFor_of_name pn_8) ?_
  intro p e s m below meth c s₁ hx hby hml hZ hown hnm X0 e0 Br Bs
  have N0 := Fr.nil n0
  have tt := own_tt hx hby own_ok27
  rw [ef_rm27a71 m b2]
  refine own_go (T' := s₁) (f' := (mkF m 1 #[oR b2] [vR b2])) (fun _ k => own_e X0 tt 0 1 k rfl) ?_
  obtain ⟨_, T294, Lc294, X294, hQ294, st294⟩ := own_out (superBack X0 hx hZ (y := mn22) hown (ow159 hw) (own_same (y := mn22) (y2 := mn11) (ow71 hw) rfl (ow155 hw) (by decide)) (ow155 hw) (ow50 hw) (by decide) (backOf (W := 0) (rm28a72 l Z a0 hw [] b2 i288 h0 n0 Z0 PF12) hZ (ow160 hw) (ow25 hw) (by decide) (by decide)) e0 (Ins.self PE9) (g := (mkF m 1 #[oR b2] [vR b2])) rfl (by rw [hml]; rfl) (ow160 hw) (argsL := []) (rest := []) (lenOf pd1 rfl) rfl (by show 2 * 0 + _ ≤ _; exact Nat.le_of_eq rfl) (hb hby d27_1) (fun _ _ => ⟨rfl, e0, (by decide : 0 + 0 ≤ _), (by decide : 0 + 0 ≤ _)⟩))
  obtain ⟨rfl, N294q, hh294⟩ := hQ294
  have N294 := Fr.app N0 N294q
  obtain ⟨_, X294, N294⟩ := own_hide X294 N294
  refine own_go (T' := T294) (f' := (mkF m 4 #[oR b2] [(.int i288)])) (fun _ k => st294.trans k) ?_
  refine own_ret X294 (v := some (.int i288)) (fun h => by rw [Br] at h; cases h) Bs (fun fs hr => retI X294 hx Br (hb hby d27_4) hr) ?_ (by decide) (by decide)
  show Q27a71 Z b2 i288 h0 n0 _ T294.heap _
  exact ⟨rfl, N294, hh294⟩
def own_t31 (pc : Nat) : Option (Instr × Nat) := bif Nat.ble pc 0 then (bif Nat.beq pc 0 then some (.iload_n 1, 1) else none) else (bif Nat.ble pc 1 then (bif Nat.beq pc 1 then some (.iload_n 0, 1) else none) else (bif Nat.beq pc 2 then some (.if_icmp .ge 35, 3) else none))
theorem own_ok31 : ∀ pc q, own_fetch 38 own_t31 pc = some q → decode jdk_65_method_131_code pc = .ok q := own_tab (by decide +kernel)
theorem d31_2 : decode jdk_65_method_131_code 2 = .ok (.if_icmp .ge 35, 3) := by decide +kernel
theorem d31_37 : decode jdk_65_method_131_code 37 = .ok (.return_, 1) := by decide +kernel
theorem ef_rm31a85 (m : MethodId) (i309 : Int32) : entryFrame m #[(.int (0 : Int32)), (.int i309)] 2 = mkF m 0 #[.val (.int (0 : Int32)), .val (.int i309)] [] := by first | (simp [entryFrame, mkF, argsToLocals, Value.category]; done) | rfl
def Q31a85 (Z : State) (i309 : Int32) (h0 : Heap) (n0 : Nat) (v : Option Value) (h : Heap) (L : List Loc) : Prop := v = none ∧ Fr n0 L ∧ h = h0
set_option maxRecDepth 65536 in
set_option maxHeartbeats 40000000 in
theorem rm31a85 (l : Launch) (Z : State) (a0 : Array Value) (hw : ∀ d ∈ tables_1, d.before a0 Z = true) (ws : List Jvm.Cond) (i309 : Int32) (h0 : Heap) (n0 : Nat) (Z0 : n0 ≤ h0.size) (PP5 : ¬ (i309 < (0 : Int32))) :
    own_Met l mn24 jdk_65_method_131_code 2 none ws (oRm 0 0 0 0) #[(.int (0 : Int32)), (.int i309)] Z h0 (Q31a85 Z i309 h0 n0) := by
  refine own_met (own := "java/util/Arrays") rfl (plainFor_of_name pn_11) ?_
  intro p e s m below meth c s₁ hx hby hml hZ hown hnm X0 e0 Br Bs
  have N0 := Fr.nil n0
  have tt := own_tt hx hby own_ok31
  rw [ef_rm31a85 m i309]
  refine own_go (T' := s₁) (f' := (mkF m 37 #[oI 0, .val (.int i309)] [])) (fun _ k => own_r X0 tt 0 2 rfl (XS.icmpYes X0.here hx rfl (pc0 := 2) (pc' := 37) rfl (hb hby d31_2) rfl (flt PP5).2.1 (by decide) (by decide) k)) ?_
  refine own_ret X0 (v := none) (fun _ => rfl) Bs (fun fs hr => X0.returnOut hx Br (hb hby d31_37) hr) ?_ (by decide) (by decide)
  show Q31a85 Z i309 h0 n0 _ s₁.heap _
  exact ⟨rfl, N0, e0⟩
theorem pd14 : parseMethodDescriptor "(II)V" = some ⟨[.int, .int], none⟩ := by decide +kernel
theorem ef_rm1a102 (m : MethodId) (i352 : Int32) : entryFrame m #[(.int (70 : Int32)), (.int i352)] 2 = mkF m 0 #[.val (.int (70 : Int32)), .val (.int i352)] [] := by first | (simp [entryFrame, mkF, argsToLocals, Value.category]; done) | rfl
def Q1a102 (Z : State) (i352 : Int32) (h0 : Heap) (n0 : Nat) (v : Option Value) (h : Heap) (L : List Loc) : Prop := v = some (.int i352) ∧ Fr n0 L ∧ h = h0
set_option maxRecDepth 65536 in
set_option maxHeartbeats 40000000 in
theorem rm1a102 (l : Launch) (Z : State) (a0 : Array Value) (hw : ∀ d ∈ tables_1, d.before a0 Z = true) (ws : List Jvm.Cond) (i352 : Int32) (h0 : Heap) (n0 : Nat) (Z0 : n0 ≤ h0.size) (PP8 : i352 < (70 : Int32)) :
    own_Met l mn0 jdk_29_method_69_code 2 (some .int) ws (oRm 0 0 0 0) #[(.int (70 : Int32)), (.int i352)] Z h0 (Q1a102 Z i352 h0 n0) := by
  refine own_met (own := "java/lang/Math") rfl (Jvm.Free.JP.mathPlain rfl (by decide +kernel)) ?_
  intro p e s m below meth c s₁ hx hby hml hZ hown hnm X0 e0 Br Bs
  have N0 := Fr.nil n0
  have tt := own_tt hx hby own_ok1
  rw [ef_rm1a102 m i352]
  refine own_go (T' := s₁) (f' := (mkF m 10 #[oI 70, .val (.int i352)] [(.int i352)])) (fun _ k => own_r X0 tt 0 2 rfl (XS.icmpYes X0.here hx rfl (pc0 := 2) (pc' := 9) rfl (hb hby d1_2) rfl (tlt PP8).2.2.1 (by decide) (by decide) (own_e X0 tt 9 1 k rfl))) ?_
  refine own_ret X0 (v := some (.int i352)) (fun h => by rw [Br] at h; cases h) Bs (fun fs hr => retI X0 hx Br (hb hby d1_10) hr) ?_ (by decide) (by decide)
  show Q1a102 Z i352 h0 n0 _ s₁.heap _
  exact ⟨rfl, N0, e0⟩
def own_t30 (pc : Nat) : Option (Instr × Nat) := bif Nat.ble pc 12 then (bif Nat.ble pc 6 then (bif Nat.ble pc 1 then (bif Nat.ble pc 0 then (bif Nat.beq pc 0 then some (.iload_n 1, 1) else none) else (bif Nat.beq pc 1 then some (.iload_n 2, 1) else none)) else (bif Nat.ble pc 5 then (bif Nat.beq pc 5 then some (.iload_n 2, 1) else none) else (bif Nat.beq pc 6 then some (.iload_n 1, 1) else none))) else (bif Nat.ble pc 8 then (bif Nat.ble pc 7 then (bif Nat.beq pc 7 then some (.isub, 1) else none) else (bif Nat.beq pc 8 then some (.istore_n 3, 1) else none)) else (bif Nat.ble pc 9 then (bif Nat.beq pc 9 then some (.iload_n 3, 1) else none) else (bif Nat.beq pc 12 then some (.astore 4, 2) else none)))) else (bif Nat.ble pc 18 then (bif Nat.ble pc 15 then (bif Nat.ble pc 14 then (bif Nat.beq pc 14 then some (.aload_n 0, 1) else none) else (bif Nat.beq pc 15 then some (.iload_n 1, 1) else none)) else (bif Nat.ble pc 16 then (bif Nat.beq pc 16 then some (.aload 4, 2) else none) else (bif Nat.beq pc 18 then some (.iconst 0, 1) else none))) else (bif Nat.ble pc 21 then (bif Nat.ble pc 19 then (bif Nat.beq pc 19 then some (.aload_n 0, 1) else none) else (bif Nat.beq pc 21 then some (.iload_n 1, 1) else none)) else (bif Nat.ble pc 22 then (bif Nat.beq pc 22 then some (.isub, 1) else none) else (bif Nat.ble pc 23 then (bif Nat.beq pc 23 then some (.iload_n 3, 1) else none) else (bif Nat.beq pc 30 then some (.aload 4, 2) else none)))))
theorem own_ok30 : ∀ pc q, own_fetch 33 own_t30 pc = some q → decode jdk_65_method_133_code pc = .ok q := own_tab (by decide +kernel)
theorem d30_2 : decode jdk_65_method_133_code 2 = .ok (.invokestatic 343, 3) := by decide +kernel
theorem d30_10 : decode jdk_65_method_133_code 10 = .ok (.newarray .byte, 2) := by decide +kernel
theorem d30_20 : decode jdk_65_method_133_code 20 = .ok (.arraylength, 1) := by decide +kernel
theorem d30_24 : decode jdk_65_method_133_code 24 = .ok (.invokestatic 304, 3) := by decide +kernel
theorem d30_27 : decode jdk_65_method_133_code 27 = .ok (.invokestatic 150, 3) := by decide +kernel
theorem d30_32 : decode jdk_65_method_133_code 32 = .ok (.areturn, 1) := by decide +kernel
theorem ef_rm30a112 (m : MethodId) (b280a : Addr) (i368 : Int32) : entryFrame m #[(.ref b280a), (.int (0 : Int32)), (.int i368)] 5 = mkF m 0 #[.val (.ref b280a), .val (.int (0 : Int32)), .val (.int i368), .unset, .unset] [] := by first | (simp [entryFrame, mkF, argsToLocals, Value.category]; done) | rfl
def Q30a112 (Z : State) (b280a : Addr) (i368 : Int32) (k280b : ClassId) (us280c : List Value) (h0 : Heap) (n0 : Nat) (v : Option Value) (h : Heap) (L : List Loc) : Prop := ∃ (b376 : Addr) (k376 : ClassId) (us378 : List Value), v = some (.ref b376) ∧ Fr n0 L ∧ Keep h0 h [] ∧ n0 ≤ b376 ∧ h0.size ≤ b376 ∧ Arv Z h b376 k376 .byte (i368 - (0 : Int32)) us378 (.int (0 : Int32)) ∧ Exa Z h b376 "[B" ∧ us378.length = ((i368 - (0 : Int32))).toNatClampNeg
set_option maxRecDepth 65536 in
set_option maxHeartbeats 40000000 in
theorem rm30a112 (l : Launch) (Z : State) (a0 : Array Value) (hw : ∀ d ∈ tables_1, d.before a0 Z = true) (ws : List Jvm.Cond) (b280a : Addr) (i368 : Int32) (k280b : ClassId) (us280c : List Value) (h0 : Heap) (n0 : Nat) (Z0 : n0 ≤ h0.size) (PV25 : Arv Z h0 b280a k280b .byte (70 : Int32) us280c (.int (0 : Int32))) (PP5 : ¬ (i368 < (0 : Int32))) (PP6 : ¬ ((i368 - (0 : Int32)) < (0 : Int32))) (PP7 : ¬ ((42 : Int32) < (i368 - (0 : Int32)))) (PP8 : (i368 - (0 : Int32)) < (70 : Int32)) (PP9 : ¬ ((i368 - (0 : Int32)) < (i368 - (0 : Int32)))) (PP10 : ¬ ((70 : Int32) < (i368 - (0 : Int32)))) :
    own_Met l mn25 jdk_65_method_133_code 5 (some (.array .byte)) ws (oRm 1 1 42 18) #[(.ref b280a), (.int (0 : Int32)), (.int i368)] Z h0 (Q30a112 Z b280a i368 k280b us280c h0 n0) := by
  refine own_met (own := "java/util/Arrays") rfl (plainFor_of_name pn_11) ?_
  intro p e s m below meth c s₁ hx hby hml hZ hown hnm X0 e0 Br Bs
  have N0 := Fr.nil n0
  have tt := own_tt hx hby own_ok30
  rw [ef_rm30a112 m b280a i368]
  refine own_go (T' := s₁) (f' := (mkF m 2 #[oR b280a, oI 0, .val (.int i368), oU, oU] [(.int i368), vI 0])) (fun _ k => own_e X0 tt 0 2 k rfl) ?_
  obtain ⟨_, T375, Lc375, X375, hQ375, st375⟩ := own_outC (Jvm.LawKit.callS X0 hx (y := mn24) hown (mvT hZ (ow168 hw)) (mvT hZ (ow169 hw)) (mvT hZ (ow87 hw)) (mvT hZ (ow170 hw)) (by decide) (backOf (W := 0) (rm31a85 l Z a0 hw [] i368 h0 n0 Z0 PP5) hZ (ow170 hw) (ow87 hw) (by decide) (by decide)) (g := (mkF m 2 #[oR b280a, oI 0, .val (.int i368), oU, oU] [(.int i368), vI 0])) rfl (by rw [hml]; rfl) (argsL := [(.int (0 : Int32)), (.int i368)]) (rest := []) (lenOf pd14 rfl) rfl (by show 2 * 0 + _ ≤ _; exact Nat.le_of_eq rfl) (hb hby d30_2) (fun _ _ => ⟨rfl, e0, (by decide : 0 + 0 ≤ _), (by decide : 0 + 0 ≤ _)⟩))
  obtain ⟨rfl, N375q, hh375⟩ := hQ375
  have N375 := Fr.app N0 N375q
  obtain ⟨_, X375, N375⟩ := own_hide X375 N375
  refine own_go (T' := T375) (f' := (mkF m 10 #[oR b280a, oI 0, .val (.int i368), .val (.int (i368 - (0 : Int32))), oU] [(.int (i368 - (0 : Int32)))])) (fun _ k => st375 _ (own_e X375 tt 5 5 k rfl)) ?_
  obtain ⟨T376, h376, k376, X376, e376, E376, A376, EA376, st376⟩ := newPE (aty := .byte) X375 hx hZ (ow32 hw) hh375 (g := (mkF m 10 #[oR b280a, oI 0, .val (.int i368), .val (.int (i368 - (0 : Int32))), oU] [(.int (i368 - (0 : Int32)))])) rfl (hb hby d30_10) rfl PP6 (cap := 42) (own_cap (by decide) PP7) (by decide) (by decide) (by decide) (ad := "[B") (by decide +kernel)
  obtain ⟨b376, g_b376⟩ : ∃ z, z = h0.size := ⟨_, rfl⟩
  have sg_b376 : h0.size ≤ b376 := Nat.le_of_eq g_b376.symm
  rw [← g_b376] at A376 EA376 st376
  have n_b376 : n0 ≤ b376 := Nat.le_trans Z0 (Nat.le_of_eq g_b376.symm)
  have sz_b376 : h0.size ≤ b376 := Nat.le_trans (Keep.refl h0 []).1 (Nat.le_of_eq g_b376.symm)
  have K376 : Keep h0 h376 [] := (Keep.refl h0 []).ext E376
  have V_b376 : Arv Z h376 b376 k376 .byte (i368 - (0 : Int32)) [] (.int (0 : Int32)) := Arv.new A376 PP6
  obtain ⟨us376, hl376, Vo376⟩ := own_open V_b376
  refine own_go (T' := T376) (f' := (mkF m 24 #[oR b280a, oI 0, .val (.int i368), .val (.int (i368 - (0 : Int32))), oR b376] [(.int (i368 - (0 : Int32))), vI 70, vI 0, vR b376, vI 0, vR b280a])) (fun _ k => st376 _ (own_r X376 tt 12 6 rfl (own_alen X376 hx hZ e376 (PV25.ext E376) rfl rfl (hb hby d30_20) (own_e X376 tt 21 3 k rfl)))) ?_
  obtain ⟨_, T377, Lc377, X377, hQ377, st377⟩ := own_outC (Jvm.LawKit.callS X376 hx (y := mn0) hown (mvT hZ (ow89 hw)) (mvT hZ (ow2 hw)) (mvT hZ (ow3 hw)) (mvT hZ (ow4 hw)) (by decide) (backOf (W := 4) (rm1a102 l Z a0 hw [] (i368 - (0 : Int32)) h376 n0 (Nat.le_trans Z0 E376.1) PP8) hZ (ow4 hw) (ow3 hw) (by decide) (by decide)) (g := (mkF m 24 #[oR b280a, oI 0, .val (.int i368), .val (.int (i368 - (0 : Int32))), oR b376] [(.int (i368 - (0 : Int32))), vI 70, vI 0, vR b376, vI 0, vR b280a])) rfl (by rw [hml]; rfl) (argsL := [(.int (70 : Int32)), (.int (i368 - (0 : Int32)))]) (rest := [(.int (0 : Int32)), (.ref b376), (.int (0 : Int32)), (.ref b280a)]) (lenOf pd12 rfl) rfl (by show 2 * 0 + _ ≤ _; exact Nat.le_of_eq rfl) (hb hby d30_24) (fun _ _ => ⟨rfl, e376, (by decide : 1 + 0 ≤ _), (by decide : 42 + 0 ≤ _)⟩))
  obtain ⟨rfl, N377q, hh377⟩ := hQ377
  have N377 := Fr.app N375 N377q
  obtain ⟨_, X377, N377⟩ := own_hide X377 N377
  refine own_go (T' := T377) (f' := (mkF m 27 #[oR b280a, oI 0, .val (.int i368), .val (.int (i368 - (0 : Int32))), oR b376] [(.int (i368 - (0 : Int32))), vI 0, vR b376, vI 0, vR b280a])) (fun _ k => st377 _ k) ?_
  obtain ⟨T378, h378, Lq378, X378, e378, N378, K378, V378, st378⟩ := cpA X377 hx hZ hown (ow90 hw) (ow93 hw) (ow91 hw) (ow92 hw) hh377 (PV25.ext E376) Vo376 (Or.inl ⟨rfl, rfl⟩) (sp := (0 : Int32)) (dp := (0 : Int32)) (nn := (i368 - (0 : Int32))) (by decide) (by decide) PP6 (own_cl0 PP10) (own_cl0 PP9) rfl (by rw [hl376]; exact (own_cl0 PP9)) N377 n_b376 (g := (mkF m 27 #[oR b280a, oI 0, .val (.int i368), .val (.int (i368 - (0 : Int32))), oR b376] [(.int (i368 - (0 : Int32))), vI 0, vR b376, vI 0, vR b280a])) rfl (by rw [hml]; rfl) rfl (hb hby d30_27) (by decide) (W := 0) (by show 2 * 0 + _ ≤ _; exact Nat.le_of_eq rfl) (by decide)
  obtain ⟨us378, hl378, Vo378⟩ := own_open V378
  have KK378 : Keep h0 h378 [] := Keep.trans K376 K378 (allS (Or.inr sz_b376) all0)
  refine own_go (T' := T378) (f' := (mkF m 32 #[oR b280a, oI 0, .val (.int i368), .val (.int (i368 - (0 : Int32))), oR b376] [vR b376])) (fun _ k => st378 _ (own_e X378 tt 30 1 k rfl)) ?_
  refine own_ret X378 (v := some (.ref b376)) (fun h => by rw [Br] at h; cases h) Bs (fun fs hr => own_retA X378 hx Br rfl rfl (hb hby d30_32) hr) ?_ (by decide) (by decide)
  show Q30a112 Z b280a i368 k280b us280c h0 n0 _ T378.heap _
  rw [e378]
  exact ⟨b376, k376, us378, rfl, N378, KK378, n_b376, sz_b376, Vo378, (EA376.keep K378), hl378⟩
theorem pd29 : parseMethodDescriptor "([BII)[B" = some ⟨[(.array .byte), .int, .int], some (.array .byte)⟩ := by decide +kernel
def own_t29 (pc : Nat) : Option (Instr × Nat) := bif Nat.ble pc 5 then (bif Nat.ble pc 1 then (bif Nat.ble pc 0 then (bif Nat.beq pc 0 then some (.iload_n 1, 1) else none) else (bif Nat.beq pc 1 then some (.ifCond .ne 9, 3) else none)) else (bif Nat.ble pc 4 then (bif Nat.beq pc 4 then some (.iload_n 2, 1) else none) else (bif Nat.beq pc 5 then some (.aload_n 0, 1) else none))) else (bif Nat.ble pc 10 then (bif Nat.ble pc 7 then (bif Nat.beq pc 7 then some (.if_icmp .eq 10, 3) else none) else (bif Nat.beq pc 10 then some (.aload_n 0, 1) else none)) else (bif Nat.ble pc 11 then (bif Nat.beq pc 11 then some (.iload_n 1, 1) else none) else (bif Nat.ble pc 12 then (bif Nat.beq pc 12 then some (.iload_n 2, 1) else none) else (bif Nat.beq pc 17 then some (.aload_n 0, 1) else none))))
theorem own_ok29 : ∀ pc q, own_fetch 25 own_t29 pc = some q → decode jdk_65_method_132_code pc = .ok q := own_tab (by decide +kernel)
theorem d29_6 : decode jdk_65_method_132_code 6 = .ok (.arraylength, 1) := by decide +kernel
theorem d29_7 : decode jdk_65_method_132_code 7 = .ok (.if_icmp .eq 10, 3) := by decide +kernel
theorem d29_13 : decode jdk_65_method_132_code 13 = .ok (.invokestatic 339, 3) := by decide +kernel
theorem d29_16 : decode jdk_65_method_132_code 16 = .ok (.areturn, 1) := by decide +kernel
theorem ef_rm29a111 (m : MethodId) (b280a : Addr) (i368 : Int32) : entryFrame m #[(.ref b280a), (.int (0 : Int32)), (.int i368)] 3 = mkF m 0 #[.val (.ref b280a), .val (.int (0 : Int32)), .val (.int i368)] [] := by first | (simp [entryFrame, mkF, argsToLocals, Value.category]; done) | rfl
def Q29a111 (Z : State) (b280a : Addr) (i368 : Int32) (k280b : ClassId) (us280c : List Value) (h0 : Heap) (n0 : Nat) (v : Option Value) (h : Heap) (L : List Loc) : Prop := ∃ (b379a : Addr) (k379b : ClassId) (us379c : List Value), v = some (.ref b379a) ∧ Fr n0 L ∧ Keep h0 h [] ∧ n0 ≤ b379a ∧ h0.size ≤ b379a ∧ Arv Z h b379a k379b .byte (i368 - (0 : Int32)) us379c (.int (0 : Int32)) ∧ Exa Z h b379a "[B" ∧ us379c.length = ((i368 - (0 : Int32))).toNatClampNeg
set_option maxRecDepth 65536 in
set_option maxHeartbeats 40000000 in
theorem rm29a111 (l : Launch) (Z : State) (a0 : Array Value) (hw : ∀ d ∈ tables_1, d.before a0 Z = true) (ws : List Jvm.Cond) (b280a : Addr) (i368 : Int32) (k280b : ClassId) (us280c : List Value) (h0 : Heap) (n0 : Nat) (Z0 : n0 ≤ h0.size) (PV25 : Arv Z h0 b280a k280b .byte (70 : Int32) us280c (.int (0 : Int32))) (PP4 : ¬ (i368 = (70 : Int32))) (PP5 : ¬ (i368 < (0 : Int32))) (PP6 : ¬ ((i368 - (0 : Int32)) < (0 : Int32))) (PP7 : ¬ ((42 : Int32) < (i368 - (0 : Int32)))) (PP8 : (i368 - (0 : Int32)) < (70 : Int32)) (PP9 : ¬ ((i368 - (0 : Int32)) < (i368 - (0 : Int32)))) (PP10 : ¬ ((70 : Int32) < (i368 - (0 : Int32)))) :
    own_Met l mn26 jdk_65_method_132_code 3 (some (.array .byte)) ws (oRm 2 1 42 34) #[(.ref b280a), (.int (0 : Int32)), (.int i368)] Z h0 (Q29a111 Z b280a i368 k280b us280c h0 n0) := by
  refine own_met (own := "java/util/Arrays") rfl (plainFor_of_name pn_11) ?_
  intro p e s m below meth c s₁ hx hby hml hZ hown hnm X0 e0 Br Bs
  have N0 := Fr.nil n0
  have tt := own_tt hx hby own_ok29
  rw [ef_rm29a111 m b280a i368]
  refine own_go (T' := s₁) (f' := (mkF m 13 #[oR b280a, oI 0, .val (.int i368)] [(.int i368), vI 0, vR b280a])) (fun _ k => own_r X0 tt 0 4 rfl (own_alen X0 hx hZ e0 PV25 rfl rfl (hb hby d29_6) (XS.icmpNo X0.here hx rfl (hb hby d29_7) rfl (feq PP4).1 (own_e X0 tt 10 3 k rfl)))) ?_
  obtain ⟨_, T379, Lc379, X379, hQ379, st379⟩ := own_outC (Jvm.LawKit.callS X0 hx (y := mn25) hown (mvT hZ (ow165 hw)) (mvT hZ (ow166 hw)) (mvT hZ (ow87 hw)) (mvT hZ (ow167 hw)) (by decide) (backOf (W := 0) (rm30a112 l Z a0 hw [] b280a i368 k280b us280c h0 n0 Z0 PV25 PP5 PP6 PP7 PP8 PP9 PP10) hZ (ow167 hw) (ow87 hw) (by decide) (by decide)) (g := (mkF m 13 #[oR b280a, oI 0, .val (.int i368)] [(.int i368), vI 0, vR b280a])) rfl (by rw [hml]; rfl) (argsL := [(.ref b280a), (.int (0 : Int32)), (.int i368)]) (rest := []) (lenOf pd29 rfl) rfl (by show 2 * 0 + _ ≤ _; exact Nat.le_of_eq rfl) (hb hby d29_13) (fun _ _ => ⟨rfl, e0, (by decide : 0 + 1 ≤ _), (by decide : 0 + 42 ≤ _)⟩))
  obtain ⟨b379a, k379b, us379c, rfl, N379q, K379, n_b379a, sg_b379a, g379_0, g379_1, g379_2⟩ := hQ379
  have N379 := Fr.app N0 N379q
  have sz_b379a : h0.size ≤ b379a := Nat.le_trans (Keep.refl h0 []).1 sg_b379a
  have eK379 : T379.heap = T379.heap := rfl
  have KK379 : Keep h0 T379.heap [] := Keep.trans (Keep.refl h0 []) K379 all0
  obtain ⟨_, X379, N379⟩ := own_hide X379 N379
  refine own_go (T' := T379) (f' := (mkF m 16 #[oR b280a, oI 0, .val (.int i368)] [vR b379a])) (fun _ k => st379 _ k) ?_
  refine own_ret X379 (v := some (.ref b379a)) (fun h => by rw [Br] at h; cases h) Bs (fun fs hr => own_retA X379 hx Br rfl rfl (hb hby d29_16) hr) ?_ (by decide) (by decide)
  show Q29a111 Z b280a i368 k280b us280c h0 n0 _ T379.heap _
  rw [eK379]
  exact ⟨b379a, k379b, us379c, rfl, N379, KK379, n_b379a, sz_b379a, g379_0, g379_1, g379_2⟩
def own_t25 (pc : Nat) : Option (Instr × Nat) := bif Nat.ble pc 19 then (bif Nat.ble pc 8 then (bif Nat.ble pc 0 then (bif Nat.beq pc 0 then some (.aload_n 0, 1) else none) else (bif Nat.ble pc 4 then (bif Nat.beq pc 4 then some (.aload_n 1, 1) else none) else (bif Nat.beq pc 8 then some (.astore_n 3, 1) else none))) else (bif Nat.ble pc 13 then (bif Nat.ble pc 9 then (bif Nat.beq pc 9 then some (.aload_n 1, 1) else none) else (bif Nat.beq pc 13 then some (.istore 4, 2) else none)) else (bif Nat.ble pc 15 then (bif Nat.beq pc 15 then some (.aload_n 1, 1) else none) else (bif Nat.beq pc 19 then some (.ifCond .eq 22, 3) else none)))) else (bif Nat.ble pc 27 then (bif Nat.ble pc 22 then (bif Nat.beq pc 22 then some (.aload_n 0, 1) else none) else (bif Nat.ble pc 23 then (bif Nat.beq pc 23 then some (.iconst 0, 1) else none) else (bif Nat.beq pc 27 then some (.aload_n 0, 1) else none))) else (bif Nat.ble pc 29 then (bif Nat.ble pc 28 then (bif Nat.beq pc 28 then some (.aload_n 3, 1) else none) else (bif Nat.beq pc 29 then some (.iconst 0, 1) else none)) else (bif Nat.ble pc 30 then (bif Nat.beq pc 30 then some (.iload 4, 2) else none) else (bif Nat.beq pc 38 then some (.goto 59, 3) else none))))
theorem own_ok25 : ∀ pc q, own_fetch 98 own_t25 pc = some q → decode jdk_42_method_150_code pc = .ok q := own_tab (by decide +kernel)
theorem d25_1 : decode jdk_42_method_150_code 1 = .ok (.invokespecial 1, 3) := by decide +kernel
theorem d25_5 : decode jdk_42_method_150_code 5 = .ok (.invokevirtual 552, 3) := by decide +kernel
theorem d25_10 : decode jdk_42_method_150_code 10 = .ok (.invokevirtual 549, 3) := by decide +kernel
theorem d25_16 : decode jdk_42_method_150_code 16 = .ok (.invokevirtual 1047, 3) := by decide +kernel
theorem d25_24 : decode jdk_42_method_150_code 24 = .ok (.putfield 15, 3) := by decide +kernel
theorem d25_32 : decode jdk_42_method_150_code 32 = .ok (.invokestatic 54, 3) := by decide +kernel
theorem d25_35 : decode jdk_42_method_150_code 35 = .ok (.putfield 9, 3) := by decide +kernel
theorem d25_97 : decode jdk_42_method_150_code 97 = .ok (.return_, 1) := by decide +kernel
theorem ef_rm25a110 (m : MethodId) (b369 : Addr) (b2 : Addr) : entryFrame m #[(.ref b369), (.ref b2), .null] 5 = mkF m 0 #[.val (.ref b369), .val (.ref b2), .val .null, .unset, .unset] [] := by first | (simp [entryFrame, mkF, argsToLocals, Value.category]; done) | rfl
def Q25a110 (Z : State) (b369 : Addr) (b2 : Addr) (cs : Int32) (b280a : Addr) (i368 : Int32) (k280b : ClassId) (us280c : List Value) (h0 : Heap) (n0 : Nat) (v : Option Value) (h : Heap) (L : List Loc) : Prop := ∃ (b380a : Addr) (k380b : ClassId) (us380c : List Value), v = none ∧ Fr n0 L ∧ Keep h0 h [b369] ∧ n0 ≤ b380a ∧ h0.size ≤ b380a ∧ Fld Z h b369 "java/lang/String" "value" "[B" (.ref b380a) ∧ Fld Z h b369 "java/lang/String" "coder" "B" (.int (0 : Int32)) ∧ Arv Z h b380a k380b .byte (i368 - (0 : Int32)) us380c (.int (0 : Int32)) ∧ Exa Z h b380a "[B" ∧ us380c.length = ((i368 - (0 : Int32))).toNatClampNeg
set_option maxRecDepth 65536 in
set_option maxHeartbeats 40000000 in
theorem rm25a110 (l : Launch) (Z : State) (a0 : Array Value) (hw : ∀ d ∈ tables_1, d.before a0 Z = true) (ws : List Jvm.Cond) (b369 : Addr) (b2 : Addr) (cs : Int32) (b280a : Addr) (i368 : Int32) (k280b : ClassId) (us280c : List Value) (h0 : Heap) (n0 : Nat) (Z0 : n0 ≤ h0.size) (PS0 : Sta Z h0 "java/lang/String" "COMPACT_STRINGS" "Z" (.int cs)) (PE9 : Exa Z h0 b2 "java/lang/StringBuilder") (PF10 : Fld Z h0 b2 "java/lang/AbstractStringBuilder" "value" "[B" (.ref b280a)) (PF11 : Fld Z h0 b2 "java/lang/AbstractStringBuilder" "coder" "B" (.int (0 : Int32))) (PF12 : Fld Z h0 b2 "java/lang/AbstractStringBuilder" "count" "I" (.int i368)) (PV25 : Arv Z h0 b280a k280b .byte (70 : Int32) us280c (.int (0 : Int32))) (PE27 : Exa Z h0 b369 "java/lang/String") (PF28 : Fld Z h0 b369 "java/lang/String" "value" "[B" .null) (PF29 : Fld Z h0 b369 "java/lang/String" "coder" "B" (.int (0 : Int32))) (PP0 : ¬ (cs = (0 : Int32))) (PP4 : ¬ (i368 = (70 : Int32))) (PP5 : ¬ (i368 < (0 : Int32))) (PP6 : ¬ ((i368 - (0 : Int32)) < (0 : Int32))) (PP7 : ¬ ((42 : Int32) < (i368 - (0 : Int32)))) (PP8 : (i368 - (0 : Int32)) < (70 : Int32)) (PP9 : ¬ ((i368 - (0 : Int32)) < (i368 - (0 : Int32)))) (PP10 : ¬ ((70 : Int32) < (i368 - (0 : Int32)))) (ne_b280a_b369 : b280a ≠ b369) (n_b369 : n0 ≤ b369) :
    own_Met l mn27 jdk_42_method_150_code 5 none ws (oRm 3 1 42 49) #[(.ref b369), (.ref b2), .null] Z h0 (Q25a110 Z b369 b2 cs b280a i368 k280b us280c h0 n0) := by
  refine own_met (own := "java/lang/String") rfl (plainFor_of_name pn_7) ?_
  intro p e s m below meth c s₁ hx hby hml hZ hown hnm X0 e0 Br Bs
  have N0 := Fr.nil n0
  have tt := own_tt hx hby own_ok25
  rw [ef_rm25a110 m b369 b2]
  refine own_go (T' := s₁) (f' := (mkF m 1 #[oR b369, oR b2, .val .null, oU, oU] [vR b369])) (fun _ k => own_e X0 tt 0 1 k rfl) ?_
  obtain ⟨T370, X370, e370, st370⟩ := initO X0 hx hZ hown (ow147 hw) (ow28 hw) (ow29 hw) e0 (g := (mkF m 1 #[oR b369, oR b2, .val .null, oU, oU] [vR b369])) rfl (by rw [hml]; rfl) rfl (hb hby d25_1) (by decide) (W := 0) (by show 2 * 0 + _ ≤ _; exact Nat.le_of_eq rfl) (by decide)
  refine own_go (T' := T370) (f' := (mkF m 5 #[oR b369, oR b2, .val .null, oU, oU] [vR b2])) (fun _ k => st370 _ (own_e X370 tt 4 1 k rfl)) ?_
  obtain ⟨cq371, kq371, q371a, q371b, q371c⟩ := isOf hZ e370 PE9
  obtain ⟨_, T371, Lc371, X371, hQ371, st371⟩ := own_out (X370.virtualBack hx (y := mn21) (z := mn21) hown (mvT hZ (ow148 hw)) (mvT hZ (ow149 hw)) (notFace_of_selects (args := #[]) (mvT hZ (ow151 hw))) (mvT hZ (ow151 hw)) (mvT hZ (ow150 hw)) (by decide) (backOf (W := 0) (rm26a70 l Z a0 hw [] b2 b280a h0 n0 Z0 PF10) hZ (ow152 hw) (ow25 hw) (by decide) (by decide)) q371a q371c (g := (mkF m 5 #[oR b369, oR b2, .val .null, oU, oU] [vR b2])) rfl (by rw [hml]; rfl) (Steps.refl _) (argsL := []) (rest := []) (lenOf pd7 rfl) rfl (by show 2 * 0 + _ ≤ _; exact Nat.le_of_eq rfl) (hb hby d25_5) (fun _ _ => ⟨rfl, e370, (by decide : 0 + 0 ≤ _), (by decide : 0 + 0 ≤ _)⟩))
  obtain ⟨rfl, N371q, hh371⟩ := hQ371
  have N371 := Fr.app N0 N371q
  obtain ⟨_, X371, N371⟩ := own_hide X371 N371
  refine own_go (T' := T371) (f' := (mkF m 10 #[oR b369, oR b2, .val .null, oR b280a, oU] [vR b2])) (fun _ k => st371.trans (own_e X371 tt 8 2 k rfl)) ?_
  obtain ⟨cq372, kq372, q372a, q372b, q372c⟩ := isOf hZ hh371 PE9
  obtain ⟨_, T372, Lc372, X372, hQ372, st372⟩ := own_out (X371.virtualBack hx (y := mn22) (z := mn23) hown (mvT hZ (ow153 hw)) (mvT hZ (ow154 hw)) (own_nf (args := #[]) (y2 := mn11) (mvT hZ (ow71 hw)) rfl) (mvT hZ (ow156 hw)) (mvT hZ (ow157 hw)) (by decide) (backOf (W := 0) (rm27a71 l Z a0 hw [] b2 i368 h0 n0 Z0 PE9 PF12) hZ (ow158 hw) (ow17 hw) (by decide) (by decide)) q372a q372c (g := (mkF m 10 #[oR b369, oR b2, .val .null, oR b280a, oU] [vR b2])) rfl (by rw [hml]; rfl) (Steps.refl _) (argsL := []) (rest := []) (lenOf pd1 rfl) rfl (by show 2 * 0 + _ ≤ _; exact Nat.le_of_eq rfl) (hb hby d25_10) (fun _ _ => ⟨rfl, hh371, (by decide : 0 + 0 ≤ _), (by decide : 0 + 0 ≤ _)⟩))
  obtain ⟨rfl, N372q, hh372⟩ := hQ372
  have N372 := Fr.app N371 N372q
  obtain ⟨_, X372, N372⟩ := own_hide X372 N372
  refine own_go (T' := T372) (f' := (mkF m 16 #[oR b369, oR b2, .val .null, oR b280a, .val (.int i368)] [vR b2])) (fun _ k => st372.trans (own_e X372 tt 13 2 k rfl)) ?_
  obtain ⟨cq373, kq373, q373a, q373b, q373c⟩ := isOf hZ hh372 PE9
  obtain ⟨_, T373, Lc373, X373, hQ373, st373⟩ := own_out (X372.virtualBack hx (y := mn17) (z := mn17) hown (mvT hZ (ow161 hw)) (mvT hZ (ow125 hw)) (notFace_of_selects (args := #[]) (mvT hZ (ow127 hw))) (mvT hZ (ow127 hw)) (mvT hZ (ow126 hw)) (by decide) (backOf (W := 0) (rm21a22 l Z a0 hw [] b2 cs h0 n0 Z0 PS0 PF11 PP0) hZ (ow128 hw) (ow25 hw) (by decide) (by decide)) q373a q373c (g := (mkF m 16 #[oR b369, oR b2, .val .null, oR b280a, .val (.int i368)] [vR b2])) rfl (by rw [hml]; rfl) (Steps.refl _) (argsL := []) (rest := []) (lenOf pd6 rfl) rfl (by show 2 * 0 + _ ≤ _; exact Nat.le_of_eq rfl) (hb hby d25_16) (fun _ _ => ⟨rfl, hh372, (by decide : 0 + 0 ≤ _), (by decide : 0 + 0 ≤ _)⟩))
  obtain ⟨rfl, N373q, hh373⟩ := hQ373
  have N373 := Fr.app N372 N373q
  obtain ⟨_, X373, N373⟩ := own_hide X373 N373
  refine own_go (T' := T373) (f' := (mkF m 24 #[oR b369, oR b2, .val .null, oR b280a, .val (.int i368)] [vI 0, vR b369])) (fun _ k => st373.trans (own_e X373 tt 19 3 k rfl)) ?_
  obtain ⟨T374, h374, X374, e374, W374, st374⟩ := putFN X373 hx hZ hown (ow65 hw) Via.refl hh373 PF29 PE27 (Or.inr ⟨(ow40 hw), rfl, hnm⟩) (ow38 hw) (ty := .byte) (v' := (.int (0 : Int32))) (by decide) rfl (fits_nar_byte (0 : Int32)) (g := (mkF m 24 #[oR b369, oR b2, .val .null, oR b280a, .val (.int i368)] [vI 0, vR b369])) rfl rfl (hb hby d25_24)
  have Fw374 := Fld.same W374 PF29
  have K374 : Keep h0 h374 [b369] := (Keep.refl h0 [b369]).wr W374 (Or.inl (List.mem_of_getElem? (i := 0) rfl))
  have N374 := Fr.snoc X374 N373 n_b369
  refine own_go (T' := T374) (f' := (mkF m 32 #[oR b369, oR b2, .val .null, oR b280a, .val (.int i368)] [(.int i368), vI 0, vR b280a, vR b369])) (fun _ k => st374 _ (own_e X374 tt 27 4 k rfl)) ?_
  obtain ⟨_, T380, Lc380, X380, hQ380, st380⟩ := own_outC (Jvm.LawKit.callS X374 hx (y := mn26) hown (mvT hZ (ow162 hw)) (mvT hZ (ow163 hw)) (mvT hZ (ow87 hw)) (mvT hZ (ow164 hw)) (by decide) (backOf (W := 1) (rm29a111 l Z a0 hw [] b280a i368 k280b us280c h374 n0 (Nat.le_trans Z0 (Keep.of_wr W374).1) (PV25.other W374 ne_b280a_b369) PP4 PP5 PP6 PP7 PP8 PP9 PP10) hZ (ow164 hw) (ow87 hw) (by decide) (by decide)) (g := (mkF m 32 #[oR b369, oR b2, .val .null, oR b280a, .val (.int i368)] [(.int i368), vI 0, vR b280a, vR b369])) rfl (by rw [hml]; rfl) (argsL := [(.ref b280a), (.int (0 : Int32)), (.int i368)]) (rest := [(.ref b369)]) (lenOf pd29 rfl) rfl (by show 2 * 0 + _ ≤ _; exact Nat.le_of_eq rfl) (hb hby d25_32) (fun _ _ => ⟨rfl, e374, (by decide : 0 + 1 ≤ _), (by decide : 0 + 42 ≤ _)⟩))
  obtain ⟨b380a, k380b, us380c, rfl, N380q, K380, n_b380a, sg_b380a, g380_0, g380_1, g380_2⟩ := hQ380
  have N380 := Fr.app N374 N380q
  have sz_b380a : h0.size ≤ b380a := Nat.le_trans K374.1 sg_b380a
  have eK380 : T380.heap = T380.heap := rfl
  have KK380 : Keep h0 T380.heap [b369] := Keep.trans K374 K380 all0
  obtain ⟨_, X380, N380⟩ := own_hide X380 N380
  refine own_go (T' := T380) (f' := (mkF m 35 #[oR b369, oR b2, .val .null, oR b280a, .val (.int i368)] [vR b380a, vR b369])) (fun _ k => st380 _ k) ?_
  have G381 := ((PF28.other W374 (Or.inr (slot_ne (Or.inr (ow39 hw)) (Or.inr (ow40 hw)) (by decide) (t := (.array .byte)) (t' := .byte) (by decide) (by decide)))).keep K380 nin0)
  obtain ⟨T382, h382, X382, e382, W382, st382⟩ := putF X380 hx hZ hown (host := "") (Or.inl (ow58 hw)) Via.refl eK380 G381 ((PE27.wr W374).keep K380) (Or.inr ⟨(ow39 hw), rfl, hnm⟩) (ow38 hw) (ty := (.array .byte)) (by decide) rfl rfl (g := (mkF m 35 #[oR b369, oR b2, .val .null, oR b280a, .val (.int i368)] [vR b380a, vR b369])) rfl rfl (hb hby d25_35)
  have Fw382 := Fld.same W382 G381
  have K382 : Keep h0 h382 [b369] := KK380.wr W382 (Or.inl (List.mem_of_getElem? (i := 0) rfl))
  have N382 := Fr.snoc X382 N380 n_b369
  refine own_go (T' := T382) (f' := (mkF m 97 #[oR b369, oR b2, .val .null, oR b280a, .val (.int i368)] [])) (fun _ k => st382 _ (own_e X382 tt 38 1 k rfl)) ?_
  refine own_ret X382 (v := none) (fun _ => rfl) Bs (fun fs hr => X382.returnOut hx Br (hb hby d25_97) hr) ?_ (by decide) (by decide)
  show Q25a110 Z b369 b2 cs b280a i368 k280b us280c h0 n0 _ T382.heap _
  have G383 := ((Fw374.keep K380 nin0).other W382 (Or.inr (slot_ne (Or.inr (ow40 hw)) (Or.inr (ow39 hw)) (by decide) (t := .byte) (t' := (.array .byte)) (by decide) (by decide))))
  have q384 : b380a ≠ b369 := (Ne.symm (Nat.ne_of_lt (Nat.lt_of_lt_of_le PE27.lt sz_b380a)))
  rw [e382]
  exact ⟨b380a, k380b, us380c, rfl, N382, K382, n_b380a, sz_b380a, Fw382, G383, (g380_0.other W382 q384), (g380_1.wr W382), g380_2⟩
theorem pd19 : parseMethodDescriptor "(Ljava/lang/AbstractStringBuilder;Ljava/lang/Void;)V" = some ⟨[(.object "java/lang/AbstractStringBuilder"), (.object "java/lang/Void")], none⟩ := by decide +kernel
def own_t24 (pc : Nat) : Option (Instr × Nat) := bif Nat.ble pc 0 then (bif Nat.beq pc 0 then some (.aload_n 0, 1) else none) else (bif Nat.ble pc 1 then (bif Nat.beq pc 1 then some (.aload_n 1, 1) else none) else (bif Nat.beq pc 2 then some (.aconst_null, 1) else none))
theorem own_ok24 : ∀ pc q, own_fetch 7 own_t24 pc = some q → decode jdk_42_method_53_code pc = .ok q := own_tab (by decide +kernel)
theorem d24_3 : decode jdk_42_method_53_code 3 = .ok (.invokespecial 489, 3) := by decide +kernel
theorem d24_6 : decode jdk_42_method_53_code 6 = .ok (.return_, 1) := by decide +kernel
theorem ef_rm24a109 (m : MethodId) (b369 : Addr) (b2 : Addr) : entryFrame m #[(.ref b369), (.ref b2)] 2 = mkF m 0 #[.val (.ref b369), .val (.ref b2)] [] := by first | (simp [entryFrame, mkF, argsToLocals, Value.category]; done) | rfl
def Q24a109 (Z : State) (b369 : Addr) (b2 : Addr) (cs : Int32) (b280a : Addr) (i368 : Int32) (k280b : ClassId) (us280c : List Value) (h0 : Heap) (n0 : Nat) (v : Option Value) (h : Heap) (L : List Loc) : Prop := ∃ (b385a : Addr) (k385b : ClassId) (us385c : List Value), v = none ∧ Fr n0 L ∧ Keep h0 h [b369] ∧ n0 ≤ b385a ∧ h0.size ≤ b385a ∧ Fld Z h b369 "java/lang/String" "value" "[B" (.ref b385a) ∧ Fld Z h b369 "java/lang/String" "coder" "B" (.int (0 : Int32)) ∧ Arv Z h b385a k385b .byte (i368 - (0 : Int32)) us385c (.int (0 : Int32)) ∧ Exa Z h b385a "[B" ∧ us385c.length = ((i368 - (0 : Int32))).toNatClampNeg
set_option maxRecDepth 65536 in
set_option maxHeartbeats 40000000 in
theorem rm24a109 (l : Launch) (Z : State) (a0 : Array Value) (hw : ∀ d ∈ tables_1, d.before a0 Z = true) (ws : List Jvm.Cond) (b369 : Addr) (b2 : Addr) (cs : Int32) (b280a : Addr) (i368 : Int32) (k280b : ClassId) (us280c : List Value) (h0 : Heap) (n0 : Nat) (Z0 : n0 ≤ h0.size) (PS0 : Sta Z h0 "java/lang/String" "COMPACT_STRINGS" "Z" (.int cs)) (PE9 : Exa Z h0 b2 "java/lang/StringBuilder") (PF10 : Fld Z h0 b2 "java/lang/AbstractStringBuilder" "value" "[B" (.ref b280a)) (PF11 : Fld Z h0 b2 "java/lang/AbstractStringBuilder" "coder" "B" (.int (0 : Int32))) (PF12 : Fld Z h0 b2 "java/lang/AbstractStringBuilder" "count" "I" (.int i368)) (PV25 : Arv Z h0 b280a k280b .byte (70 : Int32) us280c (.int (0 : Int32))) (PE27 : Exa Z h0 b369 "java/lang/String") (PF28 : Fld Z h0 b369 "java/lang/String" "value" "[B" .null) (PF29 : Fld Z h0 b369 "java/lang/String" "coder" "B" (.int (0 : Int32))) (PP0 : ¬ (cs = (0 : Int32))) (PP4 : ¬ (i368 = (70 : Int32))) (PP5 : ¬ (i368 < (0 : Int32))) (PP6 : ¬ ((i368 - (0 : Int32)) < (0 : Int32))) (PP7 : ¬ ((42 : Int32) < (i368 - (0 : Int32)))) (PP8 : (i368 - (0 : Int32)) < (70 : Int32)) (PP9 : ¬ ((i368 - (0 : Int32)) < (i368 - (0 : Int32)))) (PP10 : ¬ ((70 : Int32) < (i368 - (0 : Int32)))) (ne_b280a_b369 : b280a ≠ b369) (n_b369 : n0 ≤ b369) :
    own_Met l mn28 jdk_42_method_53_code 2 none ws (oRm 4 1 42 65) #[(.ref b369), (.ref b2)] Z h0 (Q24a109 Z b369 b2 cs b280a i368 k280b us280c h0 n0) := by
  refine own_met (own := "java/lang/String") rfl (plainFor_of_name pn_7) ?_
  intro p e s m below meth c s₁ hx hby hml hZ hown hnm X0 e0 Br Bs
  have N0 := Fr.nil n0
  have tt := own_tt hx hby own_ok24
  rw [ef_rm24a109 m b369 b2]
  refine own_go (T' := s₁) (f' := (mkF m 3 #[oR b369, oR b2] [.null, vR b2, vR b369])) (fun _ k => own_e X0 tt 0 3 k rfl) ?_
  obtain ⟨_, T385, Lc385, X385, hQ385, st385⟩ := own_out (X0.specialBack hx (y := mn27) rfl hown (mvT hZ (ow144 hw)) (mvT hZ (ow145 hw)) (mvT hZ (ow146 hw)) (by decide) (backOf (W := 0) (rm25a110 l Z a0 hw [] b369 b2 cs b280a i368 k280b us280c h0 n0 Z0 PS0 PE9 PF10 PF11 PF12 PV25 PE27 PF28 PF29 PP0 PP4 PP5 PP6 PP7 PP8 PP9 PP10 ne_b280a_b369 n_b369) hZ (ow146 hw) (ow31 hw) (by decide) (by decide)) (g := (mkF m 3 #[oR b369, oR b2] [.null, vR b2, vR b369])) rfl (by rw [hml]; rfl) (Steps.refl _) (a := b369) (argsL := [(.ref b2), .null]) (rest := []) (lenOf pd19 rfl) rfl (by show 2 * 0 + _ ≤ _; exact Nat.le_of_eq rfl) (hb hby d24_3) (fun _ _ => ⟨rfl, e0, (by decide : 0 + 1 ≤ _), (by decide : 0 + 42 ≤ _)⟩))
  obtain ⟨b385a, k385b, us385c, rfl, N385q, K385, n_b385a, sg_b385a, g385_0, g385_1, g385_2, g385_3, g385_4⟩ := hQ385
  have N385 := Fr.app N0 N385q
  have sz_b385a : h0.size ≤ b385a := Nat.le_trans (Keep.refl h0 [b369]).1 sg_b385a
  have eK385 : T385.heap = T385.heap := rfl
  have KK385 : Keep h0 T385.heap [b369] := Keep.trans (Keep.refl h0 [b369]) K385 (allS (Or.inl (List.mem_of_getElem? (i := 0) rfl)) all0)
  obtain ⟨_, X385, N385⟩ := own_hide X385 N385
  refine own_go (T' := T385) (f' := (mkF m 6 #[oR b369, oR b2] [])) (fun _ k => st385.trans k) ?_
  refine own_ret X385 (v := none) (fun _ => rfl) Bs (fun fs hr => X385.returnOut hx Br (hb hby d24_6) hr) ?_ (by decide) (by decide)
  show Q24a109 Z b369 b2 cs b280a i368 k280b us280c h0 n0 _ T385.heap _
  rw [eK385]
  exact ⟨b385a, k385b, us385c, rfl, N385, KK385, n_b385a, sz_b385a, g385_0, g385_1, g385_2, g385_3, g385_4⟩
theorem pd25 : parseMethodDescriptor "(Ljava/lang/StringBuilder;)V" = some ⟨[(.object "java/lang/StringBuilder")], none⟩ := by decide +kernel
def own_t23 (pc : Nat) : Option (Instr × Nat) := bif Nat.ble pc 3 then (bif Nat.beq pc 3 then some (.dup, 1) else none) else (bif Nat.beq pc 4 then some (.aload_n 0, 1) else none)
theorem own_ok23 : ∀ pc q, own_fetch 9 own_t23 pc = some q → decode jdk_67_method_42_code pc = .ok q := own_tab (by decide +kernel)
theorem d23_0 : decode jdk_67_method_42_code 0 = .ok (.new 18, 3) := by decide +kernel
theorem d23_5 : decode jdk_67_method_42_code 5 = .ok (.invokespecial 137, 3) := by decide +kernel
theorem d23_8 : decode jdk_67_method_42_code 8 = .ok (.areturn, 1) := by decide +kernel
theorem ef_rm23a108 (m : MethodId) (b2 : Addr) : entryFrame m #[(.ref b2)] 1 = mkF m 0 #[.val (.ref b2)] [] := by first | (simp [entryFrame, mkF, argsToLocals, Value.category]; done) | rfl
def Q23a108 (Z : State) (b2 : Addr) (cs : Int32) (b280a : Addr) (i368 : Int32) (k280b : ClassId) (us280c : List Value) (h0 : Heap) (n0 : Nat) (v : Option Value) (h : Heap) (L : List Loc) : Prop := ∃ (b369 : Addr) (b387a : Addr) (k387b : ClassId) (us387c : List Value), v = some (.ref b369) ∧ Fr n0 L ∧ Keep h0 h [] ∧ n0 ≤ b369 ∧ h0.size ≤ b369 ∧ n0 ≤ b387a ∧ h0.size ≤ b387a ∧ b387a ≠ b369 ∧ Exa Z h b369 "java/lang/String" ∧ Fld Z h b369 "java/lang/String" "value" "[B" (.ref b387a) ∧ Fld Z h b369 "java/lang/String" "coder" "B" (.int (0 : Int32)) ∧ Arv Z h b387a k387b .byte (i368 - (0 : Int32)) us387c (.int (0 : Int32)) ∧ Exa Z h b387a "[B" ∧ us387c.length = ((i368 - (0 : Int32))).toNatClampNeg
set_option maxRecDepth 65536 in
set_option maxHeartbeats 40000000 in
theorem rm23a108 (l : Launch) (Z : State) (a0 : Array Value) (hw : ∀ d ∈ tables_1, d.before a0 Z = true) (ws : List Jvm.Cond) (b2 : Addr) (cs : Int32) (b280a : Addr) (i368 : Int32) (k280b : ClassId) (us280c : List Value) (h0 : Heap) (n0 : Nat) (Z0 : n0 ≤ h0.size) (PS0 : Sta Z h0 "java/lang/String" "COMPACT_STRINGS" "Z" (.int cs)) (PE9 : Exa Z h0 b2 "java/lang/StringBuilder") (PF10 : Fld Z h0 b2 "java/lang/AbstractStringBuilder" "value" "[B" (.ref b280a)) (PF11 : Fld Z h0 b2 "java/lang/AbstractStringBuilder" "coder" "B" (.int (0 : Int32))) (PF12 : Fld Z h0 b2 "java/lang/AbstractStringBuilder" "count" "I" (.int i368)) (PV25 : Arv Z h0 b280a k280b .byte (70 : Int32) us280c (.int (0 : Int32))) (PP0 : ¬ (cs = (0 : Int32))) (PP4 : ¬ (i368 = (70 : Int32))) (PP5 : ¬ (i368 < (0 : Int32))) (PP6 : ¬ ((i368 - (0 : Int32)) < (0 : Int32))) (PP7 : ¬ ((42 : Int32) < (i368 - (0 : Int32)))) (PP8 : (i368 - (0 : Int32)) < (70 : Int32)) (PP9 : ¬ ((i368 - (0 : Int32)) < (i368 - (0 : Int32)))) (PP10 : ¬ ((70 : Int32) < (i368 - (0 : Int32)))) :
    own_Met l mn29 jdk_67_method_42_code 1 (some (.object "java/lang/String")) ws (oRm 5 2 46 79) #[(.ref b2)] Z h0 (Q23a108 Z b2 cs b280a i368 k280b us280c h0 n0) := by
  refine own_met (own := "java/lang/StringBuilder") rfl (plainFor_of_name pn_8) ?_
  intro p e s m below meth c s₁ hx hby hml hZ hown hnm X0 e0 Br Bs
  have N0 := Fr.nil n0
  have tt := own_tt hx hby own_ok23
  rw [ef_rm23a108 m b2]
  obtain ⟨T369, h369, X369, e369, E369, A369, D369, -, st369⟩ := newO X0 hx hZ hown (ow139 hw) (ow38 hw) (ow31 hw) e0 (g := (mkF m 0 #[oR b2] [])) rfl (hb hby d23_0) (by decide) (by decide)
  obtain ⟨b369, g_b369⟩ : ∃ z, z = h0.size := ⟨_, rfl⟩
  have sg_b369 : h0.size ≤ b369 := Nat.le_of_eq g_b369.symm
  rw [← g_b369] at A369 D369 st369
  have n_b369 : n0 ≤ b369 := Nat.le_trans Z0 (Nat.le_of_eq g_b369.symm)
  have sz_b369 : h0.size ≤ b369 := Nat.le_trans (Keep.refl h0 []).1 (Nat.le_of_eq g_b369.symm)
  have K369 : Keep h0 h369 [] := (Keep.refl h0 []).ext E369
  have F_value_b369 : Fld Z h369 b369 "java/lang/String" "value" "[B" .null := D369 (Or.inr (ow39 hw)) (ty := (.array .byte)) (by decide)
  have F_coder_b369 : Fld Z h369 b369 "java/lang/String" "coder" "B" (.int (0 : Int32)) := D369 (Or.inr (ow40 hw)) (ty := .byte) (by decide)
  refine own_go (T' := T369) (f' := (mkF m 5 #[oR b2] [vR b2, vR b369, vR b369])) (fun _ k => st369 _ (own_e X369 tt 3 2 k rfl)) ?_
  have q386 : b280a ≠ b369 := (Nat.ne_of_lt (Nat.lt_of_lt_of_le PV25.lt sz_b369))
  obtain ⟨_, T387, Lc387, X387, hQ387, st387⟩ := own_out (X369.specialBack hx (y := mn28) rfl hown (mvT hZ (ow140 hw)) (mvT hZ (ow141 hw)) (mvT hZ (ow143 hw)) (by decide) (backOf (W := 1) (rm24a109 l Z a0 hw [] b369 b2 cs b280a i368 k280b us280c h369 n0 (Nat.le_trans Z0 E369.1) (PS0.ext E369) (PE9.ext E369) (PF10.ext E369) (PF11.ext E369) (PF12.ext E369) (PV25.ext E369) A369 F_value_b369 F_coder_b369 PP0 PP4 PP5 PP6 PP7 PP8 PP9 PP10 q386 n_b369) hZ (ow143 hw) (ow31 hw) (by decide) (by decide)) (g := (mkF m 5 #[oR b2] [vR b2, vR b369, vR b369])) rfl (by rw [hml]; rfl) (Steps.refl _) (a := b369) (argsL := [(.ref b2)]) (rest := [(.ref b369)]) (lenOf pd25 rfl) rfl (by show 2 * 0 + _ ≤ _; exact Nat.le_of_eq rfl) (hb hby d23_5) (fun _ _ => ⟨rfl, e369, (by decide : 1 + 1 ≤ _), (by decide : 4 + 42 ≤ _)⟩))
  obtain ⟨b387a, k387b, us387c, rfl, N387q, K387, n_b387a, sg_b387a, g387_0, g387_1, g387_2, g387_3, g387_4⟩ := hQ387
  have N387 := Fr.app N0 N387q
  have sz_b387a : h0.size ≤ b387a := Nat.le_trans K369.1 sg_b387a
  have u388 : b369 < h369.size := A369.lt
  have m389 : h0.size ≤ h369.size := (Nat.le_trans (Nat.le_refl _) E369.1)
  have eK387 : T387.heap = T387.heap := rfl
  have KK387 : Keep h0 T387.heap [] := Keep.trans K369 K387 (allS (Or.inr sz_b369) all0)
  obtain ⟨_, X387, N387⟩ := own_hide X387 N387
  refine own_go (T' := T387) (f' := (mkF m 8 #[oR b2] [vR b369])) (fun _ k => st387.trans k) ?_
  refine own_ret X387 (v := some (.ref b369)) (fun h => by rw [Br] at h; cases h) Bs (fun fs hr => own_retA X387 hx Br rfl rfl (hb hby d23_8) hr) ?_ (by decide) (by decide)
  show Q23a108 Z b2 cs b280a i368 k280b us280c h0 n0 _ T387.heap _
  have q390 : b387a ≠ b369 := (Ne.symm (Nat.ne_of_lt (Nat.lt_of_lt_of_le u388 sg_b387a)))
  rw [eK387]
  exact ⟨b369, b387a, k387b, us387c, rfl, N387, KK387, n_b369, sz_b369, n_b387a, sz_b387a, q390, (A369.keep K387), g387_0, g387_1, g387_2, g387_3, g387_4⟩
theorem pd4 : parseMethodDescriptor "()Ljava/lang/String;" = some ⟨[], some (.object "java/lang/String")⟩ := by decide +kernel
def own_t32 (pc : Nat) : Option (Instr × Nat) := bif Nat.ble pc 5 then (bif Nat.ble pc 0 then (bif Nat.beq pc 0 then some (.aload_n 0, 1) else none) else (bif Nat.ble pc 4 then (bif Nat.beq pc 4 then some (.aload_n 0, 1) else none) else (bif Nat.beq pc 5 then some (.iload_n 1, 1) else none))) else (bif Nat.ble pc 10 then (bif Nat.ble pc 9 then (bif Nat.beq pc 9 then some (.aload_n 0, 1) else none) else (bif Nat.beq pc 10 then some (.lload_n 2, 1) else none)) else (bif Nat.ble pc 14 then (bif Nat.beq pc 14 then some (.aload_n 0, 1) else none) else (bif Nat.beq pc 15 then some (.aload 4, 2) else none)))
theorem own_ok32 : ∀ pc q, own_fetch 21 own_t32 pc = some q → decode prog_4_method_1_code pc = .ok q := own_tab (by decide +kernel)
theorem d32_1 : decode prog_4_method_1_code 1 = .ok (.invokespecial 3, 3) := by decide +kernel
theorem d32_6 : decode prog_4_method_1_code 6 = .ok (.putfield 9, 3) := by decide +kernel
theorem d32_11 : decode prog_4_method_1_code 11 = .ok (.putfield 15, 3) := by decide +kernel
theorem d32_17 : decode prog_4_method_1_code 17 = .ok (.putfield 19, 3) := by decide +kernel
theorem d32_20 : decode prog_4_method_1_code 20 = .ok (.return_, 1) := by decide +kernel
theorem pn_0 : plainName "com/example/tally_of_calls/tallyofcalls/Count" = true := by first | (simp [plainName, overriddenIn]; done) | decide +kernel
theorem ef_rm32a113 (m : MethodId) (b1 : Addr) (y0 : Int32) (j394 : Int64) (b391a : Addr) : entryFrame m #[(.ref b1), (.int y0), (.long j394), (.ref b391a)] 5 = mkF m 0 #[.val (.ref b1), .val (.int y0), .val (.long j394), .second, .val (.ref b391a)] [] := by first | (simp [entryFrame, mkF, argsToLocals, Value.category]; done) | rfl
def Q32a113 (Z : State) (b1 : Addr) (y0 : Int32) (j394 : Int64) (b391a : Addr) (h0 : Heap) (n0 : Nat) (v : Option Value) (h : Heap) (L : List Loc) : Prop := v = none ∧ Fr n0 L ∧ Keep h0 h [b1] ∧ Fld Z h b1 "com/example/tally_of_calls/tallyofcalls/Count" "min" "I" (.int y0) ∧ Fld Z h b1 "com/example/tally_of_calls/tallyofcalls/Count" "max" "J" (.long j394) ∧ Fld Z h b1 "com/example/tally_of_calls/tallyofcalls/Count" "phrase" "Ljava/lang/String;" (.ref b391a)
set_option maxRecDepth 65536 in
set_option maxHeartbeats 40000000 in
theorem rm32a113 (l : Launch) (Z : State) (a0 : Array Value) (hw : ∀ d ∈ tables_1, d.before a0 Z = true) (ws : List Jvm.Cond) (b1 : Addr) (y0 : Int32) (j394 : Int64) (b391a : Addr) (h0 : Heap) (n0 : Nat) (Z0 : n0 ≤ h0.size) (PE5 : Exa Z h0 b1 "com/example/tally_of_calls/tallyofcalls/Count") (PF6 : Fld Z h0 b1 "com/example/tally_of_calls/tallyofcalls/Count" "min" "I" (.int (0 : Int32))) (PF7 : Fld Z h0 b1 "com/example/tally_of_calls/tallyofcalls/Count" "max" "J" (.long (0 : Int64))) (PF8 : Fld Z h0 b1 "com/example/tally_of_calls/tallyofcalls/Count" "phrase" "Ljava/lang/String;" .null) (n_b1 : n0 ≤ b1) :
    own_Met l mn30 prog_4_method_1_code 5 none ws (oRm 1 0 0 12) #[(.ref b1), (.int y0), (.long j394), (.ref b391a)] Z h0 (Q32a113 Z b1 y0 j394 b391a h0 n0) := by
  refine own_met (own := "com/example/tally_of_calls/tallyofcalls/Count") rfl (plainFor_of_name pn_0) ?_
  intro p e s m below meth c s₁ hx hby hml hZ hown hnm X0 e0 Br Bs
  have N0 := Fr.nil n0
  have tt := own_tt hx hby own_ok32
  rw [ef_rm32a113 m b1 y0 j394 b391a]
  refine own_go (T' := s₁) (f' := (mkF m 1 #[oR b1, .val (.int y0), .val (.long j394), oS, oR b391a] [vR b1])) (fun _ k => own_e X0 tt 0 1 k rfl) ?_
  obtain ⟨T397, X397, e397, st397⟩ := initO X0 hx hZ hown (ow174 hw) (ow28 hw) (ow29 hw) e0 (g := (mkF m 1 #[oR b1, .val (.int y0), .val (.long j394), oS, oR b391a] [vR b1])) rfl (by rw [hml]; rfl) rfl (hb hby d32_1) (by decide) (W := 0) (by show 2 * 0 + _ ≤ _; exact Nat.le_of_eq rfl) (by decide)
  refine own_go (T' := T397) (f' := (mkF m 6 #[oR b1, .val (.int y0), .val (.long j394), oS, oR b391a] [(.int y0), vR b1])) (fun _ k => st397 _ (own_e X397 tt 4 2 k rfl)) ?_
  obtain ⟨T398, h398, X398, e398, W398, st398⟩ := putF X397 hx hZ hown (host := "") (Or.inl (ow175 hw)) Via.refl e397 PF6 PE5 (Or.inr ⟨(ow176 hw), rfl, hnm⟩) (ow13 hw) (ty := .int) (by decide) rfl rfl (g := (mkF m 6 #[oR b1, .val (.int y0), .val (.long j394), oS, oR b391a] [(.int y0), vR b1])) rfl rfl (hb hby d32_6)
  have Fw398 := Fld.same W398 PF6
  have K398 : Keep h0 h398 [b1] := (Keep.refl h0 [b1]).wr W398 (Or.inl (List.mem_of_getElem? (i := 0) rfl))
  have N398 := Fr.snoc X398 N0 n_b1
  refine own_go (T' := T398) (f' := (mkF m 11 #[oR b1, .val (.int y0), .val (.long j394), oS, oR b391a] [(.long j394), vR b1])) (fun _ k => st398 _ (own_e X398 tt 9 2 k rfl)) ?_
  have G399 := (PF7.other W398 (Or.inr (slot_ne (Or.inr (ow178 hw)) (Or.inr (ow176 hw)) (by decide) (t := .long) (t' := .int) (by decide) (by decide))))
  obtain ⟨T400, h400, X400, e400, W400, st400⟩ := putF X398 hx hZ hown (host := "") (Or.inl (ow177 hw)) Via.refl e398 G399 (PE5.wr W398) (Or.inr ⟨(ow178 hw), rfl, hnm⟩) (ow13 hw) (ty := .long) (by decide) rfl rfl (g := (mkF m 11 #[oR b1, .val (.int y0), .val (.long j394), oS, oR b391a] [(.long j394), vR b1])) rfl rfl (hb hby d32_11)
  have Fw400 := Fld.same W400 G399
  have K400 : Keep h0 h400 [b1] := K398.wr W400 (Or.inl (List.mem_of_getElem? (i := 0) rfl))
  have N400 := Fr.snoc X400 N398 n_b1
  refine own_go (T' := T400) (f' := (mkF m 17 #[oR b1, .val (.int y0), .val (.long j394), oS, oR b391a] [vR b391a, vR b1])) (fun _ k => st400 _ (own_e X400 tt 14 2 k rfl)) ?_
  have G401 := ((PF8.other W398 (Or.inr (slot_ne (Or.inr (ow180 hw)) (Or.inr (ow176 hw)) (by decide) (t := (.object "java/lang/String")) (t' := .int) (by decide) (by decide)))).other W400 (Or.inr (slot_ne (Or.inr (ow180 hw)) (Or.inr (ow178 hw)) (by decide) (t := (.object "java/lang/String")) (t' := .long) (by decide) (by decide))))
  obtain ⟨T402, h402, X402, e402, W402, st402⟩ := putF X400 hx hZ hown (host := "") (Or.inl (ow179 hw)) Via.refl e400 G401 ((PE5.wr W398).wr W400) (Or.inr ⟨(ow180 hw), rfl, hnm⟩) (ow13 hw) (ty := (.object "java/lang/String")) (by decide) rfl rfl (g := (mkF m 17 #[oR b1, .val (.int y0), .val (.long j394), oS, oR b391a] [vR b391a, vR b1])) rfl rfl (hb hby d32_17)
  have Fw402 := Fld.same W402 G401
  have K402 : Keep h0 h402 [b1] := K400.wr W402 (Or.inl (List.mem_of_getElem? (i := 0) rfl))
  have N402 := Fr.snoc X402 N400 n_b1
  refine own_go (T' := T402) (f' := (mkF m 20 #[oR b1, .val (.int y0), .val (.long j394), oS, oR b391a] [])) (fun _ k => st402 _ k) ?_
  refine own_ret X402 (v := none) (fun _ => rfl) Bs (fun fs hr => X402.returnOut hx Br (hb hby d32_20) hr) ?_ (by decide) (by decide)
  show Q32a113 Z b1 y0 j394 b391a h0 n0 _ T402.heap _
  have G403 := ((Fw398.other W400 (Or.inr (slot_ne (Or.inr (ow176 hw)) (Or.inr (ow178 hw)) (by decide) (t := .int) (t' := .long) (by decide) (by decide)))).other W402 (Or.inr (slot_ne (Or.inr (ow176 hw)) (Or.inr (ow180 hw)) (by decide) (t := .int) (t' := (.object "java/lang/String")) (by decide) (by decide))))
  have G404 := (Fw400.other W402 (Or.inr (slot_ne (Or.inr (ow178 hw)) (Or.inr (ow180 hw)) (by decide) (t := .long) (t' := (.object "java/lang/String")) (by decide) (by decide))))
  rw [e402]
  exact ⟨rfl, N402, K402, G403, G404, Fw402⟩
theorem pd17 : parseMethodDescriptor "(IJLjava/lang/String;)V" = some ⟨[.int, .long, (.object "java/lang/String")], none⟩ := by decide +kernel
theorem ef_rm19a119 (m : MethodId) (b2 : Addr) (y1 : Int32) : entryFrame m #[(.ref b2), (.int y1)] 4 = mkF m 0 #[.val (.ref b2), .val (.int y1), .unset, .unset] [] := by first | (simp [entryFrame, mkF, argsToLocals, Value.category]; done) | rfl
def Q19a119 (Z : State) (b2 : Addr) (y1 : Int32) (cs : Int32) (wd : Addr) (kd : ClassId) (vd : List Value) (wt : Addr) (kt : ClassId) (vt : List Value) (b66a : Addr) (i440 : Int32) (k66b : ClassId) (us188a : List Value) (h0 : Heap) (n0 : Nat) (v : Option Value) (h : Heap) (L : List Loc) : Prop := ∃ (us446 : List Value), v = some (.ref b2) ∧ Fr n0 L ∧ Keep h0 h [b66a, b2] ∧ Arv Z h b66a k66b .byte (34 : Int32) us446 (.int (0 : Int32)) ∧ Fld Z h b2 "java/lang/AbstractStringBuilder" "value" "[B" (.ref b66a) ∧ Fld Z h b2 "java/lang/AbstractStringBuilder" "coder" "B" (.int (0 : Int32)) ∧ Fld Z h b2 "java/lang/AbstractStringBuilder" "count" "I" (.int (i440 + (own_dg y1))) ∧ us446.length = ((34 : Int32)).toNatClampNeg
set_option maxRecDepth 65536 in
set_option maxHeartbeats 40000000 in
theorem rm19a119 (l : Launch) (Z : State) (a0 : Array Value) (hw : ∀ d ∈ tables_1, d.before a0 Z = true) (ws : List Jvm.Cond) (b2 : Addr) (y1 : Int32) (cs : Int32) (wd : Addr) (kd : ClassId) (vd : List Value) (wt : Addr) (kt : ClassId) (vt : List Value) (b66a : Addr) (i440 : Int32) (k66b : ClassId) (us188a : List Value) (h0 : Heap) (n0 : Nat) (Z0 : n0 ≤ h0.size) (PS0 : Sta Z h0 "java/lang/String" "COMPACT_STRINGS" "Z" (.int cs)) (PS1 : Sta Z h0 "java/lang/Integer" "DigitOnes" "[B" (.ref wd)) (PV2 : Arv Z h0 wd kd .byte (100 : Int32) vd (.int (0 : Int32))) (PS3 : Sta Z h0 "java/lang/Integer" "DigitTens" "[B" (.ref wt)) (PV4 : Arv Z h0 wt kt .byte (100 : Int32) vt (.int (0 : Int32))) (PE9 : Exa Z h0 b2 "java/lang/StringBuilder") (PF10 : Fld Z h0 b2 "java/lang/AbstractStringBuilder" "value" "[B" (.ref b66a)) (PF11 : Fld Z h0 b2 "java/lang/AbstractStringBuilder" "coder" "B" (.int (0 : Int32))) (PF12 : Fld Z h0 b2 "java/lang/AbstractStringBuilder" "count" "I" (.int i440)) (PV19 : Arv Z h0 b66a k66b .byte (34 : Int32) us188a (.int (0 : Int32))) (PP0 : ¬ (cs = (0 : Int32))) (PP2 : ¬ (y1 < (0 : Int32))) (PP3 : ¬ ((0 : Int32) < ((i440 + (own_dg y1)) - (34 : Int32)))) (PP4 : ¬ ((i440 + (own_dg y1)) < (own_dg y1))) (PP5 : ¬ ((34 : Int32) < (i440 + (own_dg y1)))) (ne_b66a_wd : b66a ≠ wd) (ne_b66a_wt : b66a ≠ wt) (ne_b2_b66a : b2 ≠ b66a) (ne_b66a_b2 : b66a ≠ b2) (n_b2 : n0 ≤ b2) (n_b66a : n0 ≤ b66a) (pr_st_vd : own_SameSt Z) :
    own_Met l mn19 jdk_68_method_32_code 4 (some (.object "java/lang/AbstractStringBuilder")) ws (oRm 2 0 0 78) #[(.ref b2), (.int y1)] Z h0 (Q19a119 Z b2 y1 cs wd kd vd wt kt vt b66a i440 k66b us188a h0 n0) := by
  refine own_met (own := "java/lang/AbstractStringBuilder") rfl (plainFor_of_name pn_3) ?_
  intro p e s m below meth c s₁ hx hby hml hZ hown hnm X0 e0 Br Bs
  have N0 := Fr.nil n0
  have tt := own_tt hx hby own_ok19
  rw [ef_rm19a119 m b2 y1]
  refine own_go (T' := s₁) (f' := (mkF m 1 #[oR b2, .val (.int y1), oU, oU] [vR b2])) (fun _ k => own_e X0 tt 0 1 k rfl) ?_
  obtain ⟨T441, X441, e441, st441⟩ := getF X0 hx hZ hown (host := "") (Or.inl (ow66 hw)) Via.refl e0 PF12 (g := (mkF m 1 #[oR b2, .val (.int y1), oU, oU] [vR b2])) rfl rfl (hb hby d19_1)
  refine own_go (T' := T441) (f' := (mkF m 7 #[oR b2, .val (.int y1), .val (.int i440), oU] [(.int y1), (.int i440)])) (fun _ k => st441 _ (own_e X441 tt 4 3 k rfl)) ?_
  obtain ⟨_, T442, Lc442, X442, hQ442, st442⟩ := own_outC (Jvm.LawKit.callS X441 hx (y := mn3) hown (mvT hZ (ow120 hw)) (mvT hZ (ow121 hw)) (mvT hZ (ow122 hw)) (mvT hZ (ow123 hw)) (by decide) (backOf (W := 1) (rm20 l Z a0 hw [] y1 h0 n0 Z0 PP2) hZ (ow123 hw) (ow122 hw) (by decide) (by decide)) (g := (mkF m 7 #[oR b2, .val (.int y1), .val (.int i440), oU] [(.int y1), (.int i440)])) rfl (by rw [hml]; rfl) (argsL := [(.int y1)]) (rest := [(.int i440)]) (lenOf pd8 rfl) rfl (by show 2 * 0 + _ ≤ _; exact Nat.le_of_eq rfl) (hb hby d19_7) (fun _ _ => ⟨rfl, e441, (by decide : 0 + 0 ≤ _), (by decide : 0 + 0 ≤ _)⟩))
  obtain ⟨rfl, N442q, hh442⟩ := hQ442
  have N442 := Fr.app N0 N442q
  obtain ⟨_, X442, N442⟩ := own_hide X442 N442
  refine own_go (T' := T442) (f' := (mkF m 14 #[oR b2, .val (.int y1), .val (.int i440), .val (.int (i440 + (own_dg y1)))] [(.int (i440 + (own_dg y1))), vR b2])) (fun _ k => st442 _ (own_e X442 tt 10 4 k rfl)) ?_
  obtain ⟨cq443, q443, q443'⟩ := PE9.cell
  obtain ⟨_, T443, Lc443, X443, hQ443, st443⟩ := own_out (X442.privateBack hx (y := mn11) hown (mvT hZ (ow68 hw)) (mvT hZ (ow69 hw)) (own_selp (mvT hZ (ow71 hw)) (Cond.privateMethod_at (mvP hZ (ow70 hw) (args := #[]))) (mvT hZ (ow69 hw)) (by decide)) (Cond.privateMethod_at (mvP hZ (ow70 hw) (args := #[]))) (mvT hZ (ow72 hw)) (by decide) (backOf (W := 0) (rm11a33 l Z a0 hw [] b2 (i440 + (own_dg y1)) b66a k66b us188a h0 n0 Z0 PF10 PF11 PV19 PP3) hZ (ow72 hw) (ow25 hw) (by decide) (by decide)) (g := (mkF m 14 #[oR b2, .val (.int y1), .val (.int i440), .val (.int (i440 + (own_dg y1)))] [(.int (i440 + (own_dg y1))), vR b2])) rfl (by rw [hml]; rfl) (Steps.refl _) (a := b2) (by rw [hh442]; exact q443) q443' (argsL := [(.int (i440 + (own_dg y1)))]) (rest := []) (lenOf pd11 rfl) rfl (by show 2 * 0 + _ ≤ _; exact Nat.le_of_eq rfl) (hb hby d19_14) (fun _ _ => ⟨rfl, hh442, (by decide : 0 + 0 ≤ _), (by decide : 0 + 0 ≤ _)⟩))
  obtain ⟨rfl, N443q, hh443⟩ := hQ443
  have N443 := Fr.app N442 N443q
  obtain ⟨_, X443, N443⟩ := own_hide X443 N443
  refine own_go (T' := T443) (f' := (mkF m 18 #[oR b2, .val (.int y1), .val (.int i440), .val (.int (i440 + (own_dg y1)))] [vR b2])) (fun _ k => st443.trans (own_e X443 tt 17 1 k rfl)) ?_
  obtain ⟨cq444, kq444, q444a, q444b, q444c⟩ := isOf hZ hh443 PE9
  obtain ⟨_, T444, Lc444, X444, hQ444, st444⟩ := own_out (X443.virtualBack hx (y := mn17) (z := mn17) hown (mvT hZ (ow124 hw)) (mvT hZ (ow125 hw)) (notFace_of_selects (args := #[]) (mvT hZ (ow127 hw))) (mvT hZ (ow127 hw)) (mvT hZ (ow126 hw)) (by decide) (backOf (W := 0) (rm21a22 l Z a0 hw [] b2 cs h0 n0 Z0 PS0 PF11 PP0) hZ (ow128 hw) (ow25 hw) (by decide) (by decide)) q444a q444c (g := (mkF m 18 #[oR b2, .val (.int y1), .val (.int i440), .val (.int (i440 + (own_dg y1)))] [vR b2])) rfl (by rw [hml]; rfl) (Steps.refl _) (argsL := []) (rest := []) (lenOf pd6 rfl) rfl (by show 2 * 0 + _ ≤ _; exact Nat.le_of_eq rfl) (hb hby d19_18) (fun _ _ => ⟨rfl, hh443, (by decide : 0 + 0 ≤ _), (by decide : 0 + 0 ≤ _)⟩))
  obtain ⟨rfl, N444q, hh444⟩ := hQ444
  have N444 := Fr.app N443 N444q
  obtain ⟨_, X444, N444⟩ := own_hide X444 N444
  refine own_go (T' := T444) (f' := (mkF m 27 #[oR b2, .val (.int y1), .val (.int i440), .val (.int (i440 + (own_dg y1)))] [vR b2, (.int (i440 + (own_dg y1))), (.int y1)])) (fun _ k => st444.trans (own_e X444 tt 21 4 k rfl)) ?_
  obtain ⟨T445, X445, e445, st445⟩ := getF X444 hx hZ hown (host := "") (Or.inl (ow33 hw)) Via.refl hh444 PF10 (g := (mkF m 27 #[oR b2, .val (.int y1), .val (.int i440), .val (.int (i440 + (own_dg y1)))] [vR b2, (.int (i440 + (own_dg y1))), (.int y1)])) rfl rfl (hb hby d19_27)
  refine own_go (T' := T445) (f' := (mkF m 30 #[oR b2, .val (.int y1), .val (.int i440), .val (.int (i440 + (own_dg y1)))] [vR b66a, (.int (i440 + (own_dg y1))), (.int y1)])) (fun _ k => st445 _ k) ?_
  obtain ⟨_, T446, Lc446, X446, hQ446, st446⟩ := own_outC (Jvm.LawKit.callS X445 hx (y := mn18) hown (mvT hZ (ow129 hw)) (mvT hZ (ow130 hw)) (mvT hZ (ow122 hw)) (mvT hZ (ow131 hw)) (by decide) (own_gcBack hZ hw (W := 0) (n0 := n0) PV19 PS1 PV2 PS3 PV4 ne_b66a_wd ne_b66a_wt pr_st_vd PP2 PP4 PP5 n_b66a (by decide) (by decide)) (g := (mkF m 30 #[oR b2, .val (.int y1), .val (.int i440), .val (.int (i440 + (own_dg y1)))] [vR b66a, (.int (i440 + (own_dg y1))), (.int y1)])) rfl (by rw [hml]; rfl) (argsL := [(.int y1), (.int (i440 + (own_dg y1))), (.ref b66a)]) (rest := []) (lenOf pd16 rfl) rfl (by show 2 * 0 + _ ≤ _; exact Nat.le_of_eq rfl) (hb hby d19_30) (fun _ _ => ⟨rfl, e445, (by decide : 0 + 0 ≤ _), (by decide : 0 + 0 ≤ _)⟩))
  obtain ⟨r446, us446, rfl, N446q, K446, hl446, V446⟩ := hQ446
  have N446 := Fr.app N444 N446q
  have eK446 : T446.heap = T446.heap := rfl
  have KK446 : Keep h0 T446.heap [b66a, b2] := Keep.trans (Keep.refl h0 [b66a, b2]) K446 (allS (Or.inl (List.mem_of_getElem? (i := 0) rfl)) all0)
  obtain ⟨_, X446, N446⟩ := own_hide X446 N446
  refine own_go (T' := T446) (f' := (mkF m 50 #[oR b2, .val (.int y1), .val (.int i440), .val (.int (i440 + (own_dg y1)))] [(.int (i440 + (own_dg y1))), vR b2])) (fun _ k => st446 _ (own_e X446 tt 33 4 k rfl)) ?_
  obtain ⟨T447, h447, X447, e447, W447, st447⟩ := putF X446 hx hZ hown (host := "") (Or.inl (ow66 hw)) Via.refl eK446 (PF12.keep K446 (ninS ne_b2_b66a nin0)) (PE9.keep K446) (Or.inl (ow67 hw)) (ow16 hw) (ty := .int) (by decide) rfl rfl (g := (mkF m 50 #[oR b2, .val (.int y1), .val (.int i440), .val (.int (i440 + (own_dg y1)))] [(.int (i440 + (own_dg y1))), vR b2])) rfl rfl (hb hby d19_50)
  have Fw447 := Fld.same W447 (PF12.keep K446 (ninS ne_b2_b66a nin0))
  have K447 : Keep h0 h447 [b66a, b2] := KK446.wr W447 (Or.inl (List.mem_of_getElem? (i := 1) rfl))
  have N447 := Fr.snoc X447 N446 n_b2
  refine own_go (T' := T447) (f' := (mkF m 54 #[oR b2, .val (.int y1), .val (.int i440), .val (.int (i440 + (own_dg y1)))] [vR b2])) (fun _ k => st447 _ (own_e X447 tt 53 1 k rfl)) ?_
  refine own_ret X447 (v := some (.ref b2)) (fun h => by rw [Br] at h; cases h) Bs (fun fs hr => own_retA X447 hx Br rfl rfl (hb hby d19_54) hr) ?_ (by decide) (by decide)
  show Q19a119 Z b2 y1 cs wd kd vd wt kt vt b66a i440 k66b us188a h0 n0 _ T447.heap _
  have G448 := ((PF10.keep K446 (ninS ne_b2_b66a nin0)).other W447 (Or.inr (slot_ne (Or.inl (ow34 hw)) (Or.inl (ow67 hw)) (by decide) (t := (.array .byte)) (t' := .int) (by decide) (by decide))))
  have G449 := ((PF11.keep K446 (ninS ne_b2_b66a nin0)).other W447 (Or.inr (slot_ne (Or.inl (ow36 hw)) (Or.inl (ow67 hw)) (by decide) (t := .byte) (t' := .int) (by decide) (by decide))))
  rw [e447]
  exact ⟨us446, rfl, N447, K447, (V446.other W447 ne_b66a_b2), G448, G449, Fw447, hl446⟩
theorem ef_rm18a118 (m : MethodId) (b2 : Addr) (y1 : Int32) : entryFrame m #[(.ref b2), (.int y1)] 2 = mkF m 0 #[.val (.ref b2), .val (.int y1)] [] := by first | (simp [entryFrame, mkF, argsToLocals, Value.category]; done) | rfl
def Q18a118 (Z : State) (b2 : Addr) (y1 : Int32) (cs : Int32) (wd : Addr) (kd : ClassId) (vd : List Value) (wt : Addr) (kt : ClassId) (vt : List Value) (b66a : Addr) (i440 : Int32) (k66b : ClassId) (us188a : List Value) (h0 : Heap) (n0 : Nat) (v : Option Value) (h : Heap) (L : List Loc) : Prop := ∃ (us450a : List Value), v = some (.ref b2) ∧ Fr n0 L ∧ Keep h0 h [b2, b66a] ∧ Fld Z h b2 "java/lang/AbstractStringBuilder" "value" "[B" (.ref b66a) ∧ Fld Z h b2 "java/lang/AbstractStringBuilder" "coder" "B" (.int (0 : Int32)) ∧ Fld Z h b2 "java/lang/AbstractStringBuilder" "count" "I" (.int (i440 + (own_dg y1))) ∧ Arv Z h b66a k66b .byte (34 : Int32) us450a (.int (0 : Int32)) ∧ us450a.length = ((34 : Int32)).toNatClampNeg
set_option maxRecDepth 65536 in
set_option maxHeartbeats 40000000 in
theorem rm18a118 (l : Launch) (Z : State) (a0 : Array Value) (hw : ∀ d ∈ tables_1, d.before a0 Z = true) (ws : List Jvm.Cond) (b2 : Addr) (y1 : Int32) (cs : Int32) (wd : Addr) (kd : ClassId) (vd : List Value) (wt : Addr) (kt : ClassId) (vt : List Value) (b66a : Addr) (i440 : Int32) (k66b : ClassId) (us188a : List Value) (h0 : Heap) (n0 : Nat) (Z0 : n0 ≤ h0.size) (PS0 : Sta Z h0 "java/lang/String" "COMPACT_STRINGS" "Z" (.int cs)) (PS1 : Sta Z h0 "java/lang/Integer" "DigitOnes" "[B" (.ref wd)) (PV2 : Arv Z h0 wd kd .byte (100 : Int32) vd (.int (0 : Int32))) (PS3 : Sta Z h0 "java/lang/Integer" "DigitTens" "[B" (.ref wt)) (PV4 : Arv Z h0 wt kt .byte (100 : Int32) vt (.int (0 : Int32))) (PE9 : Exa Z h0 b2 "java/lang/StringBuilder") (PF10 : Fld Z h0 b2 "java/lang/AbstractStringBuilder" "value" "[B" (.ref b66a)) (PF11 : Fld Z h0 b2 "java/lang/AbstractStringBuilder" "coder" "B" (.int (0 : Int32))) (PF12 : Fld Z h0 b2 "java/lang/AbstractStringBuilder" "count" "I" (.int i440)) (PV19 : Arv Z h0 b66a k66b .byte (34 : Int32) us188a (.int (0 : Int32))) (PP0 : ¬ (cs = (0 : Int32))) (PP2 : ¬ (y1 < (0 : Int32))) (PP3 : ¬ ((0 : Int32) < ((i440 + (own_dg y1)) - (34 : Int32)))) (PP4 : ¬ ((i440 + (own_dg y1)) < (own_dg y1))) (PP5 : ¬ ((34 : Int32) < (i440 + (own_dg y1)))) (ne_b66a_wd : b66a ≠ wd) (ne_b66a_wt : b66a ≠ wt) (ne_b2_b66a : b2 ≠ b66a) (ne_b66a_b2 : b66a ≠ b2) (n_b2 : n0 ≤ b2) (n_b66a : n0 ≤ b66a) (pr_st_vd : own_SameSt Z) :
    own_Met l mn20 jdk_67_method_15_code 2 (some (.object "java/lang/StringBuilder")) ws (oRm 3 0 0 93) #[(.ref b2), (.int y1)] Z h0 (Q18a118 Z b2 y1 cs wd kd vd wt kt vt b66a i440 k66b us188a h0 n0) := by
  refine own_met (own := "java/lang/StringBuilder") rfl (plainFor_of_name pn_8) ?_
  intro p e s m below meth c s₁ hx hby hml hZ hown hnm X0 e0 Br Bs
  have N0 := Fr.nil n0
  have tt := own_tt hx hby own_ok18
  rw [ef_rm18a118 m b2 y1]
  refine own_go (T' := s₁) (f' := (mkF m 2 #[oR b2, .val (.int y1)] [(.int y1), vR b2])) (fun _ k => own_e X0 tt 0 2 k rfl) ?_
  obtain ⟨_, T450, Lc450, X450, hQ450, st450⟩ := own_out (superBack X0 hx hZ (y := mn19) hown (ow116 hw) (own_same (y := mn19) (y2 := mn11) (ow71 hw) rfl (ow117 hw) (by decide)) (ow117 hw) (ow50 hw) (by decide) (backOf (W := 0) (rm19a119 l Z a0 hw [] b2 y1 cs wd kd vd wt kt vt b66a i440 k66b us188a h0 n0 Z0 PS0 PS1 PV2 PS3 PV4 PE9 PF10 PF11 PF12 PV19 PP0 PP2 PP3 PP4 PP5 ne_b66a_wd ne_b66a_wt ne_b2_b66a ne_b66a_b2 n_b2 n_b66a pr_st_vd) hZ (ow119 hw) (ow25 hw) (by decide) (by decide)) e0 (Ins.self PE9) (g := (mkF m 2 #[oR b2, .val (.int y1)] [(.int y1), vR b2])) rfl (by rw [hml]; rfl) (ow119 hw) (argsL := [(.int y1)]) (rest := []) (lenOf pd9 rfl) rfl (by show 2 * 0 + _ ≤ _; exact Nat.le_of_eq rfl) (hb hby d18_2) (fun _ _ => ⟨rfl, e0, (by decide : 0 + 0 ≤ _), (by decide : 0 + 0 ≤ _)⟩))
  obtain ⟨us450a, rfl, N450q, K450, g450_0, g450_1, g450_2, g450_3, g450_4⟩ := hQ450
  have N450 := Fr.app N0 N450q
  have eK450 : T450.heap = T450.heap := rfl
  have KK450 : Keep h0 T450.heap [b2, b66a] := Keep.trans (Keep.refl h0 [b2, b66a]) K450 (allS (Or.inl (List.mem_of_getElem? (i := 1) rfl)) (allS (Or.inl (List.mem_of_getElem? (i := 0) rfl)) all0))
  obtain ⟨_, X450, N450⟩ := own_hide X450 N450
  refine own_go (T' := T450) (f' := (mkF m 7 #[oR b2, .val (.int y1)] [vR b2])) (fun _ k => st450.trans (own_e X450 tt 5 2 k rfl)) ?_
  refine own_ret X450 (v := some (.ref b2)) (fun h => by rw [Br] at h; cases h) Bs (fun fs hr => own_retA X450 hx Br rfl rfl (hb hby d18_7) hr) ?_ (by decide) (by decide)
  show Q18a118 Z b2 y1 cs wd kd vd wt kt vt b66a i440 k66b us188a h0 n0 _ T450.heap _
  rw [eK450]
  exact ⟨us450a, rfl, N450, KK450, g450_1, g450_2, g450_3, g450_0, g450_4⟩
theorem d29_18 : decode jdk_65_method_132_code 18 = .ok (.invokevirtual 310, 3) := by decide +kernel
theorem d29_21 : decode jdk_65_method_132_code 21 = .ok (.checkcast 311, 3) := by decide +kernel
theorem d29_24 : decode jdk_65_method_132_code 24 = .ok (.areturn, 1) := by decide +kernel
theorem ef_rm29a127 (m : MethodId) (b66a : Addr) (i465 : Int32) : entryFrame m #[(.ref b66a), (.int (0 : Int32)), (.int i465)] 3 = mkF m 0 #[.val (.ref b66a), .val (.int (0 : Int32)), .val (.int i465)] [] := by first | (simp [entryFrame, mkF, argsToLocals, Value.category]; done) | rfl
def Q29a127 (Z : State) (b66a : Addr) (i465 : Int32) (k66b : ClassId) (us451a : List Value) (h0 : Heap) (n0 : Nat) (v : Option Value) (h : Heap) (L : List Loc) : Prop := ∃ (b472 : Addr), v = some (.ref b472) ∧ Fr n0 L ∧ Keep h0 h [] ∧ n0 ≤ b472 ∧ h0.size ≤ b472 ∧ Arv Z h b472 k66b .byte (34 : Int32) us451a (.int (0 : Int32)) ∧ Exa Z h b472 "[B"
set_option maxRecDepth 65536 in
set_option maxHeartbeats 40000000 in
theorem rm29a127 (l : Launch) (Z : State) (a0 : Array Value) (hw : ∀ d ∈ tables_1, d.before a0 Z = true) (ws : List Jvm.Cond) (b66a : Addr) (i465 : Int32) (k66b : ClassId) (us451a : List Value) (h0 : Heap) (n0 : Nat) (Z0 : n0 ≤ h0.size) (PV19 : Arv Z h0 b66a k66b .byte (34 : Int32) us451a (.int (0 : Int32))) (PE20 : Exa Z h0 b66a "[B") (PP3 : i465 = (34 : Int32)) :
    own_Met l mn26 jdk_65_method_132_code 3 (some (.array .byte)) ws (oRm 1 1 34 14) #[(.ref b66a), (.int (0 : Int32)), (.int i465)] Z h0 (Q29a127 Z b66a i465 k66b us451a h0 n0) := by
  refine own_met (own := "java/util/Arrays") rfl (plainFor_of_name pn_11) ?_
  intro p e s m below meth c s₁ hx hby hml hZ hown hnm X0 e0 Br Bs
  have N0 := Fr.nil n0
  have tt := own_tt hx hby own_ok29
  rw [ef_rm29a127 m b66a i465]
  refine own_go (T' := s₁) (f' := (mkF m 18 #[oR b66a, oI 0, .val (.int i465)] [vR b66a])) (fun _ k => own_r X0 tt 0 4 rfl (own_alen X0 hx hZ e0 PV19 rfl rfl (hb hby d29_6) (XS.icmpYes X0.here hx rfl (pc0 := 7) (pc' := 17) rfl (hb hby d29_7) rfl (teq PP3).1 (by decide) (by decide) (own_e X0 tt 17 1 k rfl)))) ?_
  obtain ⟨T472, h472, X472, e472, E472, A472, EA472, st472⟩ := cloneH X0 hx hZ hown (ow230 hw) (ow231 hw) (ow235 hw) (ow233 hw) (ow234 hw) (ow236 hw) e0 (hs := []) PV19 PE20 (g := (mkF m 18 #[oR b66a, oI 0, .val (.int i465)] [vR b66a])) rfl (by rw [hml]; rfl) rfl (hb hby d29_18) (by decide) (W := 0) (cap := 34) (by show 2 * 0 + _ ≤ _; exact Nat.le_of_eq rfl) (by decide) (by decide) (by decide) (by decide)
  obtain ⟨b472, g_b472⟩ : ∃ z, z = h0.size := ⟨_, rfl⟩
  have sg_b472 : h0.size ≤ b472 := Nat.le_of_eq g_b472.symm
  rw [← g_b472] at A472 EA472 st472
  have n_b472 : n0 ≤ b472 := Nat.le_trans Z0 (Nat.le_of_eq g_b472.symm)
  have sz_b472 : h0.size ≤ b472 := Nat.le_trans (Keep.refl h0 []).1 (Nat.le_of_eq g_b472.symm)
  have K472 : Keep h0 h472 [] := (Keep.refl h0 []).ext E472
  have V_b472 : Arv Z h472 b472 k66b .byte (34 : Int32) us451a (.int (0 : Int32)) := A472
  refine own_go (T' := T472) (f' := (mkF m 21 #[oR b66a, oI 0, .val (.int i465)] [vR b472])) (fun _ k => st472 _ k) ?_
  obtain ⟨T473, X473, e473, st473⟩ := castY X472 hx hZ hown (ow237 hw) e472 (Ins.self EA472) (g := (mkF m 21 #[oR b66a, oI 0, .val (.int i465)] [vR b472])) rfl rfl (hb hby d29_21)
  refine own_go (T' := T473) (f' := (mkF m 24 #[oR b66a, oI 0, .val (.int i465)] [vR b472])) (fun _ k => st473 _ k) ?_
  refine own_ret X473 (v := some (.ref b472)) (fun h => by rw [Br] at h; cases h) Bs (fun fs hr => own_retA X473 hx Br rfl rfl (hb hby d29_24) hr) ?_ (by decide) (by decide)
  show Q29a127 Z b66a i465 k66b us451a h0 n0 _ T473.heap _
  rw [e473]
  exact ⟨b472, rfl, N0, K472, n_b472, sz_b472, V_b472, EA472⟩
theorem ef_rm25a126 (m : MethodId) (b466 : Addr) (b2 : Addr) : entryFrame m #[(.ref b466), (.ref b2), .null] 5 = mkF m 0 #[.val (.ref b466), .val (.ref b2), .val .null, .unset, .unset] [] := by first | (simp [entryFrame, mkF, argsToLocals, Value.category]; done) | rfl
def Q25a126 (Z : State) (b466 : Addr) (b2 : Addr) (cs : Int32) (b66a : Addr) (i465 : Int32) (k66b : ClassId) (us451a : List Value) (h0 : Heap) (n0 : Nat) (v : Option Value) (h : Heap) (L : List Loc) : Prop := ∃ (b474a : Addr), v = none ∧ Fr n0 L ∧ Keep h0 h [b466] ∧ n0 ≤ b474a ∧ h0.size ≤ b474a ∧ Fld Z h b466 "java/lang/String" "value" "[B" (.ref b474a) ∧ Fld Z h b466 "java/lang/String" "coder" "B" (.int (0 : Int32)) ∧ Arv Z h b474a k66b .byte (34 : Int32) us451a (.int (0 : Int32)) ∧ Exa Z h b474a "[B"
set_option maxRecDepth 65536 in
set_option maxHeartbeats 40000000 in
theorem rm25a126 (l : Launch) (Z : State) (a0 : Array Value) (hw : ∀ d ∈ tables_1, d.before a0 Z = true) (ws : List Jvm.Cond) (b466 : Addr) (b2 : Addr) (cs : Int32) (b66a : Addr) (i465 : Int32) (k66b : ClassId) (us451a : List Value) (h0 : Heap) (n0 : Nat) (Z0 : n0 ≤ h0.size) (PS0 : Sta Z h0 "java/lang/String" "COMPACT_STRINGS" "Z" (.int cs)) (PE9 : Exa Z h0 b2 "java/lang/StringBuilder") (PF10 : Fld Z h0 b2 "java/lang/AbstractStringBuilder" "value" "[B" (.ref b66a)) (PF11 : Fld Z h0 b2 "java/lang/AbstractStringBuilder" "coder" "B" (.int (0 : Int32))) (PF12 : Fld Z h0 b2 "java/lang/AbstractStringBuilder" "count" "I" (.int i465)) (PV19 : Arv Z h0 b66a k66b .byte (34 : Int32) us451a (.int (0 : Int32))) (PE20 : Exa Z h0 b66a "[B") (PE25 : Exa Z h0 b466 "java/lang/String") (PF26 : Fld Z h0 b466 "java/lang/String" "value" "[B" .null) (PF27 : Fld Z h0 b466 "java/lang/String" "coder" "B" (.int (0 : Int32))) (PP0 : ¬ (cs = (0 : Int32))) (PP3 : i465 = (34 : Int32)) (ne_b66a_b466 : b66a ≠ b466) (n_b466 : n0 ≤ b466) :
    own_Met l mn27 jdk_42_method_150_code 5 none ws (oRm 2 1 34 29) #[(.ref b466), (.ref b2), .null] Z h0 (Q25a126 Z b466 b2 cs b66a i465 k66b us451a h0 n0) := by
  refine own_met (own := "java/lang/String") rfl (plainFor_of_name pn_7) ?_
  intro p e s m below meth c s₁ hx hby hml hZ hown hnm X0 e0 Br Bs
  have N0 := Fr.nil n0
  have tt := own_tt hx hby own_ok25
  rw [ef_rm25a126 m b466 b2]
  refine own_go (T' := s₁) (f' := (mkF m 1 #[oR b466, oR b2, .val .null, oU, oU] [vR b466])) (fun _ k => own_e X0 tt 0 1 k rfl) ?_
  obtain ⟨T467, X467, e467, st467⟩ := initO X0 hx hZ hown (ow147 hw) (ow28 hw) (ow29 hw) e0 (g := (mkF m 1 #[oR b466, oR b2, .val .null, oU, oU] [vR b466])) rfl (by rw [hml]; rfl) rfl (hb hby d25_1) (by decide) (W := 0) (by show 2 * 0 + _ ≤ _; exact Nat.le_of_eq rfl) (by decide)
  refine own_go (T' := T467) (f' := (mkF m 5 #[oR b466, oR b2, .val .null, oU, oU] [vR b2])) (fun _ k => st467 _ (own_e X467 tt 4 1 k rfl)) ?_
  obtain ⟨cq468, kq468, q468a, q468b, q468c⟩ := isOf hZ e467 PE9
  obtain ⟨_, T468, Lc468, X468, hQ468, st468⟩ := own_out (X467.virtualBack hx (y := mn21) (z := mn21) hown (mvT hZ (ow148 hw)) (mvT hZ (ow149 hw)) (notFace_of_selects (args := #[]) (mvT hZ (ow151 hw))) (mvT hZ (ow151 hw)) (mvT hZ (ow150 hw)) (by decide) (backOf (W := 0) (rm26a70 l Z a0 hw [] b2 b66a h0 n0 Z0 PF10) hZ (ow152 hw) (ow25 hw) (by decide) (by decide)) q468a q468c (g := (mkF m 5 #[oR b466, oR b2, .val .null, oU, oU] [vR b2])) rfl (by rw [hml]; rfl) (Steps.refl _) (argsL := []) (rest := []) (lenOf pd7 rfl) rfl (by show 2 * 0 + _ ≤ _; exact Nat.le_of_eq rfl) (hb hby d25_5) (fun _ _ => ⟨rfl, e467, (by decide : 0 + 0 ≤ _), (by decide : 0 + 0 ≤ _)⟩))
  obtain ⟨rfl, N468q, hh468⟩ := hQ468
  have N468 := Fr.app N0 N468q
  obtain ⟨_, X468, N468⟩ := own_hide X468 N468
  refine own_go (T' := T468) (f' := (mkF m 10 #[oR b466, oR b2, .val .null, oR b66a, oU] [vR b2])) (fun _ k => st468.trans (own_e X468 tt 8 2 k rfl)) ?_
  obtain ⟨cq469, kq469, q469a, q469b, q469c⟩ := isOf hZ hh468 PE9
  obtain ⟨_, T469, Lc469, X469, hQ469, st469⟩ := own_out (X468.virtualBack hx (y := mn22) (z := mn23) hown (mvT hZ (ow153 hw)) (mvT hZ (ow154 hw)) (own_nf (args := #[]) (y2 := mn11) (mvT hZ (ow71 hw)) rfl) (mvT hZ (ow156 hw)) (mvT hZ (ow157 hw)) (by decide) (backOf (W := 0) (rm27a71 l Z a0 hw [] b2 i465 h0 n0 Z0 PE9 PF12) hZ (ow158 hw) (ow17 hw) (by decide) (by decide)) q469a q469c (g := (mkF m 10 #[oR b466, oR b2, .val .null, oR b66a, oU] [vR b2])) rfl (by rw [hml]; rfl) (Steps.refl _) (argsL := []) (rest := []) (lenOf pd1 rfl) rfl (by show 2 * 0 + _ ≤ _; exact Nat.le_of_eq rfl) (hb hby d25_10) (fun _ _ => ⟨rfl, hh468, (by decide : 0 + 0 ≤ _), (by decide : 0 + 0 ≤ _)⟩))
  obtain ⟨rfl, N469q, hh469⟩ := hQ469
  have N469 := Fr.app N468 N469q
  obtain ⟨_, X469, N469⟩ := own_hide X469 N469
  refine own_go (T' := T469) (f' := (mkF m 16 #[oR b466, oR b2, .val .null, oR b66a, .val (.int i465)] [vR b2])) (fun _ k => st469.trans (own_e X469 tt 13 2 k rfl)) ?_
  obtain ⟨cq470, kq470, q470a, q470b, q470c⟩ := isOf hZ hh469 PE9
  obtain ⟨_, T470, Lc470, X470, hQ470, st470⟩ := own_out (X469.virtualBack hx (y := mn17) (z := mn17) hown (mvT hZ (ow161 hw)) (mvT hZ (ow125 hw)) (notFace_of_selects (args := #[]) (mvT hZ (ow127 hw))) (mvT hZ (ow127 hw)) (mvT hZ (ow126 hw)) (by decide) (backOf (W := 0) (rm21a22 l Z a0 hw [] b2 cs h0 n0 Z0 PS0 PF11 PP0) hZ (ow128 hw) (ow25 hw) (by decide) (by decide)) q470a q470c (g := (mkF m 16 #[oR b466, oR b2, .val .null, oR b66a, .val (.int i465)] [vR b2])) rfl (by rw [hml]; rfl) (Steps.refl _) (argsL := []) (rest := []) (lenOf pd6 rfl) rfl (by show 2 * 0 + _ ≤ _; exact Nat.le_of_eq rfl) (hb hby d25_16) (fun _ _ => ⟨rfl, hh469, (by decide : 0 + 0 ≤ _), (by decide : 0 + 0 ≤ _)⟩))
  obtain ⟨rfl, N470q, hh470⟩ := hQ470
  have N470 := Fr.app N469 N470q
  obtain ⟨_, X470, N470⟩ := own_hide X470 N470
  refine own_go (T' := T470) (f' := (mkF m 24 #[oR b466, oR b2, .val .null, oR b66a, .val (.int i465)] [vI 0, vR b466])) (fun _ k => st470.trans (own_e X470 tt 19 3 k rfl)) ?_
  obtain ⟨T471, h471, X471, e471, W471, st471⟩ := putFN X470 hx hZ hown (ow65 hw) Via.refl hh470 PF27 PE25 (Or.inr ⟨(ow40 hw), rfl, hnm⟩) (ow38 hw) (ty := .byte) (v' := (.int (0 : Int32))) (by decide) rfl (fits_nar_byte (0 : Int32)) (g := (mkF m 24 #[oR b466, oR b2, .val .null, oR b66a, .val (.int i465)] [vI 0, vR b466])) rfl rfl (hb hby d25_24)
  have Fw471 := Fld.same W471 PF27
  have K471 : Keep h0 h471 [b466] := (Keep.refl h0 [b466]).wr W471 (Or.inl (List.mem_of_getElem? (i := 0) rfl))
  have N471 := Fr.snoc X471 N470 n_b466
  refine own_go (T' := T471) (f' := (mkF m 32 #[oR b466, oR b2, .val .null, oR b66a, .val (.int i465)] [(.int i465), vI 0, vR b66a, vR b466])) (fun _ k => st471 _ (own_e X471 tt 27 4 k rfl)) ?_
  obtain ⟨_, T474, Lc474, X474, hQ474, st474⟩ := own_outC (Jvm.LawKit.callS X471 hx (y := mn26) hown (mvT hZ (ow162 hw)) (mvT hZ (ow163 hw)) (mvT hZ (ow87 hw)) (mvT hZ (ow164 hw)) (by decide) (backOf (W := 1) (rm29a127 l Z a0 hw [] b66a i465 k66b us451a h471 n0 (Nat.le_trans Z0 (Keep.of_wr W471).1) (PV19.other W471 ne_b66a_b466) (PE20.wr W471) PP3) hZ (ow164 hw) (ow87 hw) (by decide) (by decide)) (g := (mkF m 32 #[oR b466, oR b2, .val .null, oR b66a, .val (.int i465)] [(.int i465), vI 0, vR b66a, vR b466])) rfl (by rw [hml]; rfl) (argsL := [(.ref b66a), (.int (0 : Int32)), (.int i465)]) (rest := [(.ref b466)]) (lenOf pd29 rfl) rfl (by show 2 * 0 + _ ≤ _; exact Nat.le_of_eq rfl) (hb hby d25_32) (fun _ _ => ⟨rfl, e471, (by decide : 0 + 1 ≤ _), (by decide : 0 + 34 ≤ _)⟩))
  obtain ⟨b474a, rfl, N474q, K474, n_b474a, sg_b474a, g474_0, g474_1⟩ := hQ474
  have N474 := Fr.app N471 N474q
  have sz_b474a : h0.size ≤ b474a := Nat.le_trans K471.1 sg_b474a
  have eK474 : T474.heap = T474.heap := rfl
  have KK474 : Keep h0 T474.heap [b466] := Keep.trans K471 K474 all0
  obtain ⟨_, X474, N474⟩ := own_hide X474 N474
  refine own_go (T' := T474) (f' := (mkF m 35 #[oR b466, oR b2, .val .null, oR b66a, .val (.int i465)] [vR b474a, vR b466])) (fun _ k => st474 _ k) ?_
  have G475 := ((PF26.other W471 (Or.inr (slot_ne (Or.inr (ow39 hw)) (Or.inr (ow40 hw)) (by decide) (t := (.array .byte)) (t' := .byte) (by decide) (by decide)))).keep K474 nin0)
  obtain ⟨T476, h476, X476, e476, W476, st476⟩ := putF X474 hx hZ hown (host := "") (Or.inl (ow58 hw)) Via.refl eK474 G475 ((PE25.wr W471).keep K474) (Or.inr ⟨(ow39 hw), rfl, hnm⟩) (ow38 hw) (ty := (.array .byte)) (by decide) rfl rfl (g := (mkF m 35 #[oR b466, oR b2, .val .null, oR b66a, .val (.int i465)] [vR b474a, vR b466])) rfl rfl (hb hby d25_35)
  have Fw476 := Fld.same W476 G475
  have K476 : Keep h0 h476 [b466] := KK474.wr W476 (Or.inl (List.mem_of_getElem? (i := 0) rfl))
  have N476 := Fr.snoc X476 N474 n_b466
  refine own_go (T' := T476) (f' := (mkF m 97 #[oR b466, oR b2, .val .null, oR b66a, .val (.int i465)] [])) (fun _ k => st476 _ (own_e X476 tt 38 1 k rfl)) ?_
  refine own_ret X476 (v := none) (fun _ => rfl) Bs (fun fs hr => X476.returnOut hx Br (hb hby d25_97) hr) ?_ (by decide) (by decide)
  show Q25a126 Z b466 b2 cs b66a i465 k66b us451a h0 n0 _ T476.heap _
  have G477 := ((Fw471.keep K474 nin0).other W476 (Or.inr (slot_ne (Or.inr (ow40 hw)) (Or.inr (ow39 hw)) (by decide) (t := .byte) (t' := (.array .byte)) (by decide) (by decide))))
  have q478 : b474a ≠ b466 := (Ne.symm (Nat.ne_of_lt (Nat.lt_of_lt_of_le PE25.lt sz_b474a)))
  rw [e476]
  exact ⟨b474a, rfl, N476, K476, n_b474a, sz_b474a, Fw476, G477, (g474_0.other W476 q478), (g474_1.wr W476)⟩
theorem ef_rm24a125 (m : MethodId) (b466 : Addr) (b2 : Addr) : entryFrame m #[(.ref b466), (.ref b2)] 2 = mkF m 0 #[.val (.ref b466), .val (.ref b2)] [] := by first | (simp [entryFrame, mkF, argsToLocals, Value.category]; done) | rfl
def Q24a125 (Z : State) (b466 : Addr) (b2 : Addr) (cs : Int32) (b66a : Addr) (i465 : Int32) (k66b : ClassId) (us451a : List Value) (h0 : Heap) (n0 : Nat) (v : Option Value) (h : Heap) (L : List Loc) : Prop := ∃ (b479a : Addr), v = none ∧ Fr n0 L ∧ Keep h0 h [b466] ∧ n0 ≤ b479a ∧ h0.size ≤ b479a ∧ Fld Z h b466 "java/lang/String" "value" "[B" (.ref b479a) ∧ Fld Z h b466 "java/lang/String" "coder" "B" (.int (0 : Int32)) ∧ Arv Z h b479a k66b .byte (34 : Int32) us451a (.int (0 : Int32)) ∧ Exa Z h b479a "[B"
set_option maxRecDepth 65536 in
set_option maxHeartbeats 40000000 in
theorem rm24a125 (l : Launch) (Z : State) (a0 : Array Value) (hw : ∀ d ∈ tables_1, d.before a0 Z = true) (ws : List Jvm.Cond) (b466 : Addr) (b2 : Addr) (cs : Int32) (b66a : Addr) (i465 : Int32) (k66b : ClassId) (us451a : List Value) (h0 : Heap) (n0 : Nat) (Z0 : n0 ≤ h0.size) (PS0 : Sta Z h0 "java/lang/String" "COMPACT_STRINGS" "Z" (.int cs)) (PE9 : Exa Z h0 b2 "java/lang/StringBuilder") (PF10 : Fld Z h0 b2 "java/lang/AbstractStringBuilder" "value" "[B" (.ref b66a)) (PF11 : Fld Z h0 b2 "java/lang/AbstractStringBuilder" "coder" "B" (.int (0 : Int32))) (PF12 : Fld Z h0 b2 "java/lang/AbstractStringBuilder" "count" "I" (.int i465)) (PV19 : Arv Z h0 b66a k66b .byte (34 : Int32) us451a (.int (0 : Int32))) (PE20 : Exa Z h0 b66a "[B") (PE25 : Exa Z h0 b466 "java/lang/String") (PF26 : Fld Z h0 b466 "java/lang/String" "value" "[B" .null) (PF27 : Fld Z h0 b466 "java/lang/String" "coder" "B" (.int (0 : Int32))) (PP0 : ¬ (cs = (0 : Int32))) (PP3 : i465 = (34 : Int32)) (ne_b66a_b466 : b66a ≠ b466) (n_b466 : n0 ≤ b466) :
    own_Met l mn28 jdk_42_method_53_code 2 none ws (oRm 3 1 34 45) #[(.ref b466), (.ref b2)] Z h0 (Q24a125 Z b466 b2 cs b66a i465 k66b us451a h0 n0) := by
  refine own_met (own := "java/lang/String") rfl (plainFor_of_name pn_7) ?_
  intro p e s m below meth c s₁ hx hby hml hZ hown hnm X0 e0 Br Bs
  have N0 := Fr.nil n0
  have tt := own_tt hx hby own_ok24
  rw [ef_rm24a125 m b466 b2]
  refine own_go (T' := s₁) (f' := (mkF m 3 #[oR b466, oR b2] [.null, vR b2, vR b466])) (fun _ k => own_e X0 tt 0 3 k rfl) ?_
  obtain ⟨_, T479, Lc479, X479, hQ479, st479⟩ := own_out (X0.specialBack hx (y := mn27) rfl hown (mvT hZ (ow144 hw)) (mvT hZ (ow145 hw)) (mvT hZ (ow146 hw)) (by decide) (backOf (W := 0) (rm25a126 l Z a0 hw [] b466 b2 cs b66a i465 k66b us451a h0 n0 Z0 PS0 PE9 PF10 PF11 PF12 PV19 PE20 PE25 PF26 PF27 PP0 PP3 ne_b66a_b466 n_b466) hZ (ow146 hw) (ow31 hw) (by decide) (by decide)) (g := (mkF m 3 #[oR b466, oR b2] [.null, vR b2, vR b466])) rfl (by rw [hml]; rfl) (Steps.refl _) (a := b466) (argsL := [(.ref b2), .null]) (rest := []) (lenOf pd19 rfl) rfl (by show 2 * 0 + _ ≤ _; exact Nat.le_of_eq rfl) (hb hby d24_3) (fun _ _ => ⟨rfl, e0, (by decide : 0 + 1 ≤ _), (by decide : 0 + 34 ≤ _)⟩))
  obtain ⟨b479a, rfl, N479q, K479, n_b479a, sg_b479a, g479_0, g479_1, g479_2, g479_3⟩ := hQ479
  have N479 := Fr.app N0 N479q
  have sz_b479a : h0.size ≤ b479a := Nat.le_trans (Keep.refl h0 [b466]).1 sg_b479a
  have eK479 : T479.heap = T479.heap := rfl
  have KK479 : Keep h0 T479.heap [b466] := Keep.trans (Keep.refl h0 [b466]) K479 (allS (Or.inl (List.mem_of_getElem? (i := 0) rfl)) all0)
  obtain ⟨_, X479, N479⟩ := own_hide X479 N479
  refine own_go (T' := T479) (f' := (mkF m 6 #[oR b466, oR b2] [])) (fun _ k => st479.trans k) ?_
  refine own_ret X479 (v := none) (fun _ => rfl) Bs (fun fs hr => X479.returnOut hx Br (hb hby d24_6) hr) ?_ (by decide) (by decide)
  show Q24a125 Z b466 b2 cs b66a i465 k66b us451a h0 n0 _ T479.heap _
  rw [eK479]
  exact ⟨b479a, rfl, N479, KK479, n_b479a, sz_b479a, g479_0, g479_1, g479_2, g479_3⟩
theorem ef_rm23a124 (m : MethodId) (b2 : Addr) : entryFrame m #[(.ref b2)] 1 = mkF m 0 #[.val (.ref b2)] [] := by first | (simp [entryFrame, mkF, argsToLocals, Value.category]; done) | rfl
def Q23a124 (Z : State) (b2 : Addr) (cs : Int32) (b66a : Addr) (i465 : Int32) (k66b : ClassId) (us451a : List Value) (h0 : Heap) (n0 : Nat) (v : Option Value) (h : Heap) (L : List Loc) : Prop := ∃ (b466 : Addr) (b481a : Addr), v = some (.ref b466) ∧ Fr n0 L ∧ Keep h0 h [] ∧ n0 ≤ b466 ∧ h0.size ≤ b466 ∧ n0 ≤ b481a ∧ h0.size ≤ b481a ∧ b481a ≠ b466 ∧ Exa Z h b466 "java/lang/String" ∧ Fld Z h b466 "java/lang/String" "value" "[B" (.ref b481a) ∧ Fld Z h b466 "java/lang/String" "coder" "B" (.int (0 : Int32)) ∧ Arv Z h b481a k66b .byte (34 : Int32) us451a (.int (0 : Int32)) ∧ Exa Z h b481a "[B"
set_option maxRecDepth 65536 in
set_option maxHeartbeats 40000000 in
theorem rm23a124 (l : Launch) (Z : State) (a0 : Array Value) (hw : ∀ d ∈ tables_1, d.before a0 Z = true) (ws : List Jvm.Cond) (b2 : Addr) (cs : Int32) (b66a : Addr) (i465 : Int32) (k66b : ClassId) (us451a : List Value) (h0 : Heap) (n0 : Nat) (Z0 : n0 ≤ h0.size) (PS0 : Sta Z h0 "java/lang/String" "COMPACT_STRINGS" "Z" (.int cs)) (PE9 : Exa Z h0 b2 "java/lang/StringBuilder") (PF10 : Fld Z h0 b2 "java/lang/AbstractStringBuilder" "value" "[B" (.ref b66a)) (PF11 : Fld Z h0 b2 "java/lang/AbstractStringBuilder" "coder" "B" (.int (0 : Int32))) (PF12 : Fld Z h0 b2 "java/lang/AbstractStringBuilder" "count" "I" (.int i465)) (PV19 : Arv Z h0 b66a k66b .byte (34 : Int32) us451a (.int (0 : Int32))) (PE20 : Exa Z h0 b66a "[B") (PP0 : ¬ (cs = (0 : Int32))) (PP3 : i465 = (34 : Int32)) :
    own_Met l mn29 jdk_67_method_42_code 1 (some (.object "java/lang/String")) ws (oRm 4 2 38 59) #[(.ref b2)] Z h0 (Q23a124 Z b2 cs b66a i465 k66b us451a h0 n0) := by
  refine own_met (own := "java/lang/StringBuilder") rfl (plainFor_of_name pn_8) ?_
  intro p e s m below meth c s₁ hx hby hml hZ hown hnm X0 e0 Br Bs
  have N0 := Fr.nil n0
  have tt := own_tt hx hby own_ok23
  rw [ef_rm23a124 m b2]
  obtain ⟨T466, h466, X466, e466, E466, A466, D466, -, st466⟩ := newO X0 hx hZ hown (ow139 hw) (ow38 hw) (ow31 hw) e0 (g := (mkF m 0 #[oR b2] [])) rfl (hb hby d23_0) (by decide) (by decide)
  obtain ⟨b466, g_b466⟩ : ∃ z, z = h0.size := ⟨_, rfl⟩
  have sg_b466 : h0.size ≤ b466 := Nat.le_of_eq g_b466.symm
  rw [← g_b466] at A466 D466 st466
  have n_b466 : n0 ≤ b466 := Nat.le_trans Z0 (Nat.le_of_eq g_b466.symm)
  have sz_b466 : h0.size ≤ b466 := Nat.le_trans (Keep.refl h0 []).1 (Nat.le_of_eq g_b466.symm)
  have K466 : Keep h0 h466 [] := (Keep.refl h0 []).ext E466
  have F_value_b466 : Fld Z h466 b466 "java/lang/String" "value" "[B" .null := D466 (Or.inr (ow39 hw)) (ty := (.array .byte)) (by decide)
  have F_coder_b466 : Fld Z h466 b466 "java/lang/String" "coder" "B" (.int (0 : Int32)) := D466 (Or.inr (ow40 hw)) (ty := .byte) (by decide)
  refine own_go (T' := T466) (f' := (mkF m 5 #[oR b2] [vR b2, vR b466, vR b466])) (fun _ k => st466 _ (own_e X466 tt 3 2 k rfl)) ?_
  have q480 : b66a ≠ b466 := (Nat.ne_of_lt (Nat.lt_of_lt_of_le PV19.lt sz_b466))
  obtain ⟨_, T481, Lc481, X481, hQ481, st481⟩ := own_out (X466.specialBack hx (y := mn28) rfl hown (mvT hZ (ow140 hw)) (mvT hZ (ow141 hw)) (mvT hZ (ow143 hw)) (by decide) (backOf (W := 1) (rm24a125 l Z a0 hw [] b466 b2 cs b66a i465 k66b us451a h466 n0 (Nat.le_trans Z0 E466.1) (PS0.ext E466) (PE9.ext E466) (PF10.ext E466) (PF11.ext E466) (PF12.ext E466) (PV19.ext E466) (PE20.ext E466) A466 F_value_b466 F_coder_b466 PP0 PP3 q480 n_b466) hZ (ow143 hw) (ow31 hw) (by decide) (by decide)) (g := (mkF m 5 #[oR b2] [vR b2, vR b466, vR b466])) rfl (by rw [hml]; rfl) (Steps.refl _) (a := b466) (argsL := [(.ref b2)]) (rest := [(.ref b466)]) (lenOf pd25 rfl) rfl (by show 2 * 0 + _ ≤ _; exact Nat.le_of_eq rfl) (hb hby d23_5) (fun _ _ => ⟨rfl, e466, (by decide : 1 + 1 ≤ _), (by decide : 4 + 34 ≤ _)⟩))
  obtain ⟨b481a, rfl, N481q, K481, n_b481a, sg_b481a, g481_0, g481_1, g481_2, g481_3⟩ := hQ481
  have N481 := Fr.app N0 N481q
  have sz_b481a : h0.size ≤ b481a := Nat.le_trans K466.1 sg_b481a
  have u482 : b466 < h466.size := A466.lt
  have m483 : h0.size ≤ h466.size := (Nat.le_trans (Nat.le_refl _) E466.1)
  have eK481 : T481.heap = T481.heap := rfl
  have KK481 : Keep h0 T481.heap [] := Keep.trans K466 K481 (allS (Or.inr sz_b466) all0)
  obtain ⟨_, X481, N481⟩ := own_hide X481 N481
  refine own_go (T' := T481) (f' := (mkF m 8 #[oR b2] [vR b466])) (fun _ k => st481.trans k) ?_
  refine own_ret X481 (v := some (.ref b466)) (fun h => by rw [Br] at h; cases h) Bs (fun fs hr => own_retA X481 hx Br rfl rfl (hb hby d23_8) hr) ?_ (by decide) (by decide)
  show Q23a124 Z b2 cs b66a i465 k66b us451a h0 n0 _ T481.heap _
  have q484 : b481a ≠ b466 := (Ne.symm (Nat.ne_of_lt (Nat.lt_of_lt_of_le u482 sg_b481a)))
  rw [eK481]
  exact ⟨b466, b481a, rfl, N481, KK481, n_b466, sz_b466, n_b481a, sz_b481a, q484, (A466.keep K481), g481_0, g481_1, g481_2, g481_3⟩
theorem ef_rm1a155 (m : MethodId) (i555 : Int32) : entryFrame m #[(.int (34 : Int32)), (.int i555)] 2 = mkF m 0 #[.val (.int (34 : Int32)), .val (.int i555)] [] := by first | (simp [entryFrame, mkF, argsToLocals, Value.category]; done) | rfl
def Q1a155 (Z : State) (i555 : Int32) (h0 : Heap) (n0 : Nat) (v : Option Value) (h : Heap) (L : List Loc) : Prop := v = some (.int i555) ∧ Fr n0 L ∧ h = h0
set_option maxRecDepth 65536 in
set_option maxHeartbeats 40000000 in
theorem rm1a155 (l : Launch) (Z : State) (a0 : Array Value) (hw : ∀ d ∈ tables_1, d.before a0 Z = true) (ws : List Jvm.Cond) (i555 : Int32) (h0 : Heap) (n0 : Nat) (Z0 : n0 ≤ h0.size) (PP7 : i555 < (34 : Int32)) :
    own_Met l mn0 jdk_29_method_69_code 2 (some .int) ws (oRm 0 0 0 0) #[(.int (34 : Int32)), (.int i555)] Z h0 (Q1a155 Z i555 h0 n0) := by
  refine own_met (own := "java/lang/Math") rfl (Jvm.Free.JP.mathPlain rfl (by decide +kernel)) ?_
  intro p e s m below meth c s₁ hx hby hml hZ hown hnm X0 e0 Br Bs
  have N0 := Fr.nil n0
  have tt := own_tt hx hby own_ok1
  rw [ef_rm1a155 m i555]
  refine own_go (T' := s₁) (f' := (mkF m 10 #[oI 34, .val (.int i555)] [(.int i555)])) (fun _ k => own_r X0 tt 0 2 rfl (XS.icmpYes X0.here hx rfl (pc0 := 2) (pc' := 9) rfl (hb hby d1_2) rfl (tlt PP7).2.2.1 (by decide) (by decide) (own_e X0 tt 9 1 k rfl))) ?_
  refine own_ret X0 (v := some (.int i555)) (fun h => by rw [Br] at h; cases h) Bs (fun fs hr => retI X0 hx Br (hb hby d1_10) hr) ?_ (by decide) (by decide)
  show Q1a155 Z i555 h0 n0 _ s₁.heap _
  exact ⟨rfl, N0, e0⟩
theorem ef_rm30a165 (m : MethodId) (b66a : Addr) (i571 : Int32) : entryFrame m #[(.ref b66a), (.int (0 : Int32)), (.int i571)] 5 = mkF m 0 #[.val (.ref b66a), .val (.int (0 : Int32)), .val (.int i571), .unset, .unset] [] := by first | (simp [entryFrame, mkF, argsToLocals, Value.category]; done) | rfl
def Q30a165 (Z : State) (b66a : Addr) (i571 : Int32) (k66b : ClassId) (us451a : List Value) (h0 : Heap) (n0 : Nat) (v : Option Value) (h : Heap) (L : List Loc) : Prop := ∃ (b579 : Addr) (k579 : ClassId) (us581 : List Value), v = some (.ref b579) ∧ Fr n0 L ∧ Keep h0 h [] ∧ n0 ≤ b579 ∧ h0.size ≤ b579 ∧ Arv Z h b579 k579 .byte (i571 - (0 : Int32)) us581 (.int (0 : Int32)) ∧ Exa Z h b579 "[B" ∧ us581.length = ((i571 - (0 : Int32))).toNatClampNeg
set_option maxRecDepth 65536 in
set_option maxHeartbeats 40000000 in
theorem rm30a165 (l : Launch) (Z : State) (a0 : Array Value) (hw : ∀ d ∈ tables_1, d.before a0 Z = true) (ws : List Jvm.Cond) (b66a : Addr) (i571 : Int32) (k66b : ClassId) (us451a : List Value) (h0 : Heap) (n0 : Nat) (Z0 : n0 ≤ h0.size) (PV19 : Arv Z h0 b66a k66b .byte (34 : Int32) us451a (.int (0 : Int32))) (PP4 : ¬ (i571 < (0 : Int32))) (PP5 : ¬ ((i571 - (0 : Int32)) < (0 : Int32))) (PP6 : ¬ ((42 : Int32) < (i571 - (0 : Int32)))) (PP7 : (i571 - (0 : Int32)) < (34 : Int32)) (PP8 : ¬ ((i571 - (0 : Int32)) < (i571 - (0 : Int32)))) (PP9 : ¬ ((34 : Int32) < (i571 - (0 : Int32)))) :
    own_Met l mn25 jdk_65_method_133_code 5 (some (.array .byte)) ws (oRm 1 1 42 18) #[(.ref b66a), (.int (0 : Int32)), (.int i571)] Z h0 (Q30a165 Z b66a i571 k66b us451a h0 n0) := by
  refine own_met (own := "java/util/Arrays") rfl (plainFor_of_name pn_11) ?_
  intro p e s m below meth c s₁ hx hby hml hZ hown hnm X0 e0 Br Bs
  have N0 := Fr.nil n0
  have tt := own_tt hx hby own_ok30
  rw [ef_rm30a165 m b66a i571]
  refine own_go (T' := s₁) (f' := (mkF m 2 #[oR b66a, oI 0, .val (.int i571), oU, oU] [(.int i571), vI 0])) (fun _ k => own_e X0 tt 0 2 k rfl) ?_
  obtain ⟨_, T578, Lc578, X578, hQ578, st578⟩ := own_outC (Jvm.LawKit.callS X0 hx (y := mn24) hown (mvT hZ (ow168 hw)) (mvT hZ (ow169 hw)) (mvT hZ (ow87 hw)) (mvT hZ (ow170 hw)) (by decide) (backOf (W := 0) (rm31a85 l Z a0 hw [] i571 h0 n0 Z0 PP4) hZ (ow170 hw) (ow87 hw) (by decide) (by decide)) (g := (mkF m 2 #[oR b66a, oI 0, .val (.int i571), oU, oU] [(.int i571), vI 0])) rfl (by rw [hml]; rfl) (argsL := [(.int (0 : Int32)), (.int i571)]) (rest := []) (lenOf pd14 rfl) rfl (by show 2 * 0 + _ ≤ _; exact Nat.le_of_eq rfl) (hb hby d30_2) (fun _ _ => ⟨rfl, e0, (by decide : 0 + 0 ≤ _), (by decide : 0 + 0 ≤ _)⟩))
  obtain ⟨rfl, N578q, hh578⟩ := hQ578
  have N578 := Fr.app N0 N578q
  obtain ⟨_, X578, N578⟩ := own_hide X578 N578
  refine own_go (T' := T578) (f' := (mkF m 10 #[oR b66a, oI 0, .val (.int i571), .val (.int (i571 - (0 : Int32))), oU] [(.int (i571 - (0 : Int32)))])) (fun _ k => st578 _ (own_e X578 tt 5 5 k rfl)) ?_
  obtain ⟨T579, h579, k579, X579, e579, E579, A579, EA579, st579⟩ := newPE (aty := .byte) X578 hx hZ (ow32 hw) hh578 (g := (mkF m 10 #[oR b66a, oI 0, .val (.int i571), .val (.int (i571 - (0 : Int32))), oU] [(.int (i571 - (0 : Int32)))])) rfl (hb hby d30_10) rfl PP5 (cap := 42) (own_cap (by decide) PP6) (by decide) (by decide) (by decide) (ad := "[B") (by decide +kernel)
  obtain ⟨b579, g_b579⟩ : ∃ z, z = h0.size := ⟨_, rfl⟩
  have sg_b579 : h0.size ≤ b579 := Nat.le_of_eq g_b579.symm
  rw [← g_b579] at A579 EA579 st579
  have n_b579 : n0 ≤ b579 := Nat.le_trans Z0 (Nat.le_of_eq g_b579.symm)
  have sz_b579 : h0.size ≤ b579 := Nat.le_trans (Keep.refl h0 []).1 (Nat.le_of_eq g_b579.symm)
  have K579 : Keep h0 h579 [] := (Keep.refl h0 []).ext E579
  have V_b579 : Arv Z h579 b579 k579 .byte (i571 - (0 : Int32)) [] (.int (0 : Int32)) := Arv.new A579 PP5
  obtain ⟨us579, hl579, Vo579⟩ := own_open V_b579
  refine own_go (T' := T579) (f' := (mkF m 24 #[oR b66a, oI 0, .val (.int i571), .val (.int (i571 - (0 : Int32))), oR b579] [(.int (i571 - (0 : Int32))), vI 34, vI 0, vR b579, vI 0, vR b66a])) (fun _ k => st579 _ (own_r X579 tt 12 6 rfl (own_alen X579 hx hZ e579 (PV19.ext E579) rfl rfl (hb hby d30_20) (own_e X579 tt 21 3 k rfl)))) ?_
  obtain ⟨_, T580, Lc580, X580, hQ580, st580⟩ := own_outC (Jvm.LawKit.callS X579 hx (y := mn0) hown (mvT hZ (ow89 hw)) (mvT hZ (ow2 hw)) (mvT hZ (ow3 hw)) (mvT hZ (ow4 hw)) (by decide) (backOf (W := 4) (rm1a155 l Z a0 hw [] (i571 - (0 : Int32)) h579 n0 (Nat.le_trans Z0 E579.1) PP7) hZ (ow4 hw) (ow3 hw) (by decide) (by decide)) (g := (mkF m 24 #[oR b66a, oI 0, .val (.int i571), .val (.int (i571 - (0 : Int32))), oR b579] [(.int (i571 - (0 : Int32))), vI 34, vI 0, vR b579, vI 0, vR b66a])) rfl (by rw [hml]; rfl) (argsL := [(.int (34 : Int32)), (.int (i571 - (0 : Int32)))]) (rest := [(.int (0 : Int32)), (.ref b579), (.int (0 : Int32)), (.ref b66a)]) (lenOf pd12 rfl) rfl (by show 2 * 0 + _ ≤ _; exact Nat.le_of_eq rfl) (hb hby d30_24) (fun _ _ => ⟨rfl, e579, (by decide : 1 + 0 ≤ _), (by decide : 42 + 0 ≤ _)⟩))
  obtain ⟨rfl, N580q, hh580⟩ := hQ580
  have N580 := Fr.app N578 N580q
  obtain ⟨_, X580, N580⟩ := own_hide X580 N580
  refine own_go (T' := T580) (f' := (mkF m 27 #[oR b66a, oI 0, .val (.int i571), .val (.int (i571 - (0 : Int32))), oR b579] [(.int (i571 - (0 : Int32))), vI 0, vR b579, vI 0, vR b66a])) (fun _ k => st580 _ k) ?_
  obtain ⟨T581, h581, Lq581, X581, e581, N581, K581, V581, st581⟩ := cpA X580 hx hZ hown (ow90 hw) (ow93 hw) (ow91 hw) (ow92 hw) hh580 (PV19.ext E579) Vo579 (Or.inl ⟨rfl, rfl⟩) (sp := (0 : Int32)) (dp := (0 : Int32)) (nn := (i571 - (0 : Int32))) (by decide) (by decide) PP5 (own_cl0 PP9) (own_cl0 PP8) rfl (by rw [hl579]; exact (own_cl0 PP8)) N580 n_b579 (g := (mkF m 27 #[oR b66a, oI 0, .val (.int i571), .val (.int (i571 - (0 : Int32))), oR b579] [(.int (i571 - (0 : Int32))), vI 0, vR b579, vI 0, vR b66a])) rfl (by rw [hml]; rfl) rfl (hb hby d30_27) (by decide) (W := 0) (by show 2 * 0 + _ ≤ _; exact Nat.le_of_eq rfl) (by decide)
  obtain ⟨us581, hl581, Vo581⟩ := own_open V581
  have KK581 : Keep h0 h581 [] := Keep.trans K579 K581 (allS (Or.inr sz_b579) all0)
  refine own_go (T' := T581) (f' := (mkF m 32 #[oR b66a, oI 0, .val (.int i571), .val (.int (i571 - (0 : Int32))), oR b579] [vR b579])) (fun _ k => st581 _ (own_e X581 tt 30 1 k rfl)) ?_
  refine own_ret X581 (v := some (.ref b579)) (fun h => by rw [Br] at h; cases h) Bs (fun fs hr => own_retA X581 hx Br rfl rfl (hb hby d30_32) hr) ?_ (by decide) (by decide)
  show Q30a165 Z b66a i571 k66b us451a h0 n0 _ T581.heap _
  rw [e581]
  exact ⟨b579, k579, us581, rfl, N581, KK581, n_b579, sz_b579, Vo581, (EA579.keep K581), hl581⟩
theorem ef_rm29a164 (m : MethodId) (b66a : Addr) (i571 : Int32) : entryFrame m #[(.ref b66a), (.int (0 : Int32)), (.int i571)] 3 = mkF m 0 #[.val (.ref b66a), .val (.int (0 : Int32)), .val (.int i571)] [] := by first | (simp [entryFrame, mkF, argsToLocals, Value.category]; done) | rfl
def Q29a164 (Z : State) (b66a : Addr) (i571 : Int32) (k66b : ClassId) (us451a : List Value) (h0 : Heap) (n0 : Nat) (v : Option Value) (h : Heap) (L : List Loc) : Prop := ∃ (b582a : Addr) (k582b : ClassId) (us582c : List Value), v = some (.ref b582a) ∧ Fr n0 L ∧ Keep h0 h [] ∧ n0 ≤ b582a ∧ h0.size ≤ b582a ∧ Arv Z h b582a k582b .byte (i571 - (0 : Int32)) us582c (.int (0 : Int32)) ∧ Exa Z h b582a "[B" ∧ us582c.length = ((i571 - (0 : Int32))).toNatClampNeg
set_option maxRecDepth 65536 in
set_option maxHeartbeats 40000000 in
theorem rm29a164 (l : Launch) (Z : State) (a0 : Array Value) (hw : ∀ d ∈ tables_1, d.before a0 Z = true) (ws : List Jvm.Cond) (b66a : Addr) (i571 : Int32) (k66b : ClassId) (us451a : List Value) (h0 : Heap) (n0 : Nat) (Z0 : n0 ≤ h0.size) (PV19 : Arv Z h0 b66a k66b .byte (34 : Int32) us451a (.int (0 : Int32))) (PP3 : ¬ (i571 = (34 : Int32))) (PP4 : ¬ (i571 < (0 : Int32))) (PP5 : ¬ ((i571 - (0 : Int32)) < (0 : Int32))) (PP6 : ¬ ((42 : Int32) < (i571 - (0 : Int32)))) (PP7 : (i571 - (0 : Int32)) < (34 : Int32)) (PP8 : ¬ ((i571 - (0 : Int32)) < (i571 - (0 : Int32)))) (PP9 : ¬ ((34 : Int32) < (i571 - (0 : Int32)))) :
    own_Met l mn26 jdk_65_method_132_code 3 (some (.array .byte)) ws (oRm 2 1 42 34) #[(.ref b66a), (.int (0 : Int32)), (.int i571)] Z h0 (Q29a164 Z b66a i571 k66b us451a h0 n0) := by
  refine own_met (own := "java/util/Arrays") rfl (plainFor_of_name pn_11) ?_
  intro p e s m below meth c s₁ hx hby hml hZ hown hnm X0 e0 Br Bs
  have N0 := Fr.nil n0
  have tt := own_tt hx hby own_ok29
  rw [ef_rm29a164 m b66a i571]
  refine own_go (T' := s₁) (f' := (mkF m 13 #[oR b66a, oI 0, .val (.int i571)] [(.int i571), vI 0, vR b66a])) (fun _ k => own_r X0 tt 0 4 rfl (own_alen X0 hx hZ e0 PV19 rfl rfl (hb hby d29_6) (XS.icmpNo X0.here hx rfl (hb hby d29_7) rfl (feq PP3).1 (own_e X0 tt 10 3 k rfl)))) ?_
  obtain ⟨_, T582, Lc582, X582, hQ582, st582⟩ := own_outC (Jvm.LawKit.callS X0 hx (y := mn25) hown (mvT hZ (ow165 hw)) (mvT hZ (ow166 hw)) (mvT hZ (ow87 hw)) (mvT hZ (ow167 hw)) (by decide) (backOf (W := 0) (rm30a165 l Z a0 hw [] b66a i571 k66b us451a h0 n0 Z0 PV19 PP4 PP5 PP6 PP7 PP8 PP9) hZ (ow167 hw) (ow87 hw) (by decide) (by decide)) (g := (mkF m 13 #[oR b66a, oI 0, .val (.int i571)] [(.int i571), vI 0, vR b66a])) rfl (by rw [hml]; rfl) (argsL := [(.ref b66a), (.int (0 : Int32)), (.int i571)]) (rest := []) (lenOf pd29 rfl) rfl (by show 2 * 0 + _ ≤ _; exact Nat.le_of_eq rfl) (hb hby d29_13) (fun _ _ => ⟨rfl, e0, (by decide : 0 + 1 ≤ _), (by decide : 0 + 42 ≤ _)⟩))
  obtain ⟨b582a, k582b, us582c, rfl, N582q, K582, n_b582a, sg_b582a, g582_0, g582_1, g582_2⟩ := hQ582
  have N582 := Fr.app N0 N582q
  have sz_b582a : h0.size ≤ b582a := Nat.le_trans (Keep.refl h0 []).1 sg_b582a
  have eK582 : T582.heap = T582.heap := rfl
  have KK582 : Keep h0 T582.heap [] := Keep.trans (Keep.refl h0 []) K582 all0
  obtain ⟨_, X582, N582⟩ := own_hide X582 N582
  refine own_go (T' := T582) (f' := (mkF m 16 #[oR b66a, oI 0, .val (.int i571)] [vR b582a])) (fun _ k => st582 _ k) ?_
  refine own_ret X582 (v := some (.ref b582a)) (fun h => by rw [Br] at h; cases h) Bs (fun fs hr => own_retA X582 hx Br rfl rfl (hb hby d29_16) hr) ?_ (by decide) (by decide)
  show Q29a164 Z b66a i571 k66b us451a h0 n0 _ T582.heap _
  rw [eK582]
  exact ⟨b582a, k582b, us582c, rfl, N582, KK582, n_b582a, sz_b582a, g582_0, g582_1, g582_2⟩
theorem ef_rm25a163 (m : MethodId) (b572 : Addr) (b2 : Addr) : entryFrame m #[(.ref b572), (.ref b2), .null] 5 = mkF m 0 #[.val (.ref b572), .val (.ref b2), .val .null, .unset, .unset] [] := by first | (simp [entryFrame, mkF, argsToLocals, Value.category]; done) | rfl
def Q25a163 (Z : State) (b572 : Addr) (b2 : Addr) (cs : Int32) (b66a : Addr) (i571 : Int32) (k66b : ClassId) (us451a : List Value) (h0 : Heap) (n0 : Nat) (v : Option Value) (h : Heap) (L : List Loc) : Prop := ∃ (b583a : Addr) (k583b : ClassId) (us583c : List Value), v = none ∧ Fr n0 L ∧ Keep h0 h [b572] ∧ n0 ≤ b583a ∧ h0.size ≤ b583a ∧ Fld Z h b572 "java/lang/String" "value" "[B" (.ref b583a) ∧ Fld Z h b572 "java/lang/String" "coder" "B" (.int (0 : Int32)) ∧ Arv Z h b583a k583b .byte (i571 - (0 : Int32)) us583c (.int (0 : Int32)) ∧ Exa Z h b583a "[B" ∧ us583c.length = ((i571 - (0 : Int32))).toNatClampNeg
set_option maxRecDepth 65536 in
set_option maxHeartbeats 40000000 in
theorem rm25a163 (l : Launch) (Z : State) (a0 : Array Value) (hw : ∀ d ∈ tables_1, d.before a0 Z = true) (ws : List Jvm.Cond) (b572 : Addr) (b2 : Addr) (cs : Int32) (b66a : Addr) (i571 : Int32) (k66b : ClassId) (us451a : List Value) (h0 : Heap) (n0 : Nat) (Z0 : n0 ≤ h0.size) (PS0 : Sta Z h0 "java/lang/String" "COMPACT_STRINGS" "Z" (.int cs)) (PE9 : Exa Z h0 b2 "java/lang/StringBuilder") (PF10 : Fld Z h0 b2 "java/lang/AbstractStringBuilder" "value" "[B" (.ref b66a)) (PF11 : Fld Z h0 b2 "java/lang/AbstractStringBuilder" "coder" "B" (.int (0 : Int32))) (PF12 : Fld Z h0 b2 "java/lang/AbstractStringBuilder" "count" "I" (.int i571)) (PV19 : Arv Z h0 b66a k66b .byte (34 : Int32) us451a (.int (0 : Int32))) (PE25 : Exa Z h0 b572 "java/lang/String") (PF26 : Fld Z h0 b572 "java/lang/String" "value" "[B" .null) (PF27 : Fld Z h0 b572 "java/lang/String" "coder" "B" (.int (0 : Int32))) (PP0 : ¬ (cs = (0 : Int32))) (PP3 : ¬ (i571 = (34 : Int32))) (PP4 : ¬ (i571 < (0 : Int32))) (PP5 : ¬ ((i571 - (0 : Int32)) < (0 : Int32))) (PP6 : ¬ ((42 : Int32) < (i571 - (0 : Int32)))) (PP7 : (i571 - (0 : Int32)) < (34 : Int32)) (PP8 : ¬ ((i571 - (0 : Int32)) < (i571 - (0 : Int32)))) (PP9 : ¬ ((34 : Int32) < (i571 - (0 : Int32)))) (ne_b66a_b572 : b66a ≠ b572) (n_b572 : n0 ≤ b572) :
    own_Met l mn27 jdk_42_method_150_code 5 none ws (oRm 3 1 42 49) #[(.ref b572), (.ref b2), .null] Z h0 (Q25a163 Z b572 b2 cs b66a i571 k66b us451a h0 n0) := by
  refine own_met (own := "java/lang/String") rfl (plainFor_of_name pn_7) ?_
  intro p e s m below meth c s₁ hx hby hml hZ hown hnm X0 e0 Br Bs
  have N0 := Fr.nil n0
  have tt := own_tt hx hby own_ok25
  rw [ef_rm25a163 m b572 b2]
  refine own_go (T' := s₁) (f' := (mkF m 1 #[oR b572, oR b2, .val .null, oU, oU] [vR b572])) (fun _ k => own_e X0 tt 0 1 k rfl) ?_
  obtain ⟨T573, X573, e573, st573⟩ := initO X0 hx hZ hown (ow147 hw) (ow28 hw) (ow29 hw) e0 (g := (mkF m 1 #[oR b572, oR b2, .val .null, oU, oU] [vR b572])) rfl (by rw [hml]; rfl) rfl (hb hby d25_1) (by decide) (W := 0) (by show 2 * 0 + _ ≤ _; exact Nat.le_of_eq rfl) (by decide)
  refine own_go (T' := T573) (f' := (mkF m 5 #[oR b572, oR b2, .val .null, oU, oU] [vR b2])) (fun _ k => st573 _ (own_e X573 tt 4 1 k rfl)) ?_
  obtain ⟨cq574, kq574, q574a, q574b, q574c⟩ := isOf hZ e573 PE9
  obtain ⟨_, T574, Lc574, X574, hQ574, st574⟩ := own_out (X573.virtualBack hx (y := mn21) (z := mn21) hown (mvT hZ (ow148 hw)) (mvT hZ (ow149 hw)) (notFace_of_selects (args := #[]) (mvT hZ (ow151 hw))) (mvT hZ (ow151 hw)) (mvT hZ (ow150 hw)) (by decide) (backOf (W := 0) (rm26a70 l Z a0 hw [] b2 b66a h0 n0 Z0 PF10) hZ (ow152 hw) (ow25 hw) (by decide) (by decide)) q574a q574c (g := (mkF m 5 #[oR b572, oR b2, .val .null, oU, oU] [vR b2])) rfl (by rw [hml]; rfl) (Steps.refl _) (argsL := []) (rest := []) (lenOf pd7 rfl) rfl (by show 2 * 0 + _ ≤ _; exact Nat.le_of_eq rfl) (hb hby d25_5) (fun _ _ => ⟨rfl, e573, (by decide : 0 + 0 ≤ _), (by decide : 0 + 0 ≤ _)⟩))
  obtain ⟨rfl, N574q, hh574⟩ := hQ574
  have N574 := Fr.app N0 N574q
  obtain ⟨_, X574, N574⟩ := own_hide X574 N574
  refine own_go (T' := T574) (f' := (mkF m 10 #[oR b572, oR b2, .val .null, oR b66a, oU] [vR b2])) (fun _ k => st574.trans (own_e X574 tt 8 2 k rfl)) ?_
  obtain ⟨cq575, kq575, q575a, q575b, q575c⟩ := isOf hZ hh574 PE9
  obtain ⟨_, T575, Lc575, X575, hQ575, st575⟩ := own_out (X574.virtualBack hx (y := mn22) (z := mn23) hown (mvT hZ (ow153 hw)) (mvT hZ (ow154 hw)) (own_nf (args := #[]) (y2 := mn11) (mvT hZ (ow71 hw)) rfl) (mvT hZ (ow156 hw)) (mvT hZ (ow157 hw)) (by decide) (backOf (W := 0) (rm27a71 l Z a0 hw [] b2 i571 h0 n0 Z0 PE9 PF12) hZ (ow158 hw) (ow17 hw) (by decide) (by decide)) q575a q575c (g := (mkF m 10 #[oR b572, oR b2, .val .null, oR b66a, oU] [vR b2])) rfl (by rw [hml]; rfl) (Steps.refl _) (argsL := []) (rest := []) (lenOf pd1 rfl) rfl (by show 2 * 0 + _ ≤ _; exact Nat.le_of_eq rfl) (hb hby d25_10) (fun _ _ => ⟨rfl, hh574, (by decide : 0 + 0 ≤ _), (by decide : 0 + 0 ≤ _)⟩))
  obtain ⟨rfl, N575q, hh575⟩ := hQ575
  have N575 := Fr.app N574 N575q
  obtain ⟨_, X575, N575⟩ := own_hide X575 N575
  refine own_go (T' := T575) (f' := (mkF m 16 #[oR b572, oR b2, .val .null, oR b66a, .val (.int i571)] [vR b2])) (fun _ k => st575.trans (own_e X575 tt 13 2 k rfl)) ?_
  obtain ⟨cq576, kq576, q576a, q576b, q576c⟩ := isOf hZ hh575 PE9
  obtain ⟨_, T576, Lc576, X576, hQ576, st576⟩ := own_out (X575.virtualBack hx (y := mn17) (z := mn17) hown (mvT hZ (ow161 hw)) (mvT hZ (ow125 hw)) (notFace_of_selects (args := #[]) (mvT hZ (ow127 hw))) (mvT hZ (ow127 hw)) (mvT hZ (ow126 hw)) (by decide) (backOf (W := 0) (rm21a22 l Z a0 hw [] b2 cs h0 n0 Z0 PS0 PF11 PP0) hZ (ow128 hw) (ow25 hw) (by decide) (by decide)) q576a q576c (g := (mkF m 16 #[oR b572, oR b2, .val .null, oR b66a, .val (.int i571)] [vR b2])) rfl (by rw [hml]; rfl) (Steps.refl _) (argsL := []) (rest := []) (lenOf pd6 rfl) rfl (by show 2 * 0 + _ ≤ _; exact Nat.le_of_eq rfl) (hb hby d25_16) (fun _ _ => ⟨rfl, hh575, (by decide : 0 + 0 ≤ _), (by decide : 0 + 0 ≤ _)⟩))
  obtain ⟨rfl, N576q, hh576⟩ := hQ576
  have N576 := Fr.app N575 N576q
  obtain ⟨_, X576, N576⟩ := own_hide X576 N576
  refine own_go (T' := T576) (f' := (mkF m 24 #[oR b572, oR b2, .val .null, oR b66a, .val (.int i571)] [vI 0, vR b572])) (fun _ k => st576.trans (own_e X576 tt 19 3 k rfl)) ?_
  obtain ⟨T577, h577, X577, e577, W577, st577⟩ := putFN X576 hx hZ hown (ow65 hw) Via.refl hh576 PF27 PE25 (Or.inr ⟨(ow40 hw), rfl, hnm⟩) (ow38 hw) (ty := .byte) (v' := (.int (0 : Int32))) (by decide) rfl (fits_nar_byte (0 : Int32)) (g := (mkF m 24 #[oR b572, oR b2, .val .null, oR b66a, .val (.int i571)] [vI 0, vR b572])) rfl rfl (hb hby d25_24)
  have Fw577 := Fld.same W577 PF27
  have K577 : Keep h0 h577 [b572] := (Keep.refl h0 [b572]).wr W577 (Or.inl (List.mem_of_getElem? (i := 0) rfl))
  have N577 := Fr.snoc X577 N576 n_b572
  refine own_go (T' := T577) (f' := (mkF m 32 #[oR b572, oR b2, .val .null, oR b66a, .val (.int i571)] [(.int i571), vI 0, vR b66a, vR b572])) (fun _ k => st577 _ (own_e X577 tt 27 4 k rfl)) ?_
  obtain ⟨_, T583, Lc583, X583, hQ583, st583⟩ := own_outC (Jvm.LawKit.callS X577 hx (y := mn26) hown (mvT hZ (ow162 hw)) (mvT hZ (ow163 hw)) (mvT hZ (ow87 hw)) (mvT hZ (ow164 hw)) (by decide) (backOf (W := 1) (rm29a164 l Z a0 hw [] b66a i571 k66b us451a h577 n0 (Nat.le_trans Z0 (Keep.of_wr W577).1) (PV19.other W577 ne_b66a_b572) PP3 PP4 PP5 PP6 PP7 PP8 PP9) hZ (ow164 hw) (ow87 hw) (by decide) (by decide)) (g := (mkF m 32 #[oR b572, oR b2, .val .null, oR b66a, .val (.int i571)] [(.int i571), vI 0, vR b66a, vR b572])) rfl (by rw [hml]; rfl) (argsL := [(.ref b66a), (.int (0 : Int32)), (.int i571)]) (rest := [(.ref b572)]) (lenOf pd29 rfl) rfl (by show 2 * 0 + _ ≤ _; exact Nat.le_of_eq rfl) (hb hby d25_32) (fun _ _ => ⟨rfl, e577, (by decide : 0 + 1 ≤ _), (by decide : 0 + 42 ≤ _)⟩))
  obtain ⟨b583a, k583b, us583c, rfl, N583q, K583, n_b583a, sg_b583a, g583_0, g583_1, g583_2⟩ := hQ583
  have N583 := Fr.app N577 N583q
  have sz_b583a : h0.size ≤ b583a := Nat.le_trans K577.1 sg_b583a
  have eK583 : T583.heap = T583.heap := rfl
  have KK583 : Keep h0 T583.heap [b572] := Keep.trans K577 K583 all0
  obtain ⟨_, X583, N583⟩ := own_hide X583 N583
  refine own_go (T' := T583) (f' := (mkF m 35 #[oR b572, oR b2, .val .null, oR b66a, .val (.int i571)] [vR b583a, vR b572])) (fun _ k => st583 _ k) ?_
  have G584 := ((PF26.other W577 (Or.inr (slot_ne (Or.inr (ow39 hw)) (Or.inr (ow40 hw)) (by decide) (t := (.array .byte)) (t' := .byte) (by decide) (by decide)))).keep K583 nin0)
  obtain ⟨T585, h585, X585, e585, W585, st585⟩ := putF X583 hx hZ hown (host := "") (Or.inl (ow58 hw)) Via.refl eK583 G584 ((PE25.wr W577).keep K583) (Or.inr ⟨(ow39 hw), rfl, hnm⟩) (ow38 hw) (ty := (.array .byte)) (by decide) rfl rfl (g := (mkF m 35 #[oR b572, oR b2, .val .null, oR b66a, .val (.int i571)] [vR b583a, vR b572])) rfl rfl (hb hby d25_35)
  have Fw585 := Fld.same W585 G584
  have K585 : Keep h0 h585 [b572] := KK583.wr W585 (Or.inl (List.mem_of_getElem? (i := 0) rfl))
  have N585 := Fr.snoc X585 N583 n_b572
  refine own_go (T' := T585) (f' := (mkF m 97 #[oR b572, oR b2, .val .null, oR b66a, .val (.int i571)] [])) (fun _ k => st585 _ (own_e X585 tt 38 1 k rfl)) ?_
  refine own_ret X585 (v := none) (fun _ => rfl) Bs (fun fs hr => X585.returnOut hx Br (hb hby d25_97) hr) ?_ (by decide) (by decide)
  show Q25a163 Z b572 b2 cs b66a i571 k66b us451a h0 n0 _ T585.heap _
  have G586 := ((Fw577.keep K583 nin0).other W585 (Or.inr (slot_ne (Or.inr (ow40 hw)) (Or.inr (ow39 hw)) (by decide) (t := .byte) (t' := (.array .byte)) (by decide) (by decide))))
  have q587 : b583a ≠ b572 := (Ne.symm (Nat.ne_of_lt (Nat.lt_of_lt_of_le PE25.lt sz_b583a)))
  rw [e585]
  exact ⟨b583a, k583b, us583c, rfl, N585, K585, n_b583a, sz_b583a, Fw585, G586, (g583_0.other W585 q587), (g583_1.wr W585), g583_2⟩
theorem ef_rm24a162 (m : MethodId) (b572 : Addr) (b2 : Addr) : entryFrame m #[(.ref b572), (.ref b2)] 2 = mkF m 0 #[.val (.ref b572), .val (.ref b2)] [] := by first | (simp [entryFrame, mkF, argsToLocals, Value.category]; done) | rfl
def Q24a162 (Z : State) (b572 : Addr) (b2 : Addr) (cs : Int32) (b66a : Addr) (i571 : Int32) (k66b : ClassId) (us451a : List Value) (h0 : Heap) (n0 : Nat) (v : Option Value) (h : Heap) (L : List Loc) : Prop := ∃ (b588a : Addr) (k588b : ClassId) (us588c : List Value), v = none ∧ Fr n0 L ∧ Keep h0 h [b572] ∧ n0 ≤ b588a ∧ h0.size ≤ b588a ∧ Fld Z h b572 "java/lang/String" "value" "[B" (.ref b588a) ∧ Fld Z h b572 "java/lang/String" "coder" "B" (.int (0 : Int32)) ∧ Arv Z h b588a k588b .byte (i571 - (0 : Int32)) us588c (.int (0 : Int32)) ∧ Exa Z h b588a "[B" ∧ us588c.length = ((i571 - (0 : Int32))).toNatClampNeg
set_option maxRecDepth 65536 in
set_option maxHeartbeats 40000000 in
theorem rm24a162 (l : Launch) (Z : State) (a0 : Array Value) (hw : ∀ d ∈ tables_1, d.before a0 Z = true) (ws : List Jvm.Cond) (b572 : Addr) (b2 : Addr) (cs : Int32) (b66a : Addr) (i571 : Int32) (k66b : ClassId) (us451a : List Value) (h0 : Heap) (n0 : Nat) (Z0 : n0 ≤ h0.size) (PS0 : Sta Z h0 "java/lang/String" "COMPACT_STRINGS" "Z" (.int cs)) (PE9 : Exa Z h0 b2 "java/lang/StringBuilder") (PF10 : Fld Z h0 b2 "java/lang/AbstractStringBuilder" "value" "[B" (.ref b66a)) (PF11 : Fld Z h0 b2 "java/lang/AbstractStringBuilder" "coder" "B" (.int (0 : Int32))) (PF12 : Fld Z h0 b2 "java/lang/AbstractStringBuilder" "count" "I" (.int i571)) (PV19 : Arv Z h0 b66a k66b .byte (34 : Int32) us451a (.int (0 : Int32))) (PE25 : Exa Z h0 b572 "java/lang/String") (PF26 : Fld Z h0 b572 "java/lang/String" "value" "[B" .null) (PF27 : Fld Z h0 b572 "java/lang/String" "coder" "B" (.int (0 : Int32))) (PP0 : ¬ (cs = (0 : Int32))) (PP3 : ¬ (i571 = (34 : Int32))) (PP4 : ¬ (i571 < (0 : Int32))) (PP5 : ¬ ((i571 - (0 : Int32)) < (0 : Int32))) (PP6 : ¬ ((42 : Int32) < (i571 - (0 : Int32)))) (PP7 : (i571 - (0 : Int32)) < (34 : Int32)) (PP8 : ¬ ((i571 - (0 : Int32)) < (i571 - (0 : Int32)))) (PP9 : ¬ ((34 : Int32) < (i571 - (0 : Int32)))) (ne_b66a_b572 : b66a ≠ b572) (n_b572 : n0 ≤ b572) :
    own_Met l mn28 jdk_42_method_53_code 2 none ws (oRm 4 1 42 65) #[(.ref b572), (.ref b2)] Z h0 (Q24a162 Z b572 b2 cs b66a i571 k66b us451a h0 n0) := by
  refine own_met (own := "java/lang/String") rfl (plainFor_of_name pn_7) ?_
  intro p e s m below meth c s₁ hx hby hml hZ hown hnm X0 e0 Br Bs
  have N0 := Fr.nil n0
  have tt := own_tt hx hby own_ok24
  rw [ef_rm24a162 m b572 b2]
  refine own_go (T' := s₁) (f' := (mkF m 3 #[oR b572, oR b2] [.null, vR b2, vR b572])) (fun _ k => own_e X0 tt 0 3 k rfl) ?_
  obtain ⟨_, T588, Lc588, X588, hQ588, st588⟩ := own_out (X0.specialBack hx (y := mn27) rfl hown (mvT hZ (ow144 hw)) (mvT hZ (ow145 hw)) (mvT hZ (ow146 hw)) (by decide) (backOf (W := 0) (rm25a163 l Z a0 hw [] b572 b2 cs b66a i571 k66b us451a h0 n0 Z0 PS0 PE9 PF10 PF11 PF12 PV19 PE25 PF26 PF27 PP0 PP3 PP4 PP5 PP6 PP7 PP8 PP9 ne_b66a_b572 n_b572) hZ (ow146 hw) (ow31 hw) (by decide) (by decide)) (g := (mkF m 3 #[oR b572, oR b2] [.null, vR b2, vR b572])) rfl (by rw [hml]; rfl) (Steps.refl _) (a := b572) (argsL := [(.ref b2), .null]) (rest := []) (lenOf pd19 rfl) rfl (by show 2 * 0 + _ ≤ _; exact Nat.le_of_eq rfl) (hb hby d24_3) (fun _ _ => ⟨rfl, e0, (by decide : 0 + 1 ≤ _), (by decide : 0 + 42 ≤ _)⟩))
  obtain ⟨b588a, k588b, us588c, rfl, N588q, K588, n_b588a, sg_b588a, g588_0, g588_1, g588_2, g588_3, g588_4⟩ := hQ588
  have N588 := Fr.app N0 N588q
  have sz_b588a : h0.size ≤ b588a := Nat.le_trans (Keep.refl h0 [b572]).1 sg_b588a
  have eK588 : T588.heap = T588.heap := rfl
  have KK588 : Keep h0 T588.heap [b572] := Keep.trans (Keep.refl h0 [b572]) K588 (allS (Or.inl (List.mem_of_getElem? (i := 0) rfl)) all0)
  obtain ⟨_, X588, N588⟩ := own_hide X588 N588
  refine own_go (T' := T588) (f' := (mkF m 6 #[oR b572, oR b2] [])) (fun _ k => st588.trans k) ?_
  refine own_ret X588 (v := none) (fun _ => rfl) Bs (fun fs hr => X588.returnOut hx Br (hb hby d24_6) hr) ?_ (by decide) (by decide)
  show Q24a162 Z b572 b2 cs b66a i571 k66b us451a h0 n0 _ T588.heap _
  rw [eK588]
  exact ⟨b588a, k588b, us588c, rfl, N588, KK588, n_b588a, sz_b588a, g588_0, g588_1, g588_2, g588_3, g588_4⟩
theorem ef_rm23a161 (m : MethodId) (b2 : Addr) : entryFrame m #[(.ref b2)] 1 = mkF m 0 #[.val (.ref b2)] [] := by first | (simp [entryFrame, mkF, argsToLocals, Value.category]; done) | rfl
def Q23a161 (Z : State) (b2 : Addr) (cs : Int32) (b66a : Addr) (i571 : Int32) (k66b : ClassId) (us451a : List Value) (h0 : Heap) (n0 : Nat) (v : Option Value) (h : Heap) (L : List Loc) : Prop := ∃ (b572 : Addr) (b590a : Addr) (k590b : ClassId) (us590c : List Value), v = some (.ref b572) ∧ Fr n0 L ∧ Keep h0 h [] ∧ n0 ≤ b572 ∧ h0.size ≤ b572 ∧ n0 ≤ b590a ∧ h0.size ≤ b590a ∧ b590a ≠ b572 ∧ Exa Z h b572 "java/lang/String" ∧ Fld Z h b572 "java/lang/String" "value" "[B" (.ref b590a) ∧ Fld Z h b572 "java/lang/String" "coder" "B" (.int (0 : Int32)) ∧ Arv Z h b590a k590b .byte (i571 - (0 : Int32)) us590c (.int (0 : Int32)) ∧ Exa Z h b590a "[B" ∧ us590c.length = ((i571 - (0 : Int32))).toNatClampNeg
set_option maxRecDepth 65536 in
set_option maxHeartbeats 40000000 in
theorem rm23a161 (l : Launch) (Z : State) (a0 : Array Value) (hw : ∀ d ∈ tables_1, d.before a0 Z = true) (ws : List Jvm.Cond) (b2 : Addr) (cs : Int32) (b66a : Addr) (i571 : Int32) (k66b : ClassId) (us451a : List Value) (h0 : Heap) (n0 : Nat) (Z0 : n0 ≤ h0.size) (PS0 : Sta Z h0 "java/lang/String" "COMPACT_STRINGS" "Z" (.int cs)) (PE9 : Exa Z h0 b2 "java/lang/StringBuilder") (PF10 : Fld Z h0 b2 "java/lang/AbstractStringBuilder" "value" "[B" (.ref b66a)) (PF11 : Fld Z h0 b2 "java/lang/AbstractStringBuilder" "coder" "B" (.int (0 : Int32))) (PF12 : Fld Z h0 b2 "java/lang/AbstractStringBuilder" "count" "I" (.int i571)) (PV19 : Arv Z h0 b66a k66b .byte (34 : Int32) us451a (.int (0 : Int32))) (PP0 : ¬ (cs = (0 : Int32))) (PP3 : ¬ (i571 = (34 : Int32))) (PP4 : ¬ (i571 < (0 : Int32))) (PP5 : ¬ ((i571 - (0 : Int32)) < (0 : Int32))) (PP6 : ¬ ((42 : Int32) < (i571 - (0 : Int32)))) (PP7 : (i571 - (0 : Int32)) < (34 : Int32)) (PP8 : ¬ ((i571 - (0 : Int32)) < (i571 - (0 : Int32)))) (PP9 : ¬ ((34 : Int32) < (i571 - (0 : Int32)))) :
    own_Met l mn29 jdk_67_method_42_code 1 (some (.object "java/lang/String")) ws (oRm 5 2 46 79) #[(.ref b2)] Z h0 (Q23a161 Z b2 cs b66a i571 k66b us451a h0 n0) := by
  refine own_met (own := "java/lang/StringBuilder") rfl (plainFor_of_name pn_8) ?_
  intro p e s m below meth c s₁ hx hby hml hZ hown hnm X0 e0 Br Bs
  have N0 := Fr.nil n0
  have tt := own_tt hx hby own_ok23
  rw [ef_rm23a161 m b2]
  obtain ⟨T572, h572, X572, e572, E572, A572, D572, -, st572⟩ := newO X0 hx hZ hown (ow139 hw) (ow38 hw) (ow31 hw) e0 (g := (mkF m 0 #[oR b2] [])) rfl (hb hby d23_0) (by decide) (by decide)
  obtain ⟨b572, g_b572⟩ : ∃ z, z = h0.size := ⟨_, rfl⟩
  have sg_b572 : h0.size ≤ b572 := Nat.le_of_eq g_b572.symm
  rw [← g_b572] at A572 D572 st572
  have n_b572 : n0 ≤ b572 := Nat.le_trans Z0 (Nat.le_of_eq g_b572.symm)
  have sz_b572 : h0.size ≤ b572 := Nat.le_trans (Keep.refl h0 []).1 (Nat.le_of_eq g_b572.symm)
  have K572 : Keep h0 h572 [] := (Keep.refl h0 []).ext E572
  have F_value_b572 : Fld Z h572 b572 "java/lang/String" "value" "[B" .null := D572 (Or.inr (ow39 hw)) (ty := (.array .byte)) (by decide)
  have F_coder_b572 : Fld Z h572 b572 "java/lang/String" "coder" "B" (.int (0 : Int32)) := D572 (Or.inr (ow40 hw)) (ty := .byte) (by decide)
  refine own_go (T' := T572) (f' := (mkF m 5 #[oR b2] [vR b2, vR b572, vR b572])) (fun _ k => st572 _ (own_e X572 tt 3 2 k rfl)) ?_
  have q589 : b66a ≠ b572 := (Nat.ne_of_lt (Nat.lt_of_lt_of_le PV19.lt sz_b572))
  obtain ⟨_, T590, Lc590, X590, hQ590, st590⟩ := own_out (X572.specialBack hx (y := mn28) rfl hown (mvT hZ (ow140 hw)) (mvT hZ (ow141 hw)) (mvT hZ (ow143 hw)) (by decide) (backOf (W := 1) (rm24a162 l Z a0 hw [] b572 b2 cs b66a i571 k66b us451a h572 n0 (Nat.le_trans Z0 E572.1) (PS0.ext E572) (PE9.ext E572) (PF10.ext E572) (PF11.ext E572) (PF12.ext E572) (PV19.ext E572) A572 F_value_b572 F_coder_b572 PP0 PP3 PP4 PP5 PP6 PP7 PP8 PP9 q589 n_b572) hZ (ow143 hw) (ow31 hw) (by decide) (by decide)) (g := (mkF m 5 #[oR b2] [vR b2, vR b572, vR b572])) rfl (by rw [hml]; rfl) (Steps.refl _) (a := b572) (argsL := [(.ref b2)]) (rest := [(.ref b572)]) (lenOf pd25 rfl) rfl (by show 2 * 0 + _ ≤ _; exact Nat.le_of_eq rfl) (hb hby d23_5) (fun _ _ => ⟨rfl, e572, (by decide : 1 + 1 ≤ _), (by decide : 4 + 42 ≤ _)⟩))
  obtain ⟨b590a, k590b, us590c, rfl, N590q, K590, n_b590a, sg_b590a, g590_0, g590_1, g590_2, g590_3, g590_4⟩ := hQ590
  have N590 := Fr.app N0 N590q
  have sz_b590a : h0.size ≤ b590a := Nat.le_trans K572.1 sg_b590a
  have u591 : b572 < h572.size := A572.lt
  have m592 : h0.size ≤ h572.size := (Nat.le_trans (Nat.le_refl _) E572.1)
  have eK590 : T590.heap = T590.heap := rfl
  have KK590 : Keep h0 T590.heap [] := Keep.trans K572 K590 (allS (Or.inr sz_b572) all0)
  obtain ⟨_, X590, N590⟩ := own_hide X590 N590
  refine own_go (T' := T590) (f' := (mkF m 8 #[oR b2] [vR b572])) (fun _ k => st590.trans k) ?_
  refine own_ret X590 (v := some (.ref b572)) (fun h => by rw [Br] at h; cases h) Bs (fun fs hr => own_retA X590 hx Br rfl rfl (hb hby d23_8) hr) ?_ (by decide) (by decide)
  show Q23a161 Z b2 cs b66a i571 k66b us451a h0 n0 _ T590.heap _
  have q593 : b590a ≠ b572 := (Ne.symm (Nat.ne_of_lt (Nat.lt_of_lt_of_le u591 sg_b590a)))
  rw [eK590]
  exact ⟨b572, b590a, k590b, us590c, rfl, N590, KK590, n_b572, sz_b572, n_b590a, sz_b590a, q593, (A572.keep K590), g590_0, g590_1, g590_2, g590_3, g590_4⟩
def own_t3 (pc : Nat) : Option (Instr × Nat) := bif Nat.ble pc 84 then (bif Nat.ble pc 4 then (bif Nat.ble pc 0 then (bif Nat.beq pc 0 then some (.iload_n 0, 1) else none) else (bif Nat.ble pc 1 then (bif Nat.beq pc 1 then some (.ifCond .lt 8, 3) else none) else (bif Nat.beq pc 4 then some (.iload_n 0, 1) else none))) else (bif Nat.ble pc 5 then (bif Nat.beq pc 5 then some (.iload_n 1, 1) else none) else (bif Nat.ble pc 6 then (bif Nat.beq pc 6 then some (.if_icmp .le 75, 3) else none) else (bif Nat.beq pc 84 then some (.dup, 1) else none)))) else (bif Nat.ble pc 87 then (bif Nat.ble pc 85 then (bif Nat.beq pc 85 then some (.iload_n 0, 1) else none) else (bif Nat.ble pc 86 then (bif Nat.beq pc 86 then some (.iload_n 1, 1) else none) else (bif Nat.beq pc 87 then some (.i2l, 1) else none))) else (bif Nat.ble pc 91 then (bif Nat.beq pc 91 then some (.dup, 1) else none) else (bif Nat.ble pc 100 then (bif Nat.beq pc 100 then some (.iload_n 0, 1) else none) else (bif Nat.beq pc 109 then some (.iload_n 1, 1) else none))))
theorem own_ok3 : ∀ pc q, own_fetch 120 own_t3 pc = some q → decode prog_5_method_6_code pc = .ok q := own_tab (by decide +kernel)
theorem d3_1 : decode prog_5_method_6_code 1 = .ok (.ifCond .lt 8, 3) := by decide +kernel
theorem d3_6 : decode prog_5_method_6_code 6 = .ok (.if_icmp .le 75, 3) := by decide +kernel
theorem d3_81 : decode prog_5_method_6_code 81 = .ok (.new 35, 3) := by decide +kernel
theorem d3_88 : decode prog_5_method_6_code 88 = .ok (.new 13, 3) := by decide +kernel
theorem d3_92 : decode prog_5_method_6_code 92 = .ok (.invokespecial 15, 3) := by decide +kernel
theorem d3_95 : decode prog_5_method_6_code 95 = .ok (.ldc 65, 2) := by decide +kernel
theorem d3_97 : decode prog_5_method_6_code 97 = .ok (.invokevirtual 18, 3) := by decide +kernel
theorem d3_101 : decode prog_5_method_6_code 101 = .ok (.invokevirtual 22, 3) := by decide +kernel
theorem d3_104 : decode prog_5_method_6_code 104 = .ok (.ldc 67, 2) := by decide +kernel
theorem d3_106 : decode prog_5_method_6_code 106 = .ok (.invokevirtual 18, 3) := by decide +kernel
theorem d3_110 : decode prog_5_method_6_code 110 = .ok (.invokevirtual 22, 3) := by decide +kernel
theorem d3_113 : decode prog_5_method_6_code 113 = .ok (.invokevirtual 27, 3) := by decide +kernel
theorem d3_116 : decode prog_5_method_6_code 116 = .ok (.invokespecial 41, 3) := by decide +kernel
theorem d3_119 : decode prog_5_method_6_code 119 = .ok (.areturn, 1) := by decide +kernel
theorem pn_1 : plainName "com/example/tally_of_calls/tallyofcalls/Counts" = true := by first | (simp [plainName, overriddenIn]; done) | decide +kernel
theorem ef_rm3g (m : MethodId) (y0 : Int32) (y1 : Int32) : entryFrame m #[(.int y0), (.int y1)] 3 = mkF m 0 #[.val (.int y0), .val (.int y1), .unset] [] := by first | (simp [entryFrame, mkF, argsToLocals, Value.category]; done) | rfl
def Q3g (Z : State) (B : State) (y0 : Int32) (y1 : Int32) (cs : Int32) (wd : Addr) (kd : ClassId) (vd : List Value) (wt : Addr) (kt : ClassId) (vt : List Value) (h0 : Heap) (n0 : Nat) (v : Option Value) (h : Heap) (vm : Vm) (L : List Loc) : Prop := ∃ (c a b : Addr) (k : ClassId) (us : List Value), v = some (.ref c) ∧ Fr n0 L ∧ Keep h0 h [] ∧ n0 ≤ c ∧ h0.size ≤ c ∧ Exa Z h c "com/example/tally_of_calls/tallyofcalls/Count" ∧ Fld Z h c "com/example/tally_of_calls/tallyofcalls/Count" "min" "I" (.int y0) ∧ Fld Z h c "com/example/tally_of_calls/tallyofcalls/Count" "max" "J" (.long (y1.toInt64)) ∧ Fld Z h c "com/example/tally_of_calls/tallyofcalls/Count" "phrase" "Ljava/lang/String;" (.ref a) ∧ Exa Z h a "java/lang/String" ∧ Fld Z h a "java/lang/String" "coder" "B" (.int (0 : Int32)) ∧ Fld Z h a "java/lang/String" "value" "[B" (.ref b) ∧ Arv Z h b k .byte ((((17 : Int32) + (own_dg y0)) + (5 : Int32)) + (own_dg y1)) us (.int (0 : Int32))
set_option maxRecDepth 65536 in
set_option maxHeartbeats 40000000 in
theorem rm3g (l : Launch) (Z : State) (a0 : Array Value) (hw : ∀ d ∈ tables_1, d.before a0 Z = true) (ws : List Jvm.Cond) (B : State) (y0 : Int32) (y1 : Int32) (cs : Int32) (wd : Addr) (kd : ClassId) (vd : List Value) (wt : Addr) (kt : ClassId) (vt : List Value) (h0 : Heap) (n0 : Nat) (Z0 : n0 ≤ h0.size) (S_cs : Sta Z h0 "java/lang/String" "COMPACT_STRINGS" "Z" (.int cs)) (hcs : ¬ (cs = (0 : Int32))) (S_do : Sta Z h0 "java/lang/Integer" "DigitOnes" "[B" (.ref wd)) (V_do : Arv Z h0 wd kd .byte (100 : Int32) vd (.int (0 : Int32))) (S_dt : Sta Z h0 "java/lang/Integer" "DigitTens" "[B" (.ref wt)) (V_dt : Arv Z h0 wt kt .byte (100 : Int32) vt (.int (0 : Int32))) (hst : own_SameSt Z) (hd10 : own_D10 vd) (I0 : IB Z B.vm []) (hk0 : ∀ (b : Addr) (cl : Cell), Z.heap[b]? = some cl → h0[b]? = some cl) (hcw : Jvm.Lit.compactW.before a0 Z = true) (hcA : Jvm.Lit.constHeld Z "com/example/tally_of_calls/tallyofcalls/Counts" 65) (hcB : Jvm.Lit.constHeld Z "com/example/tally_of_calls/tallyofcalls/Counts" 67) (hn0 : n0 = h0.size) (hlo : ¬ y0 < (0 : Int32)) (hle : ¬ y1 < y0) :
    MetFree l mn31 (head1 (Jvm.Cond.code mn31 prog_5_method_6_code 3 (some (.object "com/example/tally_of_calls/tallyofcalls/Count")) :: ws) ({ frames := 6, cells := 11, slots := 269, locals := 111 } : Room)) (fun a U => a = #[(.int y0), (.int y1)] ∧ Z.Warmed39 U.vm ∧ B.WarmedH U.vm ∧ U.heap = h0) (fun _ _ _ _ _ => True) (fun _ U o U' => ∃ v L, o = .returned v ∧ Q3g Z B y0 y1 cs wd kd vd wt kt vt h0 n0 v U'.heap U'.vm L ∧ ReturnedEndW U o U' L ({ frames := 6, cells := 11, slots := 269, locals := 111 } : Room).cells ({ frames := 6, cells := 11, slots := 269, locals := 111 } : Room).slots) := by
  refine MetFree.of_bodySF (plainFor_of_name pn_1) hisR ?_
  intro p e s m args below meth c s₁ Bd hml0 hP hK
  obtain ⟨rfl, hZ, hB, hh⟩ := hP
  have hx := Bd.exec
  have hby := Bd.bytes
  have hml : c.maxLocals = 3 := hml0
  have hown : s.vm.findClass "com/example/tally_of_calls/tallyofcalls/Counts" = some m.cls := findClass_of_methodNamed Bd.named
  have hnm := (name_of_methodNamed Bd.named Bd.method).1
  have X0 : Stand p l e ({ frames := 6, cells := 11, slots := 269, locals := 111 } : Room) (s.setVm s.vm) m #[(.int y0), (.int y1)] below meth c s₁ [] 0 0 := Stand.of_body Bd
  have e0 : s₁.heap = h0 := by rw [← hh, Bd.state]; rfl
  have N0 := Fr.nil n0
  have tt := own_tt hx hby own_ok3
  have hS : s.Since s.vm h0.size := (State.WarmedH.refl s).since _
  show own_EndsW p e below s (Q3g Z B y0 y1 cs wd kd vd wt kt vt h0 n0) _ _ s₁ _
  rw [ef_rm3g m y0 y1]
  have I1 := own_ib I0 hB
  have hkeep : ∀ (b : Addr) (cl : Cell), Z.heap[b]? = some cl → s.heap[b]? = some cl := by rw [hh]; exact hk0
  refine own_goW (T' := s₁) (f' := (mkF m 81 #[.val (.int y0), .val (.int y1), oU] [])) (fun _ k => own_r X0 tt 0 1 rfl (XS.ifNo X0.here hx rfl (hb hby d3_1) rfl ((if0 _ _).trans (flt hlo).1) (own_r X0 tt 4 2 rfl (XS.icmpYes X0.here hx rfl (pc0 := 6) (pc' := 81) rfl (hb hby d3_6) rfl (flt hle).2.2.2 (by decide) (by decide) k)))) ?_
  obtain ⟨T1, h1, X1, e1, E1, A1, D1, -, st1⟩ := newO X0 hx hZ hown (ow12 hw) (ow13 hw) (ow14 hw) e0 (g := (mkF m 81 #[.val (.int y0), .val (.int y1), oU] [])) rfl (hb hby d3_81) (by decide) (by decide)
  obtain ⟨b1, g_b1⟩ : ∃ z, z = h0.size := ⟨_, rfl⟩
  have sg_b1 : h0.size ≤ b1 := Nat.le_of_eq g_b1.symm
  rw [← g_b1] at A1 D1 st1
  have n_b1 : n0 ≤ b1 := Nat.le_trans Z0 (Nat.le_of_eq g_b1.symm)
  have sz_b1 : h0.size ≤ b1 := Nat.le_trans (Keep.refl h0 []).1 (Nat.le_of_eq g_b1.symm)
  have K1 : Keep h0 h1 [] := (Keep.refl h0 []).ext E1
  have F_min_b1 : Fld Z h1 b1 "com/example/tally_of_calls/tallyofcalls/Count" "min" "I" (.int (0 : Int32)) := D1 (Or.inr (ow176 hw)) (ty := .int) (by decide)
  have F_max_b1 : Fld Z h1 b1 "com/example/tally_of_calls/tallyofcalls/Count" "max" "J" (.long (0 : Int64)) := D1 (Or.inr (ow178 hw)) (ty := .long) (by decide)
  have F_phrase_b1 : Fld Z h1 b1 "com/example/tally_of_calls/tallyofcalls/Count" "phrase" "Ljava/lang/String;" .null := D1 (Or.inr (ow180 hw)) (ty := (.object "java/lang/String")) (by decide)
  refine own_goW (T' := T1) (f' := (mkF m 88 #[.val (.int y0), .val (.int y1), oU] [(.long (y1.toInt64)), (.int y0), vR b1, vR b1])) (fun _ k => st1 _ (own_e X1 tt 84 4 k rfl)) ?_
  obtain ⟨T2, h2, X2, e2, E2, A2, D2, -, st2⟩ := newO X1 hx hZ hown (ow15 hw) (ow16 hw) (ow17 hw) e1 (g := (mkF m 88 #[.val (.int y0), .val (.int y1), oU] [(.long (y1.toInt64)), (.int y0), vR b1, vR b1])) rfl (hb hby d3_88) (by decide) (by decide)
  obtain ⟨b2, g_b2⟩ : ∃ z, z = h1.size := ⟨_, rfl⟩
  have sg_b2 : h1.size ≤ b2 := Nat.le_of_eq g_b2.symm
  rw [← g_b2] at A2 D2 st2
  have n_b2 : n0 ≤ b2 := Nat.le_trans (Nat.le_trans Z0 E1.1) (Nat.le_of_eq g_b2.symm)
  have sz_b2 : h0.size ≤ b2 := Nat.le_trans K1.1 (Nat.le_of_eq g_b2.symm)
  have u3 : b1 < h1.size := A1.lt
  have m4 : h0.size ≤ h1.size := (Nat.le_trans (Nat.le_refl _) E1.1)
  have K2 : Keep h0 h2 [] := K1.ext E2
  have F_value_b2 : Fld Z h2 b2 "java/lang/AbstractStringBuilder" "value" "[B" .null := D2 (Or.inl (ow34 hw)) (ty := (.array .byte)) (by decide)
  have F_coder_b2 : Fld Z h2 b2 "java/lang/AbstractStringBuilder" "coder" "B" (.int (0 : Int32)) := D2 (Or.inl (ow36 hw)) (ty := .byte) (by decide)
  have F_count_b2 : Fld Z h2 b2 "java/lang/AbstractStringBuilder" "count" "I" (.int (0 : Int32)) := D2 (Or.inl (ow67 hw)) (ty := .int) (by decide)
  refine own_goW (T' := T2) (f' := (mkF m 92 #[.val (.int y0), .val (.int y1), oU] [vR b2, vR b2, (.long (y1.toInt64)), (.int y0), vR b1, vR b1])) (fun _ k => st2 _ (own_e X2 tt 91 1 k rfl)) ?_
  obtain ⟨_, T15, Lc15, X15, hQ15, st15⟩ := own_out (X2.specialBack hx (y := mn5) rfl hown (mvT hZ (ow18 hw)) (mvT hZ (ow19 hw)) (mvT hZ (ow20 hw)) (by decide) (backOf (W := 6) (rm4a1 l Z a0 hw [] b2 cs h2 n0 (Nat.le_trans (Nat.le_trans Z0 E1.1) E2.1) ((S_cs.ext E1).ext E2) A2 F_value_b2 F_coder_b2 F_count_b2 hcs n_b2) hZ (ow20 hw) (ow17 hw) (by decide) (by decide)) (g := (mkF m 92 #[.val (.int y0), .val (.int y1), oU] [vR b2, vR b2, (.long (y1.toInt64)), (.int y0), vR b1, vR b1])) rfl (by rw [hml]; rfl) (Steps.refl _) (a := b2) (argsL := []) (rest := [(.ref b2), (.long (y1.toInt64)), (.int y0), (.ref b1), (.ref b1)]) (lenOf pd5 rfl) rfl (by show 2 * 0 + _ ≤ _; exact Nat.le_of_eq rfl) (hb hby d3_92) (fun _ _ => ⟨rfl, e2, (by decide : 2 + 1 ≤ _), (by decide : 7 + 16 ≤ _)⟩))
  obtain ⟨b15a, k15b, rfl, N15q, K15, n_b15a, sg_b15a, g15_0, g15_1, g15_2, g15_3, g15_4⟩ := hQ15
  have N15 := Fr.app N0 N15q
  have sz_b15a : h0.size ≤ b15a := Nat.le_trans K2.1 sg_b15a
  have u16 : b2 < h2.size := A2.lt
  have m17 : h1.size ≤ h2.size := (Nat.le_trans (Nat.le_refl _) E2.1)
  have eK15 : T15.heap = T15.heap := rfl
  have KK15 : Keep h0 T15.heap [] := Keep.trans K2 K15 (allS (Or.inr sz_b2) all0)
  obtain ⟨_, X15, N15⟩ := own_hide X15 N15
  refine own_goW (T' := T15) (f' := (mkF m 95 #[.val (.int y0), .val (.int y1), oU] [vR b2, (.long (y1.toInt64)), (.int y0), vR b1, vR b1])) (fun _ k => st15.trans k) ?_
  obtain ⟨a18, T18, h18, k1_18, b18, kc18, X18, e18, E18, hS18, hk18, -, -, gE18, gC18, gV18, gA18, -, -, IB18, Lt18, st18⟩ := ldcSVL (Z := Z) (s := (s.setVm s.vm)) (vm0 := s.vm) X15 hx hZ hown (ow37 hw) (own_wS hw) eK15 ((State.WarmedH.refl (s.setVm s.vm)).since 0) (Nat.zero_le _) (by show Fr s.heap.size _; rw [hh, ← hn0]; exact N15) hkeep I1 (by decide) hcA hcw (vs := own_lit0) (z := (17 : Int32)) own_lit0_ok (by decide) own_lit0_len (g := (mkF m 95 #[.val (.int y0), .val (.int y1), oU] [vR b2, (.long (y1.toInt64)), (.int y0), vR b1, vR b1])) rfl (hb hby d3_95) (n := 68) (by decide) (by decide) (by decide) (by decide)
  have hM18 := own_sm hS18 hk18
  obtain ⟨X18, hS, hZ, hown⟩ := rebS hS (Nat.le_trans (Nat.le_trans (Nat.le_trans (Nat.le_refl _) E1.1) E2.1) K15.1) X18 hM18 E18.1 hZ hown
  have K18 : Keep h0 h18 [] := KK15.ext E18
  refine own_goW (T' := T18) (f' := (mkF m 97 #[.val (.int y0), .val (.int y1), oU] [vR a18, vR b2, (.long (y1.toInt64)), (.int y0), vR b1, vR b1])) (fun _ k => st18 _ k) ?_
  have q64 : a18 ≠ b2 := (own_exa_ne gE18 ((A2.keep K15).ext E18) (by decide))
  have q65 : b18 ≠ b2 := (Ne.symm (Exa.neArv ((A2.keep K15).ext E18) gA18 (ow16 hw)))
  obtain ⟨cq66, kq66, q66a, q66b, q66c⟩ := isOf hZ e18 ((A2.keep K15).ext E18)
  obtain ⟨_, T66, Lc66, X66, hQ66, st66⟩ := own_out (X18.virtualBack hx (y := mn16) (z := mn16) hown (mvT hZ (ow43 hw)) (mvT hZ (ow44 hw)) (notFace_of_selects (args := #[]) (mvT hZ (ow46 hw))) (mvT hZ (ow46 hw)) (mvT hZ (ow45 hw)) (by decide) (backOf (W := 5) (rm7a3 l Z a0 hw [] b2 a18 cs b15a k15b b18 kc18 h18 n0 (Nat.le_trans (Nat.le_trans (Nat.le_trans (Nat.le_trans Z0 E1.1) E2.1) K15.1) E18.1) ((own_sta_keep ((S_cs.ext E1).ext E2) K15 (own_wsE A2 own_ws0)).ext E18) ((A2.keep K15).ext E18) (g15_0.ext E18) (g15_1.ext E18) (g15_2.ext E18) (g15_3.ext E18) gE18 gC18 gV18 gA18 hcs q64 q65 n_b2) hZ (ow47 hw) (ow17 hw) (by decide) (by decide)) q66a q66c (g := (mkF m 97 #[.val (.int y0), .val (.int y1), oU] [vR a18, vR b2, (.long (y1.toInt64)), (.int y0), vR b1, vR b1])) rfl (by rw [hml]; rfl) (Steps.refl _) (argsL := [(.ref a18)]) (rest := [(.long (y1.toInt64)), (.int y0), (.ref b1), (.ref b1)]) (lenOf pd23 rfl) rfl (by show 2 * 0 + _ ≤ _; exact Nat.le_of_eq rfl) (hb hby d3_97) (fun _ _ => ⟨rfl, e18, (by decide : 5 + 1 ≤ _), (by decide : 95 + 34 ≤ _)⟩))
  obtain ⟨b66a, k66b, rfl, N66q, K66, n_b66a, sg_b66a, g66_0, g66_1, g66_2, g66_3, g66_4⟩ := hQ66
  have N66 := Fr.app N15 N66q
  have sz_b66a : h0.size ≤ b66a := Nat.le_trans K18.1 sg_b66a
  have u67 : b15a < h18.size := (Nat.lt_of_lt_of_le g15_3.lt E18.1)
  have m68 : h2.size ≤ h18.size := (Nat.le_trans (Nat.le_trans (Nat.le_refl _) K15.1) E18.1)
  have eK66 : T66.heap = T66.heap := rfl
  have KK66 : Keep h0 T66.heap [] := Keep.trans K18 K66 (allS (Or.inr sz_b2) all0)
  obtain ⟨_, X66, N66⟩ := own_hide X66 N66
  refine own_goW (T' := T66) (f' := (mkF m 101 #[.val (.int y0), .val (.int y1), oU] [(.int y0), vR b2, (.long (y1.toInt64)), (.int y0), vR b1, vR b1])) (fun _ k => st66.trans (own_e X66 tt 100 1 k rfl)) ?_
  have e75 : ((0 : Int32)).toInt = 0 := rfl
  have e76 := mt own_ltI.mpr hlo
  have e77 := mt own_ltI.mpr hle
  have e78 : ((17 : Int32)).toInt = 17 := rfl
  have e79 := own_dgb y0
  have e80 : ((17 : Int32) + (own_dg y0)).toInt = ((17 : Int32)).toInt + ((own_dg y0)).toInt := own_addI (by omega) (by omega)
  have e81 : ((34 : Int32)).toInt = 34 := rfl
  have e82 : (((17 : Int32) + (own_dg y0)) - (34 : Int32)).toInt = (((17 : Int32) + (own_dg y0))).toInt - ((34 : Int32)).toInt := own_subI (by omega) (by omega)
  have hd74 : ¬ ((0 : Int32) < (((17 : Int32) + (own_dg y0)) - (34 : Int32))) := by exact mt own_ltI.mp (by omega)
  have e95 := mt own_ltI.mpr hd74
  have hd94 : ¬ (((17 : Int32) + (own_dg y0)) < (own_dg y0)) := by exact mt own_ltI.mp (by omega)
  have e103 := mt own_ltI.mpr hd94
  have hd102 : ¬ ((34 : Int32) < ((17 : Int32) + (own_dg y0))) := by exact mt own_ltI.mp (by omega)
  have q114 : b66a ≠ wd := (Ne.symm (Nat.ne_of_lt (Nat.lt_of_lt_of_le V_do.lt sz_b66a)))
  have q115 : b66a ≠ wt := (Ne.symm (Nat.ne_of_lt (Nat.lt_of_lt_of_le V_dt.lt sz_b66a)))
  have q116 : b2 ≠ b66a := (Nat.ne_of_lt (Nat.lt_of_lt_of_le u16 (Nat.le_trans m68 sg_b66a)))
  have G118 := (own_sta_keep ((own_sta_keep ((S_cs.ext E1).ext E2) K15 (own_wsE A2 own_ws0)).ext E18) K66 (own_wsE ((A2.keep K15).ext E18) own_ws0))
  have G119 := (own_sta_keep ((own_sta_keep ((S_do.ext E1).ext E2) K15 (own_wsE A2 own_ws0)).ext E18) K66 (own_wsE ((A2.keep K15).ext E18) own_ws0))
  have q120 : wd ≠ b2 := (Nat.ne_of_lt (Nat.lt_of_lt_of_le V_do.lt sz_b2))
  have G121 := (own_sta_keep ((own_sta_keep ((S_dt.ext E1).ext E2) K15 (own_wsE A2 own_ws0)).ext E18) K66 (own_wsE ((A2.keep K15).ext E18) own_ws0))
  have q122 : wt ≠ b2 := (Nat.ne_of_lt (Nat.lt_of_lt_of_le V_dt.lt sz_b2))
  obtain ⟨cq117, kq117, q117a, q117b, q117c⟩ := isOf hZ eK66 (((A2.keep K15).ext E18).keep K66)
  obtain ⟨_, T117, Lc117, X117, hQ117, st117⟩ := own_out (X66.virtualBack hx (y := mn20) (z := mn20) hown (mvT hZ (ow111 hw)) (mvT hZ (ow112 hw)) (notFace_of_selects (args := #[]) (mvT hZ (ow114 hw))) (mvT hZ (ow114 hw)) (mvT hZ (ow113 hw)) (by decide) (backOf (W := 5) (rm18a25 l Z a0 hw [] b2 y0 cs wd kd vd wt kt vt b66a k66b T66.heap n0 (Nat.le_trans (Nat.le_trans (Nat.le_trans (Nat.le_trans (Nat.le_trans Z0 E1.1) E2.1) K15.1) E18.1) K66.1) G118 G119 (((((V_do.ext E1).ext E2).keep K15 (ninS q120 nin0)).ext E18).keep K66 (ninS q120 nin0)) G121 (((((V_dt.ext E1).ext E2).keep K15 (ninS q122 nin0)).ext E18).keep K66 (ninS q122 nin0)) (((A2.keep K15).ext E18).keep K66) g66_0 g66_1 g66_2 g66_3 hcs hlo hd74 hd94 hd102 q114 q115 q116 (Ne.symm q116) n_b2 n_b66a hst) hZ (ow115 hw) (ow17 hw) (by decide) (by decide)) q117a q117c (g := (mkF m 101 #[.val (.int y0), .val (.int y1), oU] [(.int y0), vR b2, (.long (y1.toInt64)), (.int y0), vR b1, vR b1])) rfl (by rw [hml]; rfl) (Steps.refl _) (argsL := [(.int y0)]) (rest := [(.long (y1.toInt64)), (.int y0), (.ref b1), (.ref b1)]) (lenOf pd10 rfl) rfl (by show 2 * 0 + _ ≤ _; exact Nat.le_of_eq rfl) (hb hby d3_101) (fun _ _ => ⟨rfl, eK66, (by decide : 6 + 0 ≤ _), (by decide : 129 + 0 ≤ _)⟩))
  obtain ⟨us117a, rfl, N117q, K117, g117_0, g117_1, g117_2, g117_3, g117_4⟩ := hQ117
  have N117 := Fr.app N66 N117q
  have eK117 : T117.heap = T117.heap := rfl
  have KK117 : Keep h0 T117.heap [] := Keep.trans KK66 K117 (allS (Or.inr sz_b2) (allS (Or.inr sz_b66a) all0))
  obtain ⟨_, X117, N117⟩ := own_hide X117 N117
  refine own_goW (T' := T117) (f' := (mkF m 104 #[.val (.int y0), .val (.int y1), oU] [vR b2, (.long (y1.toInt64)), (.int y0), vR b1, vR b1])) (fun _ k => st117.trans k) ?_
  obtain ⟨a123, T123, h123, k1_123, b123, kc123, X123, e123, E123, hS123, hk123, -, -, gE123, gC123, gV123, gA123, -, -, IB123, Lt123, st123⟩ := ldcSVL (Z := Z) (s := (s.setVm T18.vm)) (vm0 := T18.vm) X117 hx hZ hown (ow133 hw) (own_wS hw) eK117 ((State.WarmedH.refl (s.setVm T18.vm)).since 0) (Nat.zero_le _) (by show Fr s.heap.size _; rw [hh, ← hn0]; exact N117) hkeep IB18 (by decide) hcB hcw (vs := own_lit1) (z := (5 : Int32)) own_lit1_ok (by decide) own_lit1_len (g := (mkF m 104 #[.val (.int y0), .val (.int y1), oU] [vR b2, (.long (y1.toInt64)), (.int y0), vR b1, vR b1])) rfl (hb hby d3_104) (n := 20) (by decide) (by decide) (by decide) (by decide)
  have hM123 := own_sm hS123 hk123
  obtain ⟨X123, hS, hZ, hown⟩ := rebS hS (Nat.le_trans (Nat.le_trans (Nat.le_refl _) K66.1) K117.1) X123 hM123 E123.1 hZ hown
  have Lt124 := Lit.stays Lt18 hM123.1
  have K123 : Keep h0 h123 [] := KK117.ext E123
  refine own_goW (T' := T123) (f' := (mkF m 106 #[.val (.int y0), .val (.int y1), oU] [vR a123, vR b2, (.long (y1.toInt64)), (.int y0), vR b1, vR b1])) (fun _ k => st123 _ k) ?_
  have e134 := mt own_ltI.mpr hd102
  have e135 : ((5 : Int32)).toInt = 5 := rfl
  have e136 : (((17 : Int32) + (own_dg y0)) + (5 : Int32)).toInt = (((17 : Int32) + (own_dg y0))).toInt + ((5 : Int32)).toInt := own_addI (by omega) (by omega)
  have e137 : ((((17 : Int32) + (own_dg y0)) + (5 : Int32)) - (34 : Int32)).toInt = ((((17 : Int32) + (own_dg y0)) + (5 : Int32))).toInt - ((34 : Int32)).toInt := own_subI (by omega) (by omega)
  have hd133 : ¬ ((0 : Int32) < ((((17 : Int32) + (own_dg y0)) + (5 : Int32)) - (34 : Int32))) := by exact mt own_ltI.mp (by omega)
  have e153 := mt own_ltI.mpr hd133
  have e154 : ((29 : Int32)).toInt = 29 := rfl
  have e155 : ((((17 : Int32) + (own_dg y0)) <<< ((0 : Int32) &&& 31))).toInt = (((17 : Int32) + (own_dg y0))).toInt := congrArg Int32.toInt (own_shl0 _)
  have hd152 : ¬ ((29 : Int32) < (((17 : Int32) + (own_dg y0)) <<< ((0 : Int32) &&& 31))) := by exact mt own_ltI.mp (by omega)
  have e168 := mt own_ltI.mpr hd152
  have hd167 : ¬ ((((17 : Int32) + (own_dg y0)) <<< ((0 : Int32) &&& 31)) < (0 : Int32)) := by exact mt own_ltI.mp (by omega)
  have Zs189 : n0 ≤ h123.size := (Nat.le_trans (Nat.le_trans (Nat.le_trans (Nat.le_trans (Nat.le_trans (Nat.le_trans (Nat.le_trans Z0 E1.1) E2.1) K15.1) E18.1) K66.1) K117.1) E123.1)
  obtain ⟨cq188, kq188, q188a, q188b, q188c⟩ := isOf hZ e123 (((((A2.keep K15).ext E18).keep K66).keep K117).ext E123)
  obtain ⟨_, T188, Lc188, X188, hQ188, st188⟩ := own_out (X123.virtualBack hx (y := mn16) (z := mn16) hown (mvT hZ (ow43 hw)) (mvT hZ (ow44 hw)) (notFace_of_selects (args := #[]) (mvT hZ (ow46 hw))) (mvT hZ (ow46 hw)) (mvT hZ (ow45 hw)) (by decide) (backOf (W := 5) (rm7a40 l Z a0 hw [] b2 a123 cs b66a ((17 : Int32) + (own_dg y0)) k66b us117a b123 kc123 h123 n0 Zs189 ((own_sta_keep G118 K117 (own_wsE (((A2.keep K15).ext E18).keep K66) (own_wsV g66_3 own_ws0))).ext E123) (((((A2.keep K15).ext E18).keep K66).keep K117).ext E123) (g117_0.ext E123) (g117_1.ext E123) (g117_2.ext E123) (g117_3.ext E123) gE123 gC123 gV123 gA123 hcs hd133 hd152 hd167 q116 (Ne.symm q116) n_b2 n_b66a g117_4) hZ (ow47 hw) (ow17 hw) (by decide) (by decide)) q188a q188c (g := (mkF m 106 #[.val (.int y0), .val (.int y1), oU] [vR a123, vR b2, (.long (y1.toInt64)), (.int y0), vR b1, vR b1])) rfl (by rw [hml]; rfl) (Steps.refl _) (argsL := [(.ref a123)]) (rest := [(.long (y1.toInt64)), (.int y0), (.ref b1), (.ref b1)]) (lenOf pd23 rfl) rfl (by show 2 * 0 + _ ≤ _; exact Nat.le_of_eq rfl) (hb hby d3_106) (fun _ _ => ⟨rfl, e123, (by decide : 8 + 0 ≤ _), (by decide : 153 + 0 ≤ _)⟩))
  obtain ⟨us188a, rfl, N188q, K188, g188_0, g188_1, g188_2, g188_3, g188_4⟩ := hQ188
  have N188 := Fr.app N117 N188q
  have eK188 : T188.heap = T188.heap := rfl
  have KK188 : Keep h0 T188.heap [] := Keep.trans K123 K188 (allS (Or.inr sz_b2) (allS (Or.inr sz_b66a) all0))
  obtain ⟨_, X188, N188⟩ := own_hide X188 N188
  refine own_goW (T' := T188) (f' := (mkF m 110 #[.val (.int y0), .val (.int y1), oU] [(.int y1), vR b2, (.long (y1.toInt64)), (.int y0), vR b1, vR b1])) (fun _ k => st188.trans (own_e X188 tt 109 1 k rfl)) ?_
  have e194 := mt own_ltI.mpr hd167
  have hd193 : ¬ (y1 < (0 : Int32)) := by exact mt own_ltI.mp (by omega)
  by_cases hc201 : (0 : Int32) < (((((17 : Int32) + (own_dg y0)) + (5 : Int32)) + (own_dg y1)) - (34 : Int32))
  · have e214 := mt own_ltI.mpr hd193
    have e215 := own_dgb y1
    have e216 : ((((17 : Int32) + (own_dg y0)) + (5 : Int32)) + (own_dg y1)).toInt = ((((17 : Int32) + (own_dg y0)) + (5 : Int32))).toInt + ((own_dg y1)).toInt := own_addI (by omega) (by omega)
    have e217 : (((((17 : Int32) + (own_dg y0)) + (5 : Int32)) + (own_dg y1)) - (34 : Int32)).toInt = (((((17 : Int32) + (own_dg y0)) + (5 : Int32)) + (own_dg y1))).toInt - ((34 : Int32)).toInt := own_subI (by omega) (by omega)
    have e218 := own_ltI.mp hc201
    have e219 : ((((((17 : Int32) + (own_dg y0)) + (5 : Int32)) + (own_dg y1)) <<< ((0 : Int32) &&& 31))).toInt = (((((17 : Int32) + (own_dg y0)) + (5 : Int32)) + (own_dg y1))).toInt := congrArg Int32.toInt (own_shl0 _)
    have e220 : ((((((17 : Int32) + (own_dg y0)) + (5 : Int32)) + (own_dg y1)) <<< ((0 : Int32) &&& 31)) - (34 : Int32)).toInt = ((((((17 : Int32) + (own_dg y0)) + (5 : Int32)) + (own_dg y1)) <<< ((0 : Int32) &&& 31))).toInt - ((34 : Int32)).toInt := own_subI (by omega) (by omega)
    have e221 : ((36 : Int32)).toInt = 36 := rfl
    have hd213 : ((((((17 : Int32) + (own_dg y0)) + (5 : Int32)) + (own_dg y1)) <<< ((0 : Int32) &&& 31)) - (34 : Int32)) < (36 : Int32) := by exact own_ltI.mpr (by omega)
    have e253 := own_ltI.mp hd213
    have hd252 : ¬ (((((17 : Int32) + (own_dg y0)) + (5 : Int32)) + (own_dg y1)) < (own_dg y1)) := by exact mt own_ltI.mp (by omega)
    have e264 := mt own_ltI.mpr hd252
    have e265 : ((70 : Int32)).toInt = 70 := rfl
    have hd263 : ¬ ((70 : Int32) < ((((17 : Int32) + (own_dg y0)) + (5 : Int32)) + (own_dg y1))) := by exact mt own_ltI.mp (by omega)
    have G281 := (own_sta_keep ((own_sta_keep G118 K117 (own_wsE (((A2.keep K15).ext E18).keep K66) (own_wsV g66_3 own_ws0))).ext E123) K188 (own_wsE (((((A2.keep K15).ext E18).keep K66).keep K117).ext E123) (own_wsV (g117_3.ext E123) own_ws0)))
    have G282 := (own_sta_keep ((own_sta_keep G119 K117 (own_wsE (((A2.keep K15).ext E18).keep K66) (own_wsV g66_3 own_ws0))).ext E123) K188 (own_wsE (((((A2.keep K15).ext E18).keep K66).keep K117).ext E123) (own_wsV (g117_3.ext E123) own_ws0)))
    have G283 := ((((((((V_do.ext E1).ext E2).keep K15 (ninS q120 nin0)).ext E18).keep K66 (ninS q120 nin0)).keep K117 (ninS q120 (ninS (Ne.symm q114) nin0))).ext E123).keep K188 (ninS q120 (ninS (Ne.symm q114) nin0)))
    have G284 := (own_sta_keep ((own_sta_keep G121 K117 (own_wsE (((A2.keep K15).ext E18).keep K66) (own_wsV g66_3 own_ws0))).ext E123) K188 (own_wsE (((((A2.keep K15).ext E18).keep K66).keep K117).ext E123) (own_wsV (g117_3.ext E123) own_ws0)))
    have G285 := ((((((((V_dt.ext E1).ext E2).keep K15 (ninS q122 nin0)).ext E18).keep K66 (ninS q122 nin0)).keep K117 (ninS q122 (ninS (Ne.symm q115) nin0))).ext E123).keep K188 (ninS q122 (ninS (Ne.symm q115) nin0)))
    obtain ⟨cq280, kq280, q280a, q280b, q280c⟩ := isOf hZ eK188 ((((((A2.keep K15).ext E18).keep K66).keep K117).ext E123).keep K188)
    obtain ⟨_, T280, Lc280, X280, hQ280, st280⟩ := own_out (X188.virtualBack hx (y := mn20) (z := mn20) hown (mvT hZ (ow111 hw)) (mvT hZ (ow112 hw)) (notFace_of_selects (args := #[]) (mvT hZ (ow114 hw))) (mvT hZ (ow114 hw)) (mvT hZ (ow113 hw)) (by decide) (backOf (W := 5) (rm18a65 l Z a0 hw [] b2 y1 cs wd kd vd wt kt vt b66a (((17 : Int32) + (own_dg y0)) + (5 : Int32)) k66b us188a T188.heap n0 (Nat.le_trans Zs189 K188.1) G281 G282 G283 G284 G285 ((((((A2.keep K15).ext E18).keep K66).keep K117).ext E123).keep K188) g188_0 g188_1 g188_2 g188_3 hcs hd193 hc201 hd213 hd252 hd263 q120 q122 n_b2 hst) hZ (ow115 hw) (ow17 hw) (by decide) (by decide)) q280a q280c (g := (mkF m 110 #[.val (.int y0), .val (.int y1), oU] [(.int y1), vR b2, (.long (y1.toInt64)), (.int y0), vR b1, vR b1])) rfl (by rw [hml]; rfl) (Steps.refl _) (argsL := [(.int y1)]) (rest := [(.long (y1.toInt64)), (.int y0), (.ref b1), (.ref b1)]) (lenOf pd10 rfl) rfl (by show 2 * 0 + _ ≤ _; exact Nat.le_of_eq rfl) (hb hby d3_110) (fun _ _ => ⟨rfl, eK188, (by decide : 8 + 1 ≤ _), (by decide : 153 + 70 ≤ _)⟩))
    obtain ⟨b280a, k280b, us280c, rfl, N280q, K280, n_b280a, sg_b280a, g280_0, g280_1, g280_2, g280_3, g280_4, g280_5⟩ := hQ280
    have N280 := Fr.app N188 N280q
    have sz_b280a : h0.size ≤ b280a := Nat.le_trans KK188.1 sg_b280a
    have u286 : b66a < T188.heap.size := (Nat.lt_of_lt_of_le (Nat.lt_of_lt_of_le (Nat.lt_of_lt_of_le g66_3.lt K117.1) E123.1) K188.1)
    have m287 : h18.size ≤ T188.heap.size := (Nat.le_trans (Nat.le_trans (Nat.le_trans (Nat.le_trans (Nat.le_refl _) K66.1) K117.1) E123.1) K188.1)
    have eK280 : T280.heap = T280.heap := rfl
    have KK280 : Keep h0 T280.heap [] := Keep.trans KK188 K280 (allS (Or.inr sz_b2) all0)
    obtain ⟨_, X280, N280⟩ := own_hide X280 N280
    refine own_goW (T' := T280) (f' := (mkF m 113 #[.val (.int y0), .val (.int y1), oU] [vR b2, (.long (y1.toInt64)), (.int y0), vR b1, vR b1])) (fun _ k => st280.trans k) ?_
    have e299 := mt own_ltI.mpr hd263
    have hd298 : ¬ (((((17 : Int32) + (own_dg y0)) + (5 : Int32)) + (own_dg y1)) = (70 : Int32)) := by exact mt (congrArg Int32.toInt) (by omega)
    have e308 := mt Int32.toInt_inj.mp hd298
    have hd307 : ¬ (((((17 : Int32) + (own_dg y0)) + (5 : Int32)) + (own_dg y1)) < (0 : Int32)) := by exact mt own_ltI.mp (by omega)
    have e318 := mt own_ltI.mpr hd307
    have e319 : (((((17 : Int32) + (own_dg y0)) + (5 : Int32)) + (own_dg y1)) - (0 : Int32)).toInt = (((((17 : Int32) + (own_dg y0)) + (5 : Int32)) + (own_dg y1))).toInt - ((0 : Int32)).toInt := own_subI (by omega) (by omega)
    have hd317 : ¬ ((((((17 : Int32) + (own_dg y0)) + (5 : Int32)) + (own_dg y1)) - (0 : Int32)) < (0 : Int32)) := by exact mt own_ltI.mp (by omega)
    have e329 := mt own_ltI.mpr hd317
    have e330 : ((42 : Int32)).toInt = 42 := rfl
    have hd328 : ¬ ((42 : Int32) < (((((17 : Int32) + (own_dg y0)) + (5 : Int32)) + (own_dg y1)) - (0 : Int32))) := by exact mt own_ltI.mp (by omega)
    have e342 := mt own_ltI.mpr hd328
    have hd341 : (((((17 : Int32) + (own_dg y0)) + (5 : Int32)) + (own_dg y1)) - (0 : Int32)) < (70 : Int32) := by exact own_ltI.mpr (by omega)
    have e355 := own_ltI.mp hd341
    have hd354 : ¬ ((((((17 : Int32) + (own_dg y0)) + (5 : Int32)) + (own_dg y1)) - (0 : Int32)) < (((((17 : Int32) + (own_dg y0)) + (5 : Int32)) + (own_dg y1)) - (0 : Int32))) := by exact mt own_ltI.mp (by omega)
    have e367 := mt own_ltI.mpr hd354
    have hd366 : ¬ ((70 : Int32) < (((((17 : Int32) + (own_dg y0)) + (5 : Int32)) + (own_dg y1)) - (0 : Int32))) := by exact mt own_ltI.mp (by omega)
    obtain ⟨cq391, kq391, q391a, q391b, q391c⟩ := isOf hZ eK280 (((((((A2.keep K15).ext E18).keep K66).keep K117).ext E123).keep K188).keep K280)
    obtain ⟨_, T391, Lc391, X391, hQ391, st391⟩ := own_out (X280.virtualBack hx (y := mn29) (z := mn29) hown (mvT hZ (ow134 hw)) (mvT hZ (ow135 hw)) (notFace_of_selects (args := #[]) (mvT hZ (ow137 hw))) (mvT hZ (ow137 hw)) (mvT hZ (ow136 hw)) (by decide) (backOf (W := 5) (rm23a108 l Z a0 hw [] b2 cs b280a ((((17 : Int32) + (own_dg y0)) + (5 : Int32)) + (own_dg y1)) k280b us280c T280.heap n0 (Nat.le_trans (Nat.le_trans Zs189 K188.1) K280.1) (own_sta_keep G281 K280 (own_wsE ((((((A2.keep K15).ext E18).keep K66).keep K117).ext E123).keep K188) own_ws0)) (((((((A2.keep K15).ext E18).keep K66).keep K117).ext E123).keep K188).keep K280) g280_0 g280_1 g280_2 g280_3 hcs hd298 hd307 hd317 hd328 hd341 hd354 hd366) hZ (ow138 hw) (ow17 hw) (by decide) (by decide)) q391a q391c (g := (mkF m 113 #[.val (.int y0), .val (.int y1), oU] [vR b2, (.long (y1.toInt64)), (.int y0), vR b1, vR b1])) rfl (by rw [hml]; rfl) (Steps.refl _) (argsL := []) (rest := [(.long (y1.toInt64)), (.int y0), (.ref b1), (.ref b1)]) (lenOf pd4 rfl) rfl (by show 2 * 0 + _ ≤ _; exact Nat.le_of_eq rfl) (hb hby d3_113) (fun _ _ => ⟨rfl, eK280, (by decide : 9 + 2 ≤ _), (by decide : 223 + 46 ≤ _)⟩))
    obtain ⟨b391a, b391b, k391c, us391d, rfl, N391q, K391, n_b391a, sg_b391a, n_b391b, sg_b391b, ne391_0, g391_0, g391_1, g391_2, g391_3, g391_4, g391_5⟩ := hQ391
    have N391 := Fr.app N280 N391q
    have sz_b391a : h0.size ≤ b391a := Nat.le_trans KK280.1 sg_b391a
    have sz_b391b : h0.size ≤ b391b := Nat.le_trans KK280.1 sg_b391b
    have u392 : b280a < T280.heap.size := g280_3.lt
    have m393 : T188.heap.size ≤ T280.heap.size := (Nat.le_trans (Nat.le_refl _) K280.1)
    have eK391 : T391.heap = T391.heap := rfl
    have KK391 : Keep h0 T391.heap [] := Keep.trans KK280 K391 all0
    obtain ⟨_, X391, N391⟩ := own_hide X391 N391
    refine own_goW (T' := T391) (f' := (mkF m 116 #[.val (.int y0), .val (.int y1), oU] [vR b391a, (.long (y1.toInt64)), (.int y0), vR b1, vR b1])) (fun _ k => st391.trans k) ?_
    have q406 : b1 ≠ b2 := (Nat.ne_of_lt (Nat.lt_of_lt_of_le u3 sg_b2))
    have c407 : h1.size ≤ h18.size := Nat.le_trans m17 m68
    have q408 : b1 ≠ b66a := (Nat.ne_of_lt (Nat.lt_of_lt_of_le u3 (Nat.le_trans c407 sg_b66a)))
    have G409 := (((((((((F_min_b1.ext E2).keep K15 (ninS q406 nin0)).ext E18).keep K66 (ninS q406 nin0)).keep K117 (ninS q406 (ninS q408 nin0))).ext E123).keep K188 (ninS q406 (ninS q408 nin0))).keep K280 (ninS q406 nin0)).keep K391 nin0)
    have G410 := (((((((((F_max_b1.ext E2).keep K15 (ninS q406 nin0)).ext E18).keep K66 (ninS q406 nin0)).keep K117 (ninS q406 (ninS q408 nin0))).ext E123).keep K188 (ninS q406 (ninS q408 nin0))).keep K280 (ninS q406 nin0)).keep K391 nin0)
    have G411 := (((((((((F_phrase_b1.ext E2).keep K15 (ninS q406 nin0)).ext E18).keep K66 (ninS q406 nin0)).keep K117 (ninS q406 (ninS q408 nin0))).ext E123).keep K188 (ninS q406 (ninS q408 nin0))).keep K280 (ninS q406 nin0)).keep K391 nin0)
    obtain ⟨_, T405, Lc405, X405, hQ405, st405⟩ := own_out (X391.specialBack hx (y := mn30) rfl hown (mvT hZ (ow171 hw)) (mvT hZ (ow172 hw)) (mvT hZ (ow173 hw)) (by decide) (backOf (W := 1) (rm32a113 l Z a0 hw [] b1 y0 (y1.toInt64) b391a T391.heap n0 (Nat.le_trans (Nat.le_trans (Nat.le_trans Zs189 K188.1) K280.1) K391.1) (((((((((A1.ext E2).keep K15).ext E18).keep K66).keep K117).ext E123).keep K188).keep K280).keep K391) G409 G410 G411 n_b1) hZ (ow173 hw) (ow14 hw) (by decide) (by decide)) (g := (mkF m 116 #[.val (.int y0), .val (.int y1), oU] [vR b391a, (.long (y1.toInt64)), (.int y0), vR b1, vR b1])) rfl (by rw [hml]; rfl) (Steps.refl _) (a := b1) (argsL := [(.int y0), (.long (y1.toInt64)), (.ref b391a)]) (rest := [(.ref b1)]) (lenOf pd17 rfl) rfl (by show 2 * 0 + _ ≤ _; exact Nat.le_of_eq rfl) (hb hby d3_116) (fun _ _ => ⟨rfl, eK391, (by decide : 11 + 0 ≤ _), (by decide : 269 + 0 ≤ _)⟩))
    obtain ⟨rfl, N405q, K405, g405_0, g405_1, g405_2⟩ := hQ405
    have N405 := Fr.app N391 N405q
    have eK405 : T405.heap = T405.heap := rfl
    have KK405 : Keep h0 T405.heap [] := Keep.trans KK391 K405 (allS (Or.inr sz_b1) all0)
    obtain ⟨_, X405, N405⟩ := own_hide X405 N405
    refine own_goW (T' := T405) (f' := (mkF m 119 #[.val (.int y0), .val (.int y1), oU] [vR b1])) (fun _ k => st405.trans k) ?_
    refine own_retW X405 hS (by rw [eK405]; exact (Nat.le_trans (Nat.le_trans (Nat.le_trans (Nat.le_trans (Nat.le_refl _) K188.1) K280.1) K391.1) K405.1)) (v := some (.ref b1)) (fun h => by rw [Bd.returns] at h; cases h) Bd.notSynchronized (fun fs hr => own_retA X405 hx Bd.returns rfl rfl (hb hby d3_119) hr) ?_ (by decide) (by decide)
    show Q3g Z B y0 y1 cs wd kd vd wt kt vt h0 n0 _ T405.heap T405.vm _
    have c413 : h1.size ≤ T188.heap.size := Nat.le_trans c407 m287
    have c412 : h1.size ≤ T280.heap.size := Nat.le_trans c413 m393
    have q414 : b391a ≠ b1 := (Ne.symm (Nat.ne_of_lt (Nat.lt_of_lt_of_le u3 (Nat.le_trans c412 sg_b391a))))
    have q415 : b391b ≠ b1 := (Ne.symm (Nat.ne_of_lt (Nat.lt_of_lt_of_le u3 (Nat.le_trans c412 sg_b391b))))
    have e417 := mt own_ltI.mpr hd366
    have hd416 : (((((17 : Int32) + (own_dg y0)) + (5 : Int32)) + (own_dg y1)) - (0 : Int32)) = ((((17 : Int32) + (own_dg y0)) + (5 : Int32)) + (own_dg y1)) := by exact Int32.toInt_inj.mp (by omega)
    rw [eK405]
    exact ⟨b1, b391a, b391b, _, us391d, rfl, N405, KK405, n_b1, sz_b1, ((((((((((A1.ext E2).keep K15).ext E18).keep K66).keep K117).ext E123).keep K188).keep K280).keep K391).keep K405), g405_0, g405_1, g405_2, (g391_0.keep K405), (g391_2.keep K405 (ninS q414 nin0)), (g391_1.keep K405 (ninS q414 nin0)), (by rw [← hd416]; exact (g391_3.keep K405 (ninS q415 nin0)))⟩
  · have e426 := mt own_ltI.mpr hd193
    have e427 := own_dgb y1
    have e428 : ((((17 : Int32) + (own_dg y0)) + (5 : Int32)) + (own_dg y1)).toInt = ((((17 : Int32) + (own_dg y0)) + (5 : Int32))).toInt + ((own_dg y1)).toInt := own_addI (by omega) (by omega)
    have e429 : (((((17 : Int32) + (own_dg y0)) + (5 : Int32)) + (own_dg y1)) - (34 : Int32)).toInt = (((((17 : Int32) + (own_dg y0)) + (5 : Int32)) + (own_dg y1))).toInt - ((34 : Int32)).toInt := own_subI (by omega) (by omega)
    have e430 := mt own_ltI.mpr hc201
    have hd425 : ¬ (((((17 : Int32) + (own_dg y0)) + (5 : Int32)) + (own_dg y1)) < (own_dg y1)) := by exact mt own_ltI.mp (by omega)
    have e439 := mt own_ltI.mpr hd425
    have hd438 : ¬ ((34 : Int32) < ((((17 : Int32) + (own_dg y0)) + (5 : Int32)) + (own_dg y1))) := by exact mt own_ltI.mp (by omega)
    have G452 := (own_sta_keep ((own_sta_keep G118 K117 (own_wsE (((A2.keep K15).ext E18).keep K66) (own_wsV g66_3 own_ws0))).ext E123) K188 (own_wsE (((((A2.keep K15).ext E18).keep K66).keep K117).ext E123) (own_wsV (g117_3.ext E123) own_ws0)))
    have G453 := (own_sta_keep ((own_sta_keep G119 K117 (own_wsE (((A2.keep K15).ext E18).keep K66) (own_wsV g66_3 own_ws0))).ext E123) K188 (own_wsE (((((A2.keep K15).ext E18).keep K66).keep K117).ext E123) (own_wsV (g117_3.ext E123) own_ws0)))
    have G454 := ((((((((V_do.ext E1).ext E2).keep K15 (ninS q120 nin0)).ext E18).keep K66 (ninS q120 nin0)).keep K117 (ninS q120 (ninS (Ne.symm q114) nin0))).ext E123).keep K188 (ninS q120 (ninS (Ne.symm q114) nin0)))
    have G455 := (own_sta_keep ((own_sta_keep G121 K117 (own_wsE (((A2.keep K15).ext E18).keep K66) (own_wsV g66_3 own_ws0))).ext E123) K188 (own_wsE (((((A2.keep K15).ext E18).keep K66).keep K117).ext E123) (own_wsV (g117_3.ext E123) own_ws0)))
    have G456 := ((((((((V_dt.ext E1).ext E2).keep K15 (ninS q122 nin0)).ext E18).keep K66 (ninS q122 nin0)).keep K117 (ninS q122 (ninS (Ne.symm q115) nin0))).ext E123).keep K188 (ninS q122 (ninS (Ne.symm q115) nin0)))
    obtain ⟨cq451, kq451, q451a, q451b, q451c⟩ := isOf hZ eK188 ((((((A2.keep K15).ext E18).keep K66).keep K117).ext E123).keep K188)
    obtain ⟨_, T451, Lc451, X451, hQ451, st451⟩ := own_out (X188.virtualBack hx (y := mn20) (z := mn20) hown (mvT hZ (ow111 hw)) (mvT hZ (ow112 hw)) (notFace_of_selects (args := #[]) (mvT hZ (ow114 hw))) (mvT hZ (ow114 hw)) (mvT hZ (ow113 hw)) (by decide) (backOf (W := 5) (rm18a118 l Z a0 hw [] b2 y1 cs wd kd vd wt kt vt b66a (((17 : Int32) + (own_dg y0)) + (5 : Int32)) k66b us188a T188.heap n0 (Nat.le_trans Zs189 K188.1) G452 G453 G454 G455 G456 ((((((A2.keep K15).ext E18).keep K66).keep K117).ext E123).keep K188) g188_0 g188_1 g188_2 g188_3 hcs hd193 hc201 hd425 hd438 q114 q115 q116 (Ne.symm q116) n_b2 n_b66a hst) hZ (ow115 hw) (ow17 hw) (by decide) (by decide)) q451a q451c (g := (mkF m 110 #[.val (.int y0), .val (.int y1), oU] [(.int y1), vR b2, (.long (y1.toInt64)), (.int y0), vR b1, vR b1])) rfl (by rw [hml]; rfl) (Steps.refl _) (argsL := [(.int y1)]) (rest := [(.long (y1.toInt64)), (.int y0), (.ref b1), (.ref b1)]) (lenOf pd10 rfl) rfl (by show 2 * 0 + _ ≤ _; exact Nat.le_of_eq rfl) (hb hby d3_110) (fun _ _ => ⟨rfl, eK188, (by decide : 8 + 0 ≤ _), (by decide : 153 + 0 ≤ _)⟩))
    obtain ⟨us451a, rfl, N451q, K451, g451_0, g451_1, g451_2, g451_3, g451_4⟩ := hQ451
    have N451 := Fr.app N188 N451q
    have eK451 : T451.heap = T451.heap := rfl
    have KK451 : Keep h0 T451.heap [] := Keep.trans KK188 K451 (allS (Or.inr sz_b2) (allS (Or.inr sz_b66a) all0))
    obtain ⟨_, X451, N451⟩ := own_hide X451 N451
    refine own_goW (T' := T451) (f' := (mkF m 113 #[.val (.int y0), .val (.int y1), oU] [vR b2, (.long (y1.toInt64)), (.int y0), vR b1, vR b1])) (fun _ k => st451.trans k) ?_
    by_cases hc464 : ((((17 : Int32) + (own_dg y0)) + (5 : Int32)) + (own_dg y1)) = (34 : Int32)
    · have G486 := (own_sta_keep G452 K451 (own_wsE ((((((A2.keep K15).ext E18).keep K66).keep K117).ext E123).keep K188) (own_wsV g188_3 own_ws0)))
      obtain ⟨cq485, kq485, q485a, q485b, q485c⟩ := isOf hZ eK451 (((((((A2.keep K15).ext E18).keep K66).keep K117).ext E123).keep K188).keep K451)
      obtain ⟨_, T485, Lc485, X485, hQ485, st485⟩ := own_out (X451.virtualBack hx (y := mn29) (z := mn29) hown (mvT hZ (ow134 hw)) (mvT hZ (ow135 hw)) (notFace_of_selects (args := #[]) (mvT hZ (ow137 hw))) (mvT hZ (ow137 hw)) (mvT hZ (ow136 hw)) (by decide) (backOf (W := 5) (rm23a124 l Z a0 hw [] b2 cs b66a ((((17 : Int32) + (own_dg y0)) + (5 : Int32)) + (own_dg y1)) k66b us451a T451.heap n0 (Nat.le_trans (Nat.le_trans Zs189 K188.1) K451.1) G486 (((((((A2.keep K15).ext E18).keep K66).keep K117).ext E123).keep K188).keep K451) g451_0 g451_1 g451_2 g451_3 ((((g66_4.keep K117).ext E123).keep K188).keep K451) hcs hc464) hZ (ow138 hw) (ow17 hw) (by decide) (by decide)) q485a q485c (g := (mkF m 113 #[.val (.int y0), .val (.int y1), oU] [vR b2, (.long (y1.toInt64)), (.int y0), vR b1, vR b1])) rfl (by rw [hml]; rfl) (Steps.refl _) (argsL := []) (rest := [(.long (y1.toInt64)), (.int y0), (.ref b1), (.ref b1)]) (lenOf pd4 rfl) rfl (by show 2 * 0 + _ ≤ _; exact Nat.le_of_eq rfl) (hb hby d3_113) (fun _ _ => ⟨rfl, eK451, (by decide : 8 + 2 ≤ _), (by decide : 153 + 38 ≤ _)⟩))
      obtain ⟨b485a, b485b, rfl, N485q, K485, n_b485a, sg_b485a, n_b485b, sg_b485b, ne485_0, g485_0, g485_1, g485_2, g485_3, g485_4⟩ := hQ485
      have N485 := Fr.app N451 N485q
      have sz_b485a : h0.size ≤ b485a := Nat.le_trans KK451.1 sg_b485a
      have sz_b485b : h0.size ≤ b485b := Nat.le_trans KK451.1 sg_b485b
      have u487 : b66a < T451.heap.size := (Nat.lt_of_lt_of_le (Nat.lt_of_lt_of_le (Nat.lt_of_lt_of_le (Nat.lt_of_lt_of_le g66_3.lt K117.1) E123.1) K188.1) K451.1)
      have m488 : h18.size ≤ T451.heap.size := (Nat.le_trans (Nat.le_trans (Nat.le_trans (Nat.le_trans (Nat.le_trans (Nat.le_refl _) K66.1) K117.1) E123.1) K188.1) K451.1)
      have eK485 : T485.heap = T485.heap := rfl
      have KK485 : Keep h0 T485.heap [] := Keep.trans KK451 K485 all0
      obtain ⟨_, X485, N485⟩ := own_hide X485 N485
      refine own_goW (T' := T485) (f' := (mkF m 116 #[.val (.int y0), .val (.int y1), oU] [vR b485a, (.long (y1.toInt64)), (.int y0), vR b1, vR b1])) (fun _ k => st485.trans k) ?_
      have q490 : b1 ≠ b2 := (Nat.ne_of_lt (Nat.lt_of_lt_of_le u3 sg_b2))
      have c491 : h1.size ≤ h18.size := Nat.le_trans m17 m68
      have q492 : b1 ≠ b66a := (Nat.ne_of_lt (Nat.lt_of_lt_of_le u3 (Nat.le_trans c491 sg_b66a)))
      have G493 := (((((((((F_min_b1.ext E2).keep K15 (ninS q490 nin0)).ext E18).keep K66 (ninS q490 nin0)).keep K117 (ninS q490 (ninS q492 nin0))).ext E123).keep K188 (ninS q490 (ninS q492 nin0))).keep K451 (ninS q490 (ninS q492 nin0))).keep K485 nin0)
      have G494 := (((((((((F_max_b1.ext E2).keep K15 (ninS q490 nin0)).ext E18).keep K66 (ninS q490 nin0)).keep K117 (ninS q490 (ninS q492 nin0))).ext E123).keep K188 (ninS q490 (ninS q492 nin0))).keep K451 (ninS q490 (ninS q492 nin0))).keep K485 nin0)
      have G495 := (((((((((F_phrase_b1.ext E2).keep K15 (ninS q490 nin0)).ext E18).keep K66 (ninS q490 nin0)).keep K117 (ninS q490 (ninS q492 nin0))).ext E123).keep K188 (ninS q490 (ninS q492 nin0))).keep K451 (ninS q490 (ninS q492 nin0))).keep K485 nin0)
      obtain ⟨_, T489, Lc489, X489, hQ489, st489⟩ := own_out (X485.specialBack hx (y := mn30) rfl hown (mvT hZ (ow171 hw)) (mvT hZ (ow172 hw)) (mvT hZ (ow173 hw)) (by decide) (backOf (W := 1) (rm32a113 l Z a0 hw [] b1 y0 (y1.toInt64) b485a T485.heap n0 (Nat.le_trans (Nat.le_trans (Nat.le_trans Zs189 K188.1) K451.1) K485.1) (((((((((A1.ext E2).keep K15).ext E18).keep K66).keep K117).ext E123).keep K188).keep K451).keep K485) G493 G494 G495 n_b1) hZ (ow173 hw) (ow14 hw) (by decide) (by decide)) (g := (mkF m 116 #[.val (.int y0), .val (.int y1), oU] [vR b485a, (.long (y1.toInt64)), (.int y0), vR b1, vR b1])) rfl (by rw [hml]; rfl) (Steps.refl _) (a := b1) (argsL := [(.int y0), (.long (y1.toInt64)), (.ref b485a)]) (rest := [(.ref b1)]) (lenOf pd17 rfl) rfl (by show 2 * 0 + _ ≤ _; exact Nat.le_of_eq rfl) (hb hby d3_116) (fun _ _ => ⟨rfl, eK485, (by decide : 10 + 0 ≤ _), (by decide : 191 + 0 ≤ _)⟩))
      obtain ⟨rfl, N489q, K489, g489_0, g489_1, g489_2⟩ := hQ489
      have N489 := Fr.app N485 N489q
      have eK489 : T489.heap = T489.heap := rfl
      have KK489 : Keep h0 T489.heap [] := Keep.trans KK485 K489 (allS (Or.inr sz_b1) all0)
      obtain ⟨_, X489, N489⟩ := own_hide X489 N489
      refine own_goW (T' := T489) (f' := (mkF m 119 #[.val (.int y0), .val (.int y1), oU] [vR b1])) (fun _ k => st489.trans k) ?_
      refine own_retW X489 hS (by rw [eK489]; exact (Nat.le_trans (Nat.le_trans (Nat.le_trans (Nat.le_trans (Nat.le_refl _) K188.1) K451.1) K485.1) K489.1)) (v := some (.ref b1)) (fun h => by rw [Bd.returns] at h; cases h) Bd.notSynchronized (fun fs hr => own_retA X489 hx Bd.returns rfl rfl (hb hby d3_119) hr) ?_ (by decide) (by decide)
      show Q3g Z B y0 y1 cs wd kd vd wt kt vt h0 n0 _ T489.heap T489.vm _
      have c496 : h1.size ≤ T451.heap.size := Nat.le_trans c491 m488
      have q497 : b485a ≠ b1 := (Ne.symm (Nat.ne_of_lt (Nat.lt_of_lt_of_le u3 (Nat.le_trans c496 sg_b485a))))
      have q498 : b485b ≠ b1 := (Ne.symm (Nat.ne_of_lt (Nat.lt_of_lt_of_le u3 (Nat.le_trans c496 sg_b485b))))
      have e500 := mt own_ltI.mpr hd438
      have e501 := congrArg Int32.toInt hc464
      have hd499 : (34 : Int32) = ((((17 : Int32) + (own_dg y0)) + (5 : Int32)) + (own_dg y1)) := by exact Int32.toInt_inj.mp (by omega)
      rw [eK489]
      exact ⟨b1, b485a, b485b, _, us451a, rfl, N489, KK489, n_b1, sz_b1, ((((((((((A1.ext E2).keep K15).ext E18).keep K66).keep K117).ext E123).keep K188).keep K451).keep K485).keep K489), g489_0, g489_1, g489_2, (g485_0.keep K489), (g485_2.keep K489 (ninS q497 nin0)), (g485_1.keep K489 (ninS q497 nin0)), (by rw [← hd499]; exact (g485_3.keep K489 (ninS q498 nin0)))⟩
    · have e510 := mt own_ltI.mpr hd438
      have e511 := mt Int32.toInt_inj.mp hc464
      have hd509 : ¬ (((((17 : Int32) + (own_dg y0)) + (5 : Int32)) + (own_dg y1)) < (0 : Int32)) := by exact mt own_ltI.mp (by omega)
      have e521 := mt own_ltI.mpr hd509
      have e522 : (((((17 : Int32) + (own_dg y0)) + (5 : Int32)) + (own_dg y1)) - (0 : Int32)).toInt = (((((17 : Int32) + (own_dg y0)) + (5 : Int32)) + (own_dg y1))).toInt - ((0 : Int32)).toInt := own_subI (by omega) (by omega)
      have hd520 : ¬ ((((((17 : Int32) + (own_dg y0)) + (5 : Int32)) + (own_dg y1)) - (0 : Int32)) < (0 : Int32)) := by exact mt own_ltI.mp (by omega)
      have e532 := mt own_ltI.mpr hd520
      have e533 : ((42 : Int32)).toInt = 42 := rfl
      have hd531 : ¬ ((42 : Int32) < (((((17 : Int32) + (own_dg y0)) + (5 : Int32)) + (own_dg y1)) - (0 : Int32))) := by exact mt own_ltI.mp (by omega)
      have e545 := mt own_ltI.mpr hd531
      have hd544 : (((((17 : Int32) + (own_dg y0)) + (5 : Int32)) + (own_dg y1)) - (0 : Int32)) < (34 : Int32) := by exact own_ltI.mpr (by omega)
      have e558 := own_ltI.mp hd544
      have hd557 : ¬ ((((((17 : Int32) + (own_dg y0)) + (5 : Int32)) + (own_dg y1)) - (0 : Int32)) < (((((17 : Int32) + (own_dg y0)) + (5 : Int32)) + (own_dg y1)) - (0 : Int32))) := by exact mt own_ltI.mp (by omega)
      have e570 := mt own_ltI.mpr hd557
      have hd569 : ¬ ((34 : Int32) < (((((17 : Int32) + (own_dg y0)) + (5 : Int32)) + (own_dg y1)) - (0 : Int32))) := by exact mt own_ltI.mp (by omega)
      have G595 := (own_sta_keep G452 K451 (own_wsE ((((((A2.keep K15).ext E18).keep K66).keep K117).ext E123).keep K188) (own_wsV g188_3 own_ws0)))
      obtain ⟨cq594, kq594, q594a, q594b, q594c⟩ := isOf hZ eK451 (((((((A2.keep K15).ext E18).keep K66).keep K117).ext E123).keep K188).keep K451)
      obtain ⟨_, T594, Lc594, X594, hQ594, st594⟩ := own_out (X451.virtualBack hx (y := mn29) (z := mn29) hown (mvT hZ (ow134 hw)) (mvT hZ (ow135 hw)) (notFace_of_selects (args := #[]) (mvT hZ (ow137 hw))) (mvT hZ (ow137 hw)) (mvT hZ (ow136 hw)) (by decide) (backOf (W := 5) (rm23a161 l Z a0 hw [] b2 cs b66a ((((17 : Int32) + (own_dg y0)) + (5 : Int32)) + (own_dg y1)) k66b us451a T451.heap n0 (Nat.le_trans (Nat.le_trans Zs189 K188.1) K451.1) G595 (((((((A2.keep K15).ext E18).keep K66).keep K117).ext E123).keep K188).keep K451) g451_0 g451_1 g451_2 g451_3 hcs hc464 hd509 hd520 hd531 hd544 hd557 hd569) hZ (ow138 hw) (ow17 hw) (by decide) (by decide)) q594a q594c (g := (mkF m 113 #[.val (.int y0), .val (.int y1), oU] [vR b2, (.long (y1.toInt64)), (.int y0), vR b1, vR b1])) rfl (by rw [hml]; rfl) (Steps.refl _) (argsL := []) (rest := [(.long (y1.toInt64)), (.int y0), (.ref b1), (.ref b1)]) (lenOf pd4 rfl) rfl (by show 2 * 0 + _ ≤ _; exact Nat.le_of_eq rfl) (hb hby d3_113) (fun _ _ => ⟨rfl, eK451, (by decide : 8 + 2 ≤ _), (by decide : 153 + 46 ≤ _)⟩))
      obtain ⟨b594a, b594b, k594c, us594d, rfl, N594q, K594, n_b594a, sg_b594a, n_b594b, sg_b594b, ne594_0, g594_0, g594_1, g594_2, g594_3, g594_4, g594_5⟩ := hQ594
      have N594 := Fr.app N451 N594q
      have sz_b594a : h0.size ≤ b594a := Nat.le_trans KK451.1 sg_b594a
      have sz_b594b : h0.size ≤ b594b := Nat.le_trans KK451.1 sg_b594b
      have u596 : b66a < T451.heap.size := (Nat.lt_of_lt_of_le (Nat.lt_of_lt_of_le (Nat.lt_of_lt_of_le (Nat.lt_of_lt_of_le g66_3.lt K117.1) E123.1) K188.1) K451.1)
      have m597 : h18.size ≤ T451.heap.size := (Nat.le_trans (Nat.le_trans (Nat.le_trans (Nat.le_trans (Nat.le_trans (Nat.le_refl _) K66.1) K117.1) E123.1) K188.1) K451.1)
      have eK594 : T594.heap = T594.heap := rfl
      have KK594 : Keep h0 T594.heap [] := Keep.trans KK451 K594 all0
      obtain ⟨_, X594, N594⟩ := own_hide X594 N594
      refine own_goW (T' := T594) (f' := (mkF m 116 #[.val (.int y0), .val (.int y1), oU] [vR b594a, (.long (y1.toInt64)), (.int y0), vR b1, vR b1])) (fun _ k => st594.trans k) ?_
      have q599 : b1 ≠ b2 := (Nat.ne_of_lt (Nat.lt_of_lt_of_le u3 sg_b2))
      have c600 : h1.size ≤ h18.size := Nat.le_trans m17 m68
      have q601 : b1 ≠ b66a := (Nat.ne_of_lt (Nat.lt_of_lt_of_le u3 (Nat.le_trans c600 sg_b66a)))
      have G602 := (((((((((F_min_b1.ext E2).keep K15 (ninS q599 nin0)).ext E18).keep K66 (ninS q599 nin0)).keep K117 (ninS q599 (ninS q601 nin0))).ext E123).keep K188 (ninS q599 (ninS q601 nin0))).keep K451 (ninS q599 (ninS q601 nin0))).keep K594 nin0)
      have G603 := (((((((((F_max_b1.ext E2).keep K15 (ninS q599 nin0)).ext E18).keep K66 (ninS q599 nin0)).keep K117 (ninS q599 (ninS q601 nin0))).ext E123).keep K188 (ninS q599 (ninS q601 nin0))).keep K451 (ninS q599 (ninS q601 nin0))).keep K594 nin0)
      have G604 := (((((((((F_phrase_b1.ext E2).keep K15 (ninS q599 nin0)).ext E18).keep K66 (ninS q599 nin0)).keep K117 (ninS q599 (ninS q601 nin0))).ext E123).keep K188 (ninS q599 (ninS q601 nin0))).keep K451 (ninS q599 (ninS q601 nin0))).keep K594 nin0)
      obtain ⟨_, T598, Lc598, X598, hQ598, st598⟩ := own_out (X594.specialBack hx (y := mn30) rfl hown (mvT hZ (ow171 hw)) (mvT hZ (ow172 hw)) (mvT hZ (ow173 hw)) (by decide) (backOf (W := 1) (rm32a113 l Z a0 hw [] b1 y0 (y1.toInt64) b594a T594.heap n0 (Nat.le_trans (Nat.le_trans (Nat.le_trans Zs189 K188.1) K451.1) K594.1) (((((((((A1.ext E2).keep K15).ext E18).keep K66).keep K117).ext E123).keep K188).keep K451).keep K594) G602 G603 G604 n_b1) hZ (ow173 hw) (ow14 hw) (by decide) (by decide)) (g := (mkF m 116 #[.val (.int y0), .val (.int y1), oU] [vR b594a, (.long (y1.toInt64)), (.int y0), vR b1, vR b1])) rfl (by rw [hml]; rfl) (Steps.refl _) (a := b1) (argsL := [(.int y0), (.long (y1.toInt64)), (.ref b594a)]) (rest := [(.ref b1)]) (lenOf pd17 rfl) rfl (by show 2 * 0 + _ ≤ _; exact Nat.le_of_eq rfl) (hb hby d3_116) (fun _ _ => ⟨rfl, eK594, (by decide : 10 + 0 ≤ _), (by decide : 199 + 0 ≤ _)⟩))
      obtain ⟨rfl, N598q, K598, g598_0, g598_1, g598_2⟩ := hQ598
      have N598 := Fr.app N594 N598q
      have eK598 : T598.heap = T598.heap := rfl
      have KK598 : Keep h0 T598.heap [] := Keep.trans KK594 K598 (allS (Or.inr sz_b1) all0)
      obtain ⟨_, X598, N598⟩ := own_hide X598 N598
      refine own_goW (T' := T598) (f' := (mkF m 119 #[.val (.int y0), .val (.int y1), oU] [vR b1])) (fun _ k => st598.trans k) ?_
      refine own_retW X598 hS (by rw [eK598]; exact (Nat.le_trans (Nat.le_trans (Nat.le_trans (Nat.le_trans (Nat.le_refl _) K188.1) K451.1) K594.1) K598.1)) (v := some (.ref b1)) (fun h => by rw [Bd.returns] at h; cases h) Bd.notSynchronized (fun fs hr => own_retA X598 hx Bd.returns rfl rfl (hb hby d3_119) hr) ?_ (by decide) (by decide)
      show Q3g Z B y0 y1 cs wd kd vd wt kt vt h0 n0 _ T598.heap T598.vm _
      have c605 : h1.size ≤ T451.heap.size := Nat.le_trans c600 m597
      have q606 : b594a ≠ b1 := (Ne.symm (Nat.ne_of_lt (Nat.lt_of_lt_of_le u3 (Nat.le_trans c605 sg_b594a))))
      have q607 : b594b ≠ b1 := (Ne.symm (Nat.ne_of_lt (Nat.lt_of_lt_of_le u3 (Nat.le_trans c605 sg_b594b))))
      have e609 := mt own_ltI.mpr hd569
      have hd608 : (((((17 : Int32) + (own_dg y0)) + (5 : Int32)) + (own_dg y1)) - (0 : Int32)) = ((((17 : Int32) + (own_dg y0)) + (5 : Int32)) + (own_dg y1)) := by exact Int32.toInt_inj.mp (by omega)
      rw [eK598]
      exact ⟨b1, b594a, b594b, _, us594d, rfl, N598, KK598, n_b1, sz_b1, ((((((((((A1.ext E2).keep K15).ext E18).keep K66).keep K117).ext E123).keep K188).keep K451).keep K594).keep K598), g598_0, g598_1, g598_2, (g594_0.keep K598), (g594_2.keep K598 (ninS q606 nin0)), (g594_1.keep K598 (ninS q606 nin0)), (by rw [← hd608]; exact (g594_3.keep K598 (ninS q607 nin0)))⟩
theorem ef_rm20a171 (m : MethodId) (y0 : Int32) : entryFrame m #[(.int y0)] 4 = mkF m 0 #[.val (.int y0), .unset, .unset, .unset] [] := by first | (simp [entryFrame, mkF, argsToLocals, Value.category]; done) | rfl
def Q20a171 (Z : State) (y0 : Int32) (h0 : Heap) (n0 : Nat) (v : Option Value) (h : Heap) (L : List Loc) : Prop := v = some (.int (1 : Int32)) ∧ Fr n0 L ∧ h = h0
set_option maxRecDepth 65536 in
set_option maxHeartbeats 40000000 in
theorem rm20a171 (l : Launch) (Z : State) (a0 : Array Value) (hw : ∀ d ∈ tables_1, d.before a0 Z = true) (ws : List Jvm.Cond) (y0 : Int32) (h0 : Heap) (n0 : Nat) (Z0 : n0 ≤ h0.size) (PP1 : ¬ (y0 < (0 : Int32))) (PP2 : (-10 : Int32) < (-y0)) :
    own_Met l mn3 jdk_33_method_13_code 4 (some .int) ws (oRm 0 0 0 0) #[(.int y0)] Z h0 (Q20a171 Z y0 h0 n0) := by
  refine own_met (own := "java/lang/Integer") rfl (plainFor_of_name pn_4) ?_
  intro p e s m below meth c s₁ hx hby hml hZ hown hnm X0 e0 Br Bs
  have N0 := Fr.nil n0
  have tt := own_tt hx hby own_ok20
  rw [ef_rm20a171 m y0]
  refine own_go (T' := s₁) (f' := (mkF m 30 #[.val (.int (-y0)), oI 0, oI (-10), oI 1] [vI 1])) (fun _ k => own_r X0 tt 0 3 rfl (XS.ifNo X0.here hx rfl (hb hby d20_3) rfl ((if0 _ _).trans (flt PP1).1) (own_r X0 tt 6 14 rfl (XS.icmpNo X0.here hx rfl (hb hby d20_24) rfl (tlt PP2).2.2.2 (own_e X0 tt 27 3 k rfl))))) ?_
  refine own_ret X0 (v := some (.int (1 : Int32))) (fun h => by rw [Br] at h; cases h) Bs (fun fs hr => retI X0 hx Br (hb hby d20_30) hr) ?_ (by decide) (by decide)
  show Q20a171 Z y0 h0 n0 _ s₁.heap _
  exact ⟨rfl, N0, e0⟩
theorem ef_rm11a172 (m : MethodId) (b2 : Addr) : entryFrame m #[(.ref b2), (.int (18 : Int32))] 3 = mkF m 0 #[.val (.ref b2), .val (.int (18 : Int32)), .unset] [] := by first | (simp [entryFrame, mkF, argsToLocals, Value.category]; done) | rfl
def Q11a172 (Z : State) (b2 : Addr) (b11a : Addr) (k11b : ClassId) (h0 : Heap) (n0 : Nat) (v : Option Value) (h : Heap) (L : List Loc) : Prop := v = none ∧ Fr n0 L ∧ h = h0
set_option maxRecDepth 65536 in
set_option maxHeartbeats 40000000 in
theorem rm11a172 (l : Launch) (Z : State) (a0 : Array Value) (hw : ∀ d ∈ tables_1, d.before a0 Z = true) (ws : List Jvm.Cond) (b2 : Addr) (b11a : Addr) (k11b : ClassId) (h0 : Heap) (n0 : Nat) (Z0 : n0 ≤ h0.size) (PF10 : Fld Z h0 b2 "java/lang/AbstractStringBuilder" "value" "[B" (.ref b11a)) (PF11 : Fld Z h0 b2 "java/lang/AbstractStringBuilder" "coder" "B" (.int (0 : Int32))) (PV19 : Arv Z h0 b11a k11b .byte (34 : Int32) own_ls3 (.int (0 : Int32))) :
    own_Met l mn11 jdk_68_method_9_code 3 none ws (oRm 0 0 0 0) #[(.ref b2), (.int (18 : Int32))] Z h0 (Q11a172 Z b2 b11a k11b h0 n0) := by
  refine own_met (own := "java/lang/AbstractStringBuilder") rfl (plainFor_of_name pn_3) ?_
  intro p e s m below meth c s₁ hx hby hml hZ hown hnm X0 e0 Br Bs
  have N0 := Fr.nil n0
  have tt := own_tt hx hby own_ok11
  rw [ef_rm11a172 m b2]
  refine own_go (T' := s₁) (f' := (mkF m 1 #[oR b2, oI 18, oU] [vR b2])) (fun _ k => own_e X0 tt 0 1 k rfl) ?_
  obtain ⟨T25, X25, e25, st25⟩ := getF X0 hx hZ hown (host := "") (Or.inl (ow33 hw)) Via.refl e0 PF10 (g := (mkF m 1 #[oR b2, oI 18, oU] [vR b2])) rfl rfl (hb hby d11_1)
  refine own_go (T' := T25) (f' := (mkF m 6 #[oR b2, oI 18, oU] [vR b2, vI 34])) (fun _ k => st25 _ (own_alen X25 hx hZ e25 PV19 rfl rfl (hb hby d11_4) (own_e X25 tt 5 1 k rfl))) ?_
  obtain ⟨T26, X26, e26, st26⟩ := getF X25 hx hZ hown (host := "") (Or.inl (ow35 hw)) Via.refl e25 PF11 (g := (mkF m 6 #[oR b2, oI 18, oU] [vR b2, vI 34])) rfl rfl (hb hby d11_6)
  refine own_go (T' := T26) (f' := (mkF m 38 #[oR b2, oI 18, oI 34] [])) (fun _ k => st26 _ (own_e X26 tt 9 6 k rfl)) ?_
  refine own_ret X26 (v := none) (fun _ => rfl) Bs (fun fs hr => X26.returnOut hx Br (hb hby d11_38) hr) ?_ (by decide) (by decide)
  show Q11a172 Z b2 b11a k11b h0 n0 _ T26.heap _
  exact ⟨rfl, N0, e26⟩
def own_t22 (pc : Nat) : Option (Instr × Nat) := bif Nat.ble pc 22 then (bif Nat.ble pc 12 then (bif Nat.ble pc 3 then (bif Nat.ble pc 0 then (bif Nat.beq pc 0 then some (.iload_n 1, 1) else none) else (bif Nat.ble pc 1 then (bif Nat.beq pc 1 then some (.istore 5, 2) else none) else (bif Nat.beq pc 3 then some (.iload_n 0, 1) else none))) else (bif Nat.ble pc 4 then (bif Nat.beq pc 4 then some (.ifCond .ge 7, 3) else none) else (bif Nat.ble pc 11 then (bif Nat.beq pc 11 then some (.iconst 0, 1) else none) else (bif Nat.beq pc 12 then some (.istore 6, 2) else none)))) else (bif Nat.ble pc 19 then (bif Nat.ble pc 14 then (bif Nat.beq pc 14 then some (.iload 6, 2) else none) else (bif Nat.ble pc 16 then (bif Nat.beq pc 16 then some (.ifCond .ne 6, 3) else none) else (bif Nat.beq pc 19 then some (.iload_n 0, 1) else none))) else (bif Nat.ble pc 20 then (bif Nat.beq pc 20 then some (.ineg, 1) else none) else (bif Nat.ble pc 21 then (bif Nat.beq pc 21 then some (.istore_n 0, 1) else none) else (bif Nat.beq pc 22 then some (.iload_n 0, 1) else none))))) else (bif Nat.ble pc 81 then (bif Nat.ble pc 72 then (bif Nat.ble pc 23 then (bif Nat.beq pc 23 then some (.bipush (-100), 2) else none) else (bif Nat.ble pc 25 then (bif Nat.beq pc 25 then some (.if_icmp .gt 47, 3) else none) else (bif Nat.beq pc 72 then some (.aload_n 2, 1) else none))) else (bif Nat.ble pc 73 then (bif Nat.beq pc 73 then some (.iinc 5 (-1), 3) else none) else (bif Nat.ble pc 76 then (bif Nat.beq pc 76 then some (.iload 5, 2) else none) else (bif Nat.beq pc 81 then some (.iload_n 0, 1) else none)))) else (bif Nat.ble pc 86 then (bif Nat.ble pc 82 then (bif Nat.beq pc 82 then some (.ineg, 1) else none) else (bif Nat.ble pc 85 then (bif Nat.beq pc 85 then some (.iload_n 0, 1) else none) else (bif Nat.beq pc 86 then some (.bipush (-9), 2) else none))) else (bif Nat.ble pc 104 then (bif Nat.ble pc 88 then (bif Nat.beq pc 88 then some (.if_icmp .ge 16, 3) else none) else (bif Nat.beq pc 104 then some (.iload 6, 2) else none)) else (bif Nat.ble pc 106 then (bif Nat.beq pc 106 then some (.ifCond .eq 12, 3) else none) else (bif Nat.beq pc 118 then some (.iload 5, 2) else none)))))
theorem own_ok22 : ∀ pc q, own_fetch 121 own_t22 pc = some q → decode jdk_33_method_12_code pc = .ok q := own_tab (by decide +kernel)
theorem d22_4 : decode jdk_33_method_12_code 4 = .ok (.ifCond .ge 7, 3) := by decide +kernel
theorem d22_25 : decode jdk_33_method_12_code 25 = .ok (.if_icmp .gt 47, 3) := by decide +kernel
theorem d22_78 : decode jdk_33_method_12_code 78 = .ok (.getstatic 83, 3) := by decide +kernel
theorem d22_83 : decode jdk_33_method_12_code 83 = .ok (.baload, 1) := by decide +kernel
theorem d22_84 : decode jdk_33_method_12_code 84 = .ok (.bastore, 1) := by decide +kernel
theorem d22_88 : decode jdk_33_method_12_code 88 = .ok (.if_icmp .ge 16, 3) := by decide +kernel
theorem d22_120 : decode jdk_33_method_12_code 120 = .ok (.ireturn, 1) := by decide +kernel
theorem ef_rm22a188 (m : MethodId) (y0 : Int32) (b11a : Addr) : entryFrame m #[(.int y0), (.int (18 : Int32)), (.ref b11a)] 7 = mkF m 0 #[.val (.int y0), .val (.int (18 : Int32)), .val (.ref b11a), .unset, .unset, .unset, .unset] [] := by first | (simp [entryFrame, mkF, argsToLocals, Value.category]; done) | rfl
def Q22a188 (Z : State) (y0 : Int32) (b11a : Addr) (wd : Addr) (kd : ClassId) (vd : List Value) (k11b : ClassId) (h0 : Heap) (n0 : Nat) (v : Option Value) (h : Heap) (L : List Loc) : Prop := v = some (.int (17 : Int32)) ∧ Fr n0 L ∧ Keep h0 h [b11a] ∧ Arv Z h b11a k11b .byte (34 : Int32) [(.int (101 : Int32)), (.int (120 : Int32)), (.int (112 : Int32)), (.int (101 : Int32)), (.int (99 : Int32)), (.int (116 : Int32)), (.int (101 : Int32)), (.int (100 : Int32)), (.int (32 : Int32)), (.int (98 : Int32)), (.int (101 : Int32)), (.int (116 : Int32)), (.int (119 : Int32)), (.int (101 : Int32)), (.int (101 : Int32)), (.int (110 : Int32)), (.int (32 : Int32)), (.int (nar .byte ((48 : Int32) + y0))), (.int (0 : Int32)), (.int (0 : Int32)), (.int (0 : Int32)), (.int (0 : Int32)), (.int (0 : Int32)), (.int (0 : Int32)), (.int (0 : Int32)), (.int (0 : Int32)), (.int (0 : Int32)), (.int (0 : Int32)), (.int (0 : Int32)), (.int (0 : Int32)), (.int (0 : Int32)), (.int (0 : Int32)), (.int (0 : Int32)), (.int (0 : Int32))] (.int (0 : Int32))
set_option maxRecDepth 65536 in
set_option maxHeartbeats 40000000 in
theorem rm22a188 (l : Launch) (Z : State) (a0 : Array Value) (hw : ∀ d ∈ tables_1, d.before a0 Z = true) (ws : List Jvm.Cond) (y0 : Int32) (b11a : Addr) (wd : Addr) (kd : ClassId) (vd : List Value) (k11b : ClassId) (h0 : Heap) (n0 : Nat) (Z0 : n0 ≤ h0.size) (PS1 : Sta Z h0 "java/lang/Integer" "DigitOnes" "[B" (.ref wd)) (PV2 : Arv Z h0 wd kd .byte (100 : Int32) vd (.int (0 : Int32))) (PV19 : Arv Z h0 b11a k11b .byte (34 : Int32) own_ls3 (.int (0 : Int32))) (PP1 : ¬ (y0 < (0 : Int32))) (PP3 : (-100 : Int32) < (-y0)) (PP4 : ¬ ((-(-y0)) < (0 : Int32))) (PP5 : (-(-y0)) < (100 : Int32)) (PP6 : y0 < (10 : Int32)) (PP7 : ¬ ((-y0) < (-9 : Int32))) (n_b11a : n0 ≤ b11a) (pr_d10_vd : own_D10 vd) :
    own_Met l mn18 jdk_33_method_12_code 7 (some .int) ws (oRm 0 0 0 0) #[(.int y0), (.int (18 : Int32)), (.ref b11a)] Z h0 (Q22a188 Z y0 b11a wd kd vd k11b h0 n0) := by
  refine own_met (own := "java/lang/Integer") rfl (plainFor_of_name pn_4) ?_
  intro p e s m below meth c s₁ hx hby hml hZ hown hnm X0 e0 Br Bs
  have N0 := Fr.nil n0
  have tt := own_tt hx hby own_ok22
  rw [ef_rm22a188 m y0 b11a]
  refine own_go (T' := s₁) (f' := (mkF m 78 #[.val (.int (-y0)), oI 18, oR b11a, oU, oU, oI 17, oI 0] [vI 17, vR b11a])) (fun _ k => own_r X0 tt 0 3 rfl (XS.ifYes X0.here hx rfl (pc0 := 4) (pc' := 11) rfl (hb hby d22_4) rfl ((if0 _ _).trans (flt PP1).2.1) (by decide) (by decide) (own_r X0 tt 11 9 rfl (XS.icmpYes X0.here hx rfl (pc0 := 25) (pc' := 72) rfl (hb hby d22_25) rfl (tlt PP3).2.2.1 (by decide) (by decide) (own_e X0 tt 72 3 k rfl))))) ?_
  obtain ⟨T74, X74, e74, st74⟩ := getS2 X0 hx hZ hown (host := "") (Or.inl (ow132 hw)) Via.refl e0 PS1 (g := (mkF m 78 #[.val (.int (-y0)), oI 18, oR b11a, oU, oU, oI 17, oI 0] [vI 17, vR b11a])) rfl (hb hby d22_78)
  refine own_go (T' := T74) (f' := (mkF m 84 #[.val (.int (-y0)), oI 18, oR b11a, oU, oU, oI 17, oI 0] [(.int ((48 : Int32) + y0)), vI 17, vR b11a])) (fun _ k => st74 _ (own_r X74 tt 81 2 rfl (own_ldB X74 hx hZ e74 PV2 (j := (-(-y0))) (x := ((48 : Int32) + y0)) ⟨PP4, PP5⟩ (own_d10 pr_d10_vd PP1 PP6) rfl rfl (hb hby d22_83) k))) ?_
  obtain ⟨T75, h75, X75, e75, W75, V75, st75⟩ := own_stB X74 hx hZ e74 PV19 (j := (17 : Int32)) ⟨by decide, by decide⟩ 17 rfl (Nat.le_of_ble_eq_true rfl) (g := (mkF m 84 #[.val (.int (-y0)), oI 18, oR b11a, oU, oU, oI 17, oI 0] [(.int ((48 : Int32) + y0)), vI 17, vR b11a])) rfl rfl (hb hby d22_84)
  have K75 : Keep h0 h75 [b11a] := (Keep.refl h0 [b11a]).wr W75 (Or.inl (List.mem_of_getElem? (i := 0) rfl))
  have V75s : Arv Z h75 b11a k11b .byte (34 : Int32) [(.int (101 : Int32)), (.int (120 : Int32)), (.int (112 : Int32)), (.int (101 : Int32)), (.int (99 : Int32)), (.int (116 : Int32)), (.int (101 : Int32)), (.int (100 : Int32)), (.int (32 : Int32)), (.int (98 : Int32)), (.int (101 : Int32)), (.int (116 : Int32)), (.int (119 : Int32)), (.int (101 : Int32)), (.int (101 : Int32)), (.int (110 : Int32)), (.int (32 : Int32)), (.int (nar .byte ((48 : Int32) + y0))), (.int (0 : Int32)), (.int (0 : Int32)), (.int (0 : Int32)), (.int (0 : Int32)), (.int (0 : Int32)), (.int (0 : Int32)), (.int (0 : Int32)), (.int (0 : Int32)), (.int (0 : Int32)), (.int (0 : Int32)), (.int (0 : Int32)), (.int (0 : Int32)), (.int (0 : Int32)), (.int (0 : Int32)), (.int (0 : Int32)), (.int (0 : Int32))] (.int (0 : Int32)) := V75
  have N75 := Fr.snoc X75 N0 n_b11a
  refine own_go (T' := T75) (f' := (mkF m 120 #[.val (.int (-y0)), oI 18, oR b11a, oU, oU, oI 17, oI 0] [vI 17])) (fun _ k => st75 _ (own_r X75 tt 85 2 rfl (XS.icmpYes X75.here hx rfl (pc0 := 88) (pc' := 104) rfl (hb hby d22_88) rfl (flt PP7).2.1 (by decide) (by decide) (own_e X75 tt 104 3 k rfl)))) ?_
  refine own_ret X75 (v := some (.int (17 : Int32))) (fun h => by rw [Br] at h; cases h) Bs (fun fs hr => retI X75 hx Br (hb hby d22_120) hr) ?_ (by decide) (by decide)
  show Q22a188 Z y0 b11a wd kd vd k11b h0 n0 _ T75.heap _
  rw [e75]
  exact ⟨rfl, N75, K75, V75s⟩
theorem ef_rm19a187 (m : MethodId) (b2 : Addr) (y0 : Int32) : entryFrame m #[(.ref b2), (.int y0)] 4 = mkF m 0 #[.val (.ref b2), .val (.int y0), .unset, .unset] [] := by first | (simp [entryFrame, mkF, argsToLocals, Value.category]; done) | rfl
def Q19a187 (Z : State) (b2 : Addr) (y0 : Int32) (cs : Int32) (wd : Addr) (kd : ClassId) (vd : List Value) (b11a : Addr) (k11b : ClassId) (h0 : Heap) (n0 : Nat) (v : Option Value) (h : Heap) (L : List Loc) : Prop := v = some (.ref b2) ∧ Fr n0 L ∧ Keep h0 h [b11a, b2] ∧ Arv Z h b11a k11b .byte (34 : Int32) [(.int (101 : Int32)), (.int (120 : Int32)), (.int (112 : Int32)), (.int (101 : Int32)), (.int (99 : Int32)), (.int (116 : Int32)), (.int (101 : Int32)), (.int (100 : Int32)), (.int (32 : Int32)), (.int (98 : Int32)), (.int (101 : Int32)), (.int (116 : Int32)), (.int (119 : Int32)), (.int (101 : Int32)), (.int (101 : Int32)), (.int (110 : Int32)), (.int (32 : Int32)), (.int (nar .byte ((48 : Int32) + y0))), (.int (0 : Int32)), (.int (0 : Int32)), (.int (0 : Int32)), (.int (0 : Int32)), (.int (0 : Int32)), (.int (0 : Int32)), (.int (0 : Int32)), (.int (0 : Int32)), (.int (0 : Int32)), (.int (0 : Int32)), (.int (0 : Int32)), (.int (0 : Int32)), (.int (0 : Int32)), (.int (0 : Int32)), (.int (0 : Int32)), (.int (0 : Int32))] (.int (0 : Int32)) ∧ Fld Z h b2 "java/lang/AbstractStringBuilder" "value" "[B" (.ref b11a) ∧ Fld Z h b2 "java/lang/AbstractStringBuilder" "coder" "B" (.int (0 : Int32)) ∧ Fld Z h b2 "java/lang/AbstractStringBuilder" "count" "I" (.int (18 : Int32))
set_option maxRecDepth 65536 in
set_option maxHeartbeats 40000000 in
theorem rm19a187 (l : Launch) (Z : State) (a0 : Array Value) (hw : ∀ d ∈ tables_1, d.before a0 Z = true) (ws : List Jvm.Cond) (b2 : Addr) (y0 : Int32) (cs : Int32) (wd : Addr) (kd : ClassId) (vd : List Value) (b11a : Addr) (k11b : ClassId) (h0 : Heap) (n0 : Nat) (Z0 : n0 ≤ h0.size) (PS0 : Sta Z h0 "java/lang/String" "COMPACT_STRINGS" "Z" (.int cs)) (PS1 : Sta Z h0 "java/lang/Integer" "DigitOnes" "[B" (.ref wd)) (PV2 : Arv Z h0 wd kd .byte (100 : Int32) vd (.int (0 : Int32))) (PE9 : Exa Z h0 b2 "java/lang/StringBuilder") (PF10 : Fld Z h0 b2 "java/lang/AbstractStringBuilder" "value" "[B" (.ref b11a)) (PF11 : Fld Z h0 b2 "java/lang/AbstractStringBuilder" "coder" "B" (.int (0 : Int32))) (PF12 : Fld Z h0 b2 "java/lang/AbstractStringBuilder" "count" "I" (.int (17 : Int32))) (PV19 : Arv Z h0 b11a k11b .byte (34 : Int32) own_ls3 (.int (0 : Int32))) (PP0 : ¬ (cs = (0 : Int32))) (PP1 : ¬ (y0 < (0 : Int32))) (PP2 : (-10 : Int32) < (-y0)) (PP3 : (-100 : Int32) < (-y0)) (PP4 : ¬ ((-(-y0)) < (0 : Int32))) (PP5 : (-(-y0)) < (100 : Int32)) (PP6 : y0 < (10 : Int32)) (PP7 : ¬ ((-y0) < (-9 : Int32))) (ne_b2_b11a : b2 ≠ b11a) (ne_b11a_b2 : b11a ≠ b2) (n_b2 : n0 ≤ b2) (n_b11a : n0 ≤ b11a) (pr_d10_vd : own_D10 vd) :
    own_Met l mn19 jdk_68_method_32_code 4 (some (.object "java/lang/AbstractStringBuilder")) ws (oRm 1 0 0 18) #[(.ref b2), (.int y0)] Z h0 (Q19a187 Z b2 y0 cs wd kd vd b11a k11b h0 n0) := by
  refine own_met (own := "java/lang/AbstractStringBuilder") rfl (plainFor_of_name pn_3) ?_
  intro p e s m below meth c s₁ hx hby hml hZ hown hnm X0 e0 Br Bs
  have N0 := Fr.nil n0
  have tt := own_tt hx hby own_ok19
  rw [ef_rm19a187 m b2 y0]
  refine own_go (T' := s₁) (f' := (mkF m 1 #[oR b2, .val (.int y0), oU, oU] [vR b2])) (fun _ k => own_e X0 tt 0 1 k rfl) ?_
  obtain ⟨T69, X69, e69, st69⟩ := getF X0 hx hZ hown (host := "") (Or.inl (ow66 hw)) Via.refl e0 PF12 (g := (mkF m 1 #[oR b2, .val (.int y0), oU, oU] [vR b2])) rfl rfl (hb hby d19_1)
  refine own_go (T' := T69) (f' := (mkF m 7 #[oR b2, .val (.int y0), oI 17, oU] [(.int y0), vI 17])) (fun _ k => st69 _ (own_e X69 tt 4 3 k rfl)) ?_
  obtain ⟨_, T70, Lc70, X70, hQ70, st70⟩ := own_outC (Jvm.LawKit.callS X69 hx (y := mn3) hown (mvT hZ (ow120 hw)) (mvT hZ (ow121 hw)) (mvT hZ (ow122 hw)) (mvT hZ (ow123 hw)) (by decide) (backOf (W := 1) (rm20a171 l Z a0 hw [] y0 h0 n0 Z0 PP1 PP2) hZ (ow123 hw) (ow122 hw) (by decide) (by decide)) (g := (mkF m 7 #[oR b2, .val (.int y0), oI 17, oU] [(.int y0), vI 17])) rfl (by rw [hml]; rfl) (argsL := [(.int y0)]) (rest := [(.int (17 : Int32))]) (lenOf pd8 rfl) rfl (by show 2 * 0 + _ ≤ _; exact Nat.le_of_eq rfl) (hb hby d19_7) (fun _ _ => ⟨rfl, e69, (by decide : 0 + 0 ≤ _), (by decide : 0 + 0 ≤ _)⟩))
  obtain ⟨rfl, N70q, hh70⟩ := hQ70
  have N70 := Fr.app N0 N70q
  obtain ⟨_, X70, N70⟩ := own_hide X70 N70
  refine own_go (T' := T70) (f' := (mkF m 14 #[oR b2, .val (.int y0), oI 17, oI 18] [vI 18, vR b2])) (fun _ k => st70 _ (own_e X70 tt 10 4 k rfl)) ?_
  obtain ⟨cq71, q71, q71'⟩ := PE9.cell
  obtain ⟨_, T71, Lc71, X71, hQ71, st71⟩ := own_out (X70.privateBack hx (y := mn11) hown (mvT hZ (ow68 hw)) (mvT hZ (ow69 hw)) (own_selp (mvT hZ (ow71 hw)) (Cond.privateMethod_at (mvP hZ (ow70 hw) (args := #[]))) (mvT hZ (ow69 hw)) (by decide)) (Cond.privateMethod_at (mvP hZ (ow70 hw) (args := #[]))) (mvT hZ (ow72 hw)) (by decide) (backOf (W := 0) (rm11a172 l Z a0 hw [] b2 b11a k11b h0 n0 Z0 PF10 PF11 PV19) hZ (ow72 hw) (ow25 hw) (by decide) (by decide)) (g := (mkF m 14 #[oR b2, .val (.int y0), oI 17, oI 18] [vI 18, vR b2])) rfl (by rw [hml]; rfl) (Steps.refl _) (a := b2) (by rw [hh70]; exact q71) q71' (argsL := [(.int (18 : Int32))]) (rest := []) (lenOf pd11 rfl) rfl (by show 2 * 0 + _ ≤ _; exact Nat.le_of_eq rfl) (hb hby d19_14) (fun _ _ => ⟨rfl, hh70, (by decide : 0 + 0 ≤ _), (by decide : 0 + 0 ≤ _)⟩))
  obtain ⟨rfl, N71q, hh71⟩ := hQ71
  have N71 := Fr.app N70 N71q
  obtain ⟨_, X71, N71⟩ := own_hide X71 N71
  refine own_go (T' := T71) (f' := (mkF m 18 #[oR b2, .val (.int y0), oI 17, oI 18] [vR b2])) (fun _ k => st71.trans (own_e X71 tt 17 1 k rfl)) ?_
  obtain ⟨cq72, kq72, q72a, q72b, q72c⟩ := isOf hZ hh71 PE9
  obtain ⟨_, T72, Lc72, X72, hQ72, st72⟩ := own_out (X71.virtualBack hx (y := mn17) (z := mn17) hown (mvT hZ (ow124 hw)) (mvT hZ (ow125 hw)) (notFace_of_selects (args := #[]) (mvT hZ (ow127 hw))) (mvT hZ (ow127 hw)) (mvT hZ (ow126 hw)) (by decide) (backOf (W := 0) (rm21a22 l Z a0 hw [] b2 cs h0 n0 Z0 PS0 PF11 PP0) hZ (ow128 hw) (ow25 hw) (by decide) (by decide)) q72a q72c (g := (mkF m 18 #[oR b2, .val (.int y0), oI 17, oI 18] [vR b2])) rfl (by rw [hml]; rfl) (Steps.refl _) (argsL := []) (rest := []) (lenOf pd6 rfl) rfl (by show 2 * 0 + _ ≤ _; exact Nat.le_of_eq rfl) (hb hby d19_18) (fun _ _ => ⟨rfl, hh71, (by decide : 0 + 0 ≤ _), (by decide : 0 + 0 ≤ _)⟩))
  obtain ⟨rfl, N72q, hh72⟩ := hQ72
  have N72 := Fr.app N71 N72q
  obtain ⟨_, X72, N72⟩ := own_hide X72 N72
  refine own_go (T' := T72) (f' := (mkF m 27 #[oR b2, .val (.int y0), oI 17, oI 18] [vR b2, vI 18, (.int y0)])) (fun _ k => st72.trans (own_e X72 tt 21 4 k rfl)) ?_
  obtain ⟨T73, X73, e73, st73⟩ := getF X72 hx hZ hown (host := "") (Or.inl (ow33 hw)) Via.refl hh72 PF10 (g := (mkF m 27 #[oR b2, .val (.int y0), oI 17, oI 18] [vR b2, vI 18, (.int y0)])) rfl rfl (hb hby d19_27)
  refine own_go (T' := T73) (f' := (mkF m 30 #[oR b2, .val (.int y0), oI 17, oI 18] [vR b11a, vI 18, (.int y0)])) (fun _ k => st73 _ k) ?_
  obtain ⟨_, T76, Lc76, X76, hQ76, st76⟩ := own_outC (Jvm.LawKit.callS X73 hx (y := mn18) hown (mvT hZ (ow129 hw)) (mvT hZ (ow130 hw)) (mvT hZ (ow122 hw)) (mvT hZ (ow131 hw)) (by decide) (backOf (W := 0) (rm22a188 l Z a0 hw [] y0 b11a wd kd vd k11b h0 n0 Z0 PS1 PV2 PV19 PP1 PP3 PP4 PP5 PP6 PP7 n_b11a pr_d10_vd) hZ (ow131 hw) (ow122 hw) (by decide) (by decide)) (g := (mkF m 30 #[oR b2, .val (.int y0), oI 17, oI 18] [vR b11a, vI 18, (.int y0)])) rfl (by rw [hml]; rfl) (argsL := [(.int y0), (.int (18 : Int32)), (.ref b11a)]) (rest := []) (lenOf pd16 rfl) rfl (by show 2 * 0 + _ ≤ _; exact Nat.le_of_eq rfl) (hb hby d19_30) (fun _ _ => ⟨rfl, e73, (by decide : 0 + 0 ≤ _), (by decide : 0 + 0 ≤ _)⟩))
  obtain ⟨rfl, N76q, K76, g76_0⟩ := hQ76
  have N76 := Fr.app N72 N76q
  have eK76 : T76.heap = T76.heap := rfl
  have KK76 : Keep h0 T76.heap [b11a, b2] := Keep.trans (Keep.refl h0 [b11a, b2]) K76 (allS (Or.inl (List.mem_of_getElem? (i := 0) rfl)) all0)
  obtain ⟨_, X76, N76⟩ := own_hide X76 N76
  refine own_go (T' := T76) (f' := (mkF m 50 #[oR b2, .val (.int y0), oI 17, oI 18] [vI 18, vR b2])) (fun _ k => st76 _ (own_e X76 tt 33 4 k rfl)) ?_
  obtain ⟨T77, h77, X77, e77, W77, st77⟩ := putF X76 hx hZ hown (host := "") (Or.inl (ow66 hw)) Via.refl eK76 (PF12.keep K76 (ninS ne_b2_b11a nin0)) (PE9.keep K76) (Or.inl (ow67 hw)) (ow16 hw) (ty := .int) (by decide) rfl rfl (g := (mkF m 50 #[oR b2, .val (.int y0), oI 17, oI 18] [vI 18, vR b2])) rfl rfl (hb hby d19_50)
  have Fw77 := Fld.same W77 (PF12.keep K76 (ninS ne_b2_b11a nin0))
  have K77 : Keep h0 h77 [b11a, b2] := KK76.wr W77 (Or.inl (List.mem_of_getElem? (i := 1) rfl))
  have N77 := Fr.snoc X77 N76 n_b2
  refine own_go (T' := T77) (f' := (mkF m 54 #[oR b2, .val (.int y0), oI 17, oI 18] [vR b2])) (fun _ k => st77 _ (own_e X77 tt 53 1 k rfl)) ?_
  refine own_ret X77 (v := some (.ref b2)) (fun h => by rw [Br] at h; cases h) Bs (fun fs hr => own_retA X77 hx Br rfl rfl (hb hby d19_54) hr) ?_ (by decide) (by decide)
  show Q19a187 Z b2 y0 cs wd kd vd b11a k11b h0 n0 _ T77.heap _
  have G78 := ((PF10.keep K76 (ninS ne_b2_b11a nin0)).other W77 (Or.inr (slot_ne (Or.inl (ow34 hw)) (Or.inl (ow67 hw)) (by decide) (t := (.array .byte)) (t' := .int) (by decide) (by decide))))
  have G79 := ((PF11.keep K76 (ninS ne_b2_b11a nin0)).other W77 (Or.inr (slot_ne (Or.inl (ow36 hw)) (Or.inl (ow67 hw)) (by decide) (t := .byte) (t' := .int) (by decide) (by decide))))
  rw [e77]
  exact ⟨rfl, N77, K77, (g76_0.other W77 ne_b11a_b2), G78, G79, Fw77⟩
theorem ef_rm18a186 (m : MethodId) (b2 : Addr) (y0 : Int32) : entryFrame m #[(.ref b2), (.int y0)] 2 = mkF m 0 #[.val (.ref b2), .val (.int y0)] [] := by first | (simp [entryFrame, mkF, argsToLocals, Value.category]; done) | rfl
def Q18a186 (Z : State) (b2 : Addr) (y0 : Int32) (cs : Int32) (wd : Addr) (kd : ClassId) (vd : List Value) (b11a : Addr) (k11b : ClassId) (h0 : Heap) (n0 : Nat) (v : Option Value) (h : Heap) (L : List Loc) : Prop := v = some (.ref b2) ∧ Fr n0 L ∧ Keep h0 h [b2, b11a] ∧ Fld Z h b2 "java/lang/AbstractStringBuilder" "value" "[B" (.ref b11a) ∧ Fld Z h b2 "java/lang/AbstractStringBuilder" "coder" "B" (.int (0 : Int32)) ∧ Fld Z h b2 "java/lang/AbstractStringBuilder" "count" "I" (.int (18 : Int32)) ∧ Arv Z h b11a k11b .byte (34 : Int32) [(.int (101 : Int32)), (.int (120 : Int32)), (.int (112 : Int32)), (.int (101 : Int32)), (.int (99 : Int32)), (.int (116 : Int32)), (.int (101 : Int32)), (.int (100 : Int32)), (.int (32 : Int32)), (.int (98 : Int32)), (.int (101 : Int32)), (.int (116 : Int32)), (.int (119 : Int32)), (.int (101 : Int32)), (.int (101 : Int32)), (.int (110 : Int32)), (.int (32 : Int32)), (.int (nar .byte ((48 : Int32) + y0))), (.int (0 : Int32)), (.int (0 : Int32)), (.int (0 : Int32)), (.int (0 : Int32)), (.int (0 : Int32)), (.int (0 : Int32)), (.int (0 : Int32)), (.int (0 : Int32)), (.int (0 : Int32)), (.int (0 : Int32)), (.int (0 : Int32)), (.int (0 : Int32)), (.int (0 : Int32)), (.int (0 : Int32)), (.int (0 : Int32)), (.int (0 : Int32))] (.int (0 : Int32))
set_option maxRecDepth 65536 in
set_option maxHeartbeats 40000000 in
theorem rm18a186 (l : Launch) (Z : State) (a0 : Array Value) (hw : ∀ d ∈ tables_1, d.before a0 Z = true) (ws : List Jvm.Cond) (b2 : Addr) (y0 : Int32) (cs : Int32) (wd : Addr) (kd : ClassId) (vd : List Value) (b11a : Addr) (k11b : ClassId) (h0 : Heap) (n0 : Nat) (Z0 : n0 ≤ h0.size) (PS0 : Sta Z h0 "java/lang/String" "COMPACT_STRINGS" "Z" (.int cs)) (PS1 : Sta Z h0 "java/lang/Integer" "DigitOnes" "[B" (.ref wd)) (PV2 : Arv Z h0 wd kd .byte (100 : Int32) vd (.int (0 : Int32))) (PE9 : Exa Z h0 b2 "java/lang/StringBuilder") (PF10 : Fld Z h0 b2 "java/lang/AbstractStringBuilder" "value" "[B" (.ref b11a)) (PF11 : Fld Z h0 b2 "java/lang/AbstractStringBuilder" "coder" "B" (.int (0 : Int32))) (PF12 : Fld Z h0 b2 "java/lang/AbstractStringBuilder" "count" "I" (.int (17 : Int32))) (PV19 : Arv Z h0 b11a k11b .byte (34 : Int32) own_ls3 (.int (0 : Int32))) (PP0 : ¬ (cs = (0 : Int32))) (PP1 : ¬ (y0 < (0 : Int32))) (PP2 : (-10 : Int32) < (-y0)) (PP3 : (-100 : Int32) < (-y0)) (PP4 : ¬ ((-(-y0)) < (0 : Int32))) (PP5 : (-(-y0)) < (100 : Int32)) (PP6 : y0 < (10 : Int32)) (PP7 : ¬ ((-y0) < (-9 : Int32))) (ne_b2_b11a : b2 ≠ b11a) (ne_b11a_b2 : b11a ≠ b2) (n_b2 : n0 ≤ b2) (n_b11a : n0 ≤ b11a) (pr_d10_vd : own_D10 vd) :
    own_Met l mn20 jdk_67_method_15_code 2 (some (.object "java/lang/StringBuilder")) ws (oRm 2 0 0 33) #[(.ref b2), (.int y0)] Z h0 (Q18a186 Z b2 y0 cs wd kd vd b11a k11b h0 n0) := by
  refine own_met (own := "java/lang/StringBuilder") rfl (plainFor_of_name pn_8) ?_
  intro p e s m below meth c s₁ hx hby hml hZ hown hnm X0 e0 Br Bs
  have N0 := Fr.nil n0
  have tt := own_tt hx hby own_ok18
  rw [ef_rm18a186 m b2 y0]
  refine own_go (T' := s₁) (f' := (mkF m 2 #[oR b2, .val (.int y0)] [(.int y0), vR b2])) (fun _ k => own_e X0 tt 0 2 k rfl) ?_
  obtain ⟨_, T80, Lc80, X80, hQ80, st80⟩ := own_out (superBack X0 hx hZ (y := mn19) hown (ow116 hw) (own_same (y := mn19) (y2 := mn11) (ow71 hw) rfl (ow117 hw) (by decide)) (ow117 hw) (ow50 hw) (by decide) (backOf (W := 0) (rm19a187 l Z a0 hw [] b2 y0 cs wd kd vd b11a k11b h0 n0 Z0 PS0 PS1 PV2 PE9 PF10 PF11 PF12 PV19 PP0 PP1 PP2 PP3 PP4 PP5 PP6 PP7 ne_b2_b11a ne_b11a_b2 n_b2 n_b11a pr_d10_vd) hZ (ow119 hw) (ow25 hw) (by decide) (by decide)) e0 (Ins.self PE9) (g := (mkF m 2 #[oR b2, .val (.int y0)] [(.int y0), vR b2])) rfl (by rw [hml]; rfl) (ow119 hw) (argsL := [(.int y0)]) (rest := []) (lenOf pd9 rfl) rfl (by show 2 * 0 + _ ≤ _; exact Nat.le_of_eq rfl) (hb hby d18_2) (fun _ _ => ⟨rfl, e0, (by decide : 0 + 0 ≤ _), (by decide : 0 + 0 ≤ _)⟩))
  obtain ⟨rfl, N80q, K80, g80_0, g80_1, g80_2, g80_3⟩ := hQ80
  have N80 := Fr.app N0 N80q
  have eK80 : T80.heap = T80.heap := rfl
  have KK80 : Keep h0 T80.heap [b2, b11a] := Keep.trans (Keep.refl h0 [b2, b11a]) K80 (allS (Or.inl (List.mem_of_getElem? (i := 1) rfl)) (allS (Or.inl (List.mem_of_getElem? (i := 0) rfl)) all0))
  obtain ⟨_, X80, N80⟩ := own_hide X80 N80
  refine own_go (T' := T80) (f' := (mkF m 7 #[oR b2, .val (.int y0)] [vR b2])) (fun _ k => st80.trans (own_e X80 tt 5 2 k rfl)) ?_
  refine own_ret X80 (v := some (.ref b2)) (fun h => by rw [Br] at h; cases h) Bs (fun fs hr => own_retA X80 hx Br rfl rfl (hb hby d18_7) hr) ?_ (by decide) (by decide)
  show Q18a186 Z b2 y0 cs wd kd vd b11a k11b h0 n0 _ T80.heap _
  rw [eK80]
  exact ⟨rfl, N80, KK80, g80_1, g80_2, g80_3, g80_0⟩
theorem ef_rm11a191 (m : MethodId) (b2 : Addr) : entryFrame m #[(.ref b2), (.int (23 : Int32))] 3 = mkF m 0 #[.val (.ref b2), .val (.int (23 : Int32)), .unset] [] := by first | (simp [entryFrame, mkF, argsToLocals, Value.category]; done) | rfl
def Q11a191 (Z : State) (b2 : Addr) (b11a : Addr) (k11b : ClassId) (i88 : Int32) (h0 : Heap) (n0 : Nat) (v : Option Value) (h : Heap) (L : List Loc) : Prop := v = none ∧ Fr n0 L ∧ h = h0
set_option maxRecDepth 65536 in
set_option maxHeartbeats 40000000 in
theorem rm11a191 (l : Launch) (Z : State) (a0 : Array Value) (hw : ∀ d ∈ tables_1, d.before a0 Z = true) (ws : List Jvm.Cond) (b2 : Addr) (b11a : Addr) (k11b : ClassId) (i88 : Int32) (h0 : Heap) (n0 : Nat) (Z0 : n0 ≤ h0.size) (PF10 : Fld Z h0 b2 "java/lang/AbstractStringBuilder" "value" "[B" (.ref b11a)) (PF11 : Fld Z h0 b2 "java/lang/AbstractStringBuilder" "coder" "B" (.int (0 : Int32))) (PV19 : Arv Z h0 b11a k11b .byte (34 : Int32) [(.int (101 : Int32)), (.int (120 : Int32)), (.int (112 : Int32)), (.int (101 : Int32)), (.int (99 : Int32)), (.int (116 : Int32)), (.int (101 : Int32)), (.int (100 : Int32)), (.int (32 : Int32)), (.int (98 : Int32)), (.int (101 : Int32)), (.int (116 : Int32)), (.int (119 : Int32)), (.int (101 : Int32)), (.int (101 : Int32)), (.int (110 : Int32)), (.int (32 : Int32)), (.int i88), (.int (0 : Int32)), (.int (0 : Int32)), (.int (0 : Int32)), (.int (0 : Int32)), (.int (0 : Int32)), (.int (0 : Int32)), (.int (0 : Int32)), (.int (0 : Int32)), (.int (0 : Int32)), (.int (0 : Int32)), (.int (0 : Int32)), (.int (0 : Int32)), (.int (0 : Int32)), (.int (0 : Int32)), (.int (0 : Int32)), (.int (0 : Int32))] (.int (0 : Int32))) :
    own_Met l mn11 jdk_68_method_9_code 3 none ws (oRm 0 0 0 0) #[(.ref b2), (.int (23 : Int32))] Z h0 (Q11a191 Z b2 b11a k11b i88 h0 n0) := by
  refine own_met (own := "java/lang/AbstractStringBuilder") rfl (plainFor_of_name pn_3) ?_
  intro p e s m below meth c s₁ hx hby hml hZ hown hnm X0 e0 Br Bs
  have N0 := Fr.nil n0
  have tt := own_tt hx hby own_ok11
  rw [ef_rm11a191 m b2]
  refine own_go (T' := s₁) (f' := (mkF m 1 #[oR b2, oI 23, oU] [vR b2])) (fun _ k => own_e X0 tt 0 1 k rfl) ?_
  obtain ⟨T91, X91, e91, st91⟩ := getF X0 hx hZ hown (host := "") (Or.inl (ow33 hw)) Via.refl e0 PF10 (g := (mkF m 1 #[oR b2, oI 23, oU] [vR b2])) rfl rfl (hb hby d11_1)
  refine own_go (T' := T91) (f' := (mkF m 6 #[oR b2, oI 23, oU] [vR b2, vI 34])) (fun _ k => st91 _ (own_alen X91 hx hZ e91 PV19 rfl rfl (hb hby d11_4) (own_e X91 tt 5 1 k rfl))) ?_
  obtain ⟨T92, X92, e92, st92⟩ := getF X91 hx hZ hown (host := "") (Or.inl (ow35 hw)) Via.refl e91 PF11 (g := (mkF m 6 #[oR b2, oI 23, oU] [vR b2, vI 34])) rfl rfl (hb hby d11_6)
  refine own_go (T' := T92) (f' := (mkF m 38 #[oR b2, oI 23, oI 34] [])) (fun _ k => st92 _ (own_e X92 tt 9 6 k rfl)) ?_
  refine own_ret X92 (v := none) (fun _ => rfl) Bs (fun fs hr => X92.returnOut hx Br (hb hby d11_38) hr) ?_ (by decide) (by decide)
  show Q11a191 Z b2 b11a k11b i88 h0 n0 _ T92.heap _
  exact ⟨rfl, N0, e92⟩
theorem ef_rm17a193 (m : MethodId) (a86 : Addr) (b11a : Addr) : entryFrame m #[(.ref a86), (.ref b11a), (.int (18 : Int32)), (.int (0 : Int32))] 4 = mkF m 0 #[.val (.ref a86), .val (.ref b11a), .val (.int (18 : Int32)), .val (.int (0 : Int32))] [] := by first | (simp [entryFrame, mkF, argsToLocals, Value.category]; done) | rfl
def Q17a193 (Z : State) (a86 : Addr) (b11a : Addr) (cs : Int32) (k11b : ClassId) (i88 : Int32) (b86 : Addr) (kc86 : ClassId) (h0 : Heap) (n0 : Nat) (v : Option Value) (h : Heap) (L : List Loc) : Prop := v = none ∧ Fr n0 L ∧ Keep h0 h [b11a] ∧ Arv Z h b11a k11b .byte (34 : Int32) [(.int (101 : Int32)), (.int (120 : Int32)), (.int (112 : Int32)), (.int (101 : Int32)), (.int (99 : Int32)), (.int (116 : Int32)), (.int (101 : Int32)), (.int (100 : Int32)), (.int (32 : Int32)), (.int (98 : Int32)), (.int (101 : Int32)), (.int (116 : Int32)), (.int (119 : Int32)), (.int (101 : Int32)), (.int (101 : Int32)), (.int (110 : Int32)), (.int (32 : Int32)), (.int i88), (.int (32 : Int32)), (.int (97 : Int32)), (.int (110 : Int32)), (.int (100 : Int32)), (.int (32 : Int32)), (.int (0 : Int32)), (.int (0 : Int32)), (.int (0 : Int32)), (.int (0 : Int32)), (.int (0 : Int32)), (.int (0 : Int32)), (.int (0 : Int32)), (.int (0 : Int32)), (.int (0 : Int32)), (.int (0 : Int32)), (.int (0 : Int32))] (.int (0 : Int32))
set_option maxRecDepth 65536 in
set_option maxHeartbeats 40000000 in
theorem rm17a193 (l : Launch) (Z : State) (a0 : Array Value) (hw : ∀ d ∈ tables_1, d.before a0 Z = true) (ws : List Jvm.Cond) (a86 : Addr) (b11a : Addr) (cs : Int32) (k11b : ClassId) (i88 : Int32) (b86 : Addr) (kc86 : ClassId) (h0 : Heap) (n0 : Nat) (Z0 : n0 ≤ h0.size) (PS0 : Sta Z h0 "java/lang/String" "COMPACT_STRINGS" "Z" (.int cs)) (PV19 : Arv Z h0 b11a k11b .byte (34 : Int32) [(.int (101 : Int32)), (.int (120 : Int32)), (.int (112 : Int32)), (.int (101 : Int32)), (.int (99 : Int32)), (.int (116 : Int32)), (.int (101 : Int32)), (.int (100 : Int32)), (.int (32 : Int32)), (.int (98 : Int32)), (.int (101 : Int32)), (.int (116 : Int32)), (.int (119 : Int32)), (.int (101 : Int32)), (.int (101 : Int32)), (.int (110 : Int32)), (.int (32 : Int32)), (.int i88), (.int (0 : Int32)), (.int (0 : Int32)), (.int (0 : Int32)), (.int (0 : Int32)), (.int (0 : Int32)), (.int (0 : Int32)), (.int (0 : Int32)), (.int (0 : Int32)), (.int (0 : Int32)), (.int (0 : Int32)), (.int (0 : Int32)), (.int (0 : Int32)), (.int (0 : Int32)), (.int (0 : Int32)), (.int (0 : Int32)), (.int (0 : Int32))] (.int (0 : Int32))) (PE21 : Exa Z h0 a86 "java/lang/String") (PF22 : Fld Z h0 a86 "java/lang/String" "coder" "B" (.int (0 : Int32))) (PF23 : Fld Z h0 a86 "java/lang/String" "value" "[B" (.ref b86)) (PV24 : Arv Z h0 b86 kc86 .byte (5 : Int32) own_ls4 (.int (0 : Int32))) (PP0 : ¬ (cs = (0 : Int32))) (n_b11a : n0 ≤ b11a) :
    own_Met l mn13 jdk_42_method_147_code 4 none ws (oRm 1 0 0 18) #[(.ref a86), (.ref b11a), (.int (18 : Int32)), (.int (0 : Int32))] Z h0 (Q17a193 Z a86 b11a cs k11b i88 b86 kc86 h0 n0) := by
  refine own_met (own := "java/lang/String") rfl (plainFor_of_name pn_7) ?_
  intro p e s m below meth c s₁ hx hby hml hZ hown hnm X0 e0 Br Bs
  have N0 := Fr.nil n0
  have tt := own_tt hx hby own_ok17
  rw [ef_rm17a193 m a86 b11a]
  refine own_go (T' := s₁) (f' := (mkF m 1 #[oR a86, oR b11a, oI 18, oI 0] [vR a86])) (fun _ k => own_e X0 tt 0 1 k rfl) ?_
  obtain ⟨cq98, kq98, q98a, q98b, q98c⟩ := isOf hZ e0 PE21
  obtain ⟨_, T98, Lc98, X98, hQ98, st98⟩ := own_out (X0.virtualBack hx (y := mn6) (z := mn6) hown (mvT hZ (ow59 hw)) (mvT hZ (ow60 hw)) (notFace_of_selects (args := #[]) (mvT hZ (ow62 hw))) (mvT hZ (ow62 hw)) (mvT hZ (ow61 hw)) (by decide) (backOf (W := 0) (rm10a6 l Z a0 hw [] a86 cs h0 n0 Z0 PS0 PF22 PP0) hZ (ow63 hw) (ow31 hw) (by decide) (by decide)) q98a q98c (g := (mkF m 1 #[oR a86, oR b11a, oI 18, oI 0] [vR a86])) rfl (by rw [hml]; rfl) (Steps.refl _) (argsL := []) (rest := []) (lenOf pd0 rfl) rfl (by show 2 * 0 + _ ≤ _; exact Nat.le_of_eq rfl) (hb hby d17_1) (fun _ _ => ⟨rfl, e0, (by decide : 0 + 0 ≤ _), (by decide : 0 + 0 ≤ _)⟩))
  obtain ⟨rfl, N98q, hh98⟩ := hQ98
  have N98 := Fr.app N0 N98q
  obtain ⟨_, X98, N98⟩ := own_hide X98 N98
  refine own_go (T' := T98) (f' := (mkF m 9 #[oR a86, oR b11a, oI 18, oI 0] [vR a86])) (fun _ k => st98.trans (own_e X98 tt 4 3 k rfl)) ?_
  obtain ⟨T99, X99, e99, st99⟩ := getF X98 hx hZ hown (host := "") (Or.inl (ow58 hw)) Via.refl hh98 PF23 (g := (mkF m 9 #[oR a86, oR b11a, oI 18, oI 0] [vR a86])) rfl rfl (hb hby d17_9)
  refine own_go (T' := T99) (f' := (mkF m 18 #[oR a86, oR b11a, oI 18, oI 0] [vR a86, vI 18, vR b11a, vI 0, vR b86])) (fun _ k => st99 _ (own_e X99 tt 12 6 k rfl)) ?_
  obtain ⟨T100, X100, e100, st100⟩ := getF X99 hx hZ hown (host := "") (Or.inl (ow58 hw)) Via.refl e99 PF23 (g := (mkF m 18 #[oR a86, oR b11a, oI 18, oI 0] [vR a86, vI 18, vR b11a, vI 0, vR b86])) rfl rfl (hb hby d17_18)
  refine own_go (T' := T100) (f' := (mkF m 22 #[oR a86, oR b11a, oI 18, oI 0] [vI 5, vI 18, vR b11a, vI 0, vR b86])) (fun _ k => st100 _ (own_alen X100 hx hZ e100 PV24 rfl rfl (hb hby d17_21) k)) ?_
  obtain ⟨T101, h101, Lq101, X101, e101, N101, K101, V101, st101⟩ := cpA X100 hx hZ hown (ow110 hw) (ow93 hw) (ow91 hw) (ow92 hw) e100 PV24 PV19 (Or.inl ⟨rfl, rfl⟩) (sp := (0 : Int32)) (dp := (18 : Int32)) (nn := (5 : Int32)) (by decide) (by decide) (by decide) (by decide) (by decide) (us := own_ls4) rfl (Nat.le_of_ble_eq_true rfl) N98 n_b11a (g := (mkF m 22 #[oR a86, oR b11a, oI 18, oI 0] [vI 5, vI 18, vR b11a, vI 0, vR b86])) rfl (by rw [hml]; rfl) rfl (hb hby d17_22) (by decide) (W := 0) (by show 2 * 0 + _ ≤ _; exact Nat.le_of_eq rfl) (by decide)
  have V101s : Arv Z h101 b11a k11b .byte (34 : Int32) [(.int (101 : Int32)), (.int (120 : Int32)), (.int (112 : Int32)), (.int (101 : Int32)), (.int (99 : Int32)), (.int (116 : Int32)), (.int (101 : Int32)), (.int (100 : Int32)), (.int (32 : Int32)), (.int (98 : Int32)), (.int (101 : Int32)), (.int (116 : Int32)), (.int (119 : Int32)), (.int (101 : Int32)), (.int (101 : Int32)), (.int (110 : Int32)), (.int (32 : Int32)), (.int i88), (.int (32 : Int32)), (.int (97 : Int32)), (.int (110 : Int32)), (.int (100 : Int32)), (.int (32 : Int32)), (.int (0 : Int32)), (.int (0 : Int32)), (.int (0 : Int32)), (.int (0 : Int32)), (.int (0 : Int32)), (.int (0 : Int32)), (.int (0 : Int32)), (.int (0 : Int32)), (.int (0 : Int32)), (.int (0 : Int32)), (.int (0 : Int32))] (.int (0 : Int32)) := V101
  have KK101 : Keep h0 h101 [b11a] := Keep.trans (Keep.refl h0 [b11a]) K101 (allS (Or.inl (List.mem_of_getElem? (i := 0) rfl)) all0)
  refine own_go (T' := T101) (f' := (mkF m 43 #[oR a86, oR b11a, oI 18, oI 0] [])) (fun _ k => st101 _ (own_e X101 tt 25 1 k rfl)) ?_
  refine own_ret X101 (v := none) (fun _ => rfl) Bs (fun fs hr => X101.returnOut hx Br (hb hby d17_43) hr) ?_ (by decide) (by decide)
  show Q17a193 Z a86 b11a cs k11b i88 b86 kc86 h0 n0 _ T101.heap _
  rw [e101]
  exact ⟨rfl, N101, KK101, V101s⟩
theorem ef_rm15a192 (m : MethodId) (b2 : Addr) (a86 : Addr) : entryFrame m #[(.ref b2), (.int (18 : Int32)), (.ref a86)] 3 = mkF m 0 #[.val (.ref b2), .val (.int (18 : Int32)), .val (.ref a86)] [] := by first | (simp [entryFrame, mkF, argsToLocals, Value.category]; done) | rfl
def Q15a192 (Z : State) (b2 : Addr) (a86 : Addr) (cs : Int32) (b11a : Addr) (k11b : ClassId) (i88 : Int32) (b86 : Addr) (kc86 : ClassId) (h0 : Heap) (n0 : Nat) (v : Option Value) (h : Heap) (L : List Loc) : Prop := v = none ∧ Fr n0 L ∧ Keep h0 h [b11a] ∧ Arv Z h b11a k11b .byte (34 : Int32) [(.int (101 : Int32)), (.int (120 : Int32)), (.int (112 : Int32)), (.int (101 : Int32)), (.int (99 : Int32)), (.int (116 : Int32)), (.int (101 : Int32)), (.int (100 : Int32)), (.int (32 : Int32)), (.int (98 : Int32)), (.int (101 : Int32)), (.int (116 : Int32)), (.int (119 : Int32)), (.int (101 : Int32)), (.int (101 : Int32)), (.int (110 : Int32)), (.int (32 : Int32)), (.int i88), (.int (32 : Int32)), (.int (97 : Int32)), (.int (110 : Int32)), (.int (100 : Int32)), (.int (32 : Int32)), (.int (0 : Int32)), (.int (0 : Int32)), (.int (0 : Int32)), (.int (0 : Int32)), (.int (0 : Int32)), (.int (0 : Int32)), (.int (0 : Int32)), (.int (0 : Int32)), (.int (0 : Int32)), (.int (0 : Int32)), (.int (0 : Int32))] (.int (0 : Int32))
set_option maxRecDepth 65536 in
set_option maxHeartbeats 40000000 in
theorem rm15a192 (l : Launch) (Z : State) (a0 : Array Value) (hw : ∀ d ∈ tables_1, d.before a0 Z = true) (ws : List Jvm.Cond) (b2 : Addr) (a86 : Addr) (cs : Int32) (b11a : Addr) (k11b : ClassId) (i88 : Int32) (b86 : Addr) (kc86 : ClassId) (h0 : Heap) (n0 : Nat) (Z0 : n0 ≤ h0.size) (PS0 : Sta Z h0 "java/lang/String" "COMPACT_STRINGS" "Z" (.int cs)) (PE9 : Exa Z h0 b2 "java/lang/StringBuilder") (PF10 : Fld Z h0 b2 "java/lang/AbstractStringBuilder" "value" "[B" (.ref b11a)) (PF11 : Fld Z h0 b2 "java/lang/AbstractStringBuilder" "coder" "B" (.int (0 : Int32))) (PV19 : Arv Z h0 b11a k11b .byte (34 : Int32) [(.int (101 : Int32)), (.int (120 : Int32)), (.int (112 : Int32)), (.int (101 : Int32)), (.int (99 : Int32)), (.int (116 : Int32)), (.int (101 : Int32)), (.int (100 : Int32)), (.int (32 : Int32)), (.int (98 : Int32)), (.int (101 : Int32)), (.int (116 : Int32)), (.int (119 : Int32)), (.int (101 : Int32)), (.int (101 : Int32)), (.int (110 : Int32)), (.int (32 : Int32)), (.int i88), (.int (0 : Int32)), (.int (0 : Int32)), (.int (0 : Int32)), (.int (0 : Int32)), (.int (0 : Int32)), (.int (0 : Int32)), (.int (0 : Int32)), (.int (0 : Int32)), (.int (0 : Int32)), (.int (0 : Int32)), (.int (0 : Int32)), (.int (0 : Int32)), (.int (0 : Int32)), (.int (0 : Int32)), (.int (0 : Int32)), (.int (0 : Int32))] (.int (0 : Int32))) (PE21 : Exa Z h0 a86 "java/lang/String") (PF22 : Fld Z h0 a86 "java/lang/String" "coder" "B" (.int (0 : Int32))) (PF23 : Fld Z h0 a86 "java/lang/String" "value" "[B" (.ref b86)) (PV24 : Arv Z h0 b86 kc86 .byte (5 : Int32) own_ls4 (.int (0 : Int32))) (PP0 : ¬ (cs = (0 : Int32))) (n_b11a : n0 ≤ b11a) :
    own_Met l mn14 jdk_68_method_73_code 3 none ws (oRm 2 0 0 33) #[(.ref b2), (.int (18 : Int32)), (.ref a86)] Z h0 (Q15a192 Z b2 a86 cs b11a k11b i88 b86 kc86 h0 n0) := by
  refine own_met (own := "java/lang/AbstractStringBuilder") rfl (plainFor_of_name pn_3) ?_
  intro p e s m below meth c s₁ hx hby hml hZ hown hnm X0 e0 Br Bs
  have N0 := Fr.nil n0
  have tt := own_tt hx hby own_ok15
  rw [ef_rm15a192 m b2 a86]
  refine own_go (T' := s₁) (f' := (mkF m 2 #[oR b2, oI 18, oR a86] [vR a86, vR b2])) (fun _ k => own_e X0 tt 0 2 k rfl) ?_
  obtain ⟨cq95, q95, q95'⟩ := PE9.cell
  obtain ⟨_, T95, Lc95, X95, hQ95, st95⟩ := own_out (X0.privateBack hx (y := mn12) hown (mvT hZ (ow99 hw)) (mvT hZ (ow100 hw)) (own_selp (mvT hZ (ow102 hw)) (Cond.privateMethod_at (mvP hZ (ow101 hw) (args := #[]))) (mvT hZ (ow100 hw)) (by decide)) (Cond.privateMethod_at (mvP hZ (ow101 hw) (args := #[]))) (mvT hZ (ow103 hw)) (by decide) (backOf (W := 0) (rm16a14 l Z a0 hw [] b2 a86 cs h0 n0 Z0 PS0 PF11 PE21 PF22 PP0) hZ (ow103 hw) (ow25 hw) (by decide) (by decide)) (g := (mkF m 2 #[oR b2, oI 18, oR a86] [vR a86, vR b2])) rfl (by rw [hml]; rfl) (Steps.refl _) (a := b2) (by rw [e0]; exact q95) q95' (argsL := [(.ref a86)]) (rest := []) (lenOf pd24 rfl) rfl (by show 2 * 0 + _ ≤ _; exact Nat.le_of_eq rfl) (hb hby d15_2) (fun _ _ => ⟨rfl, e0, (by decide : 0 + 0 ≤ _), (by decide : 0 + 0 ≤ _)⟩))
  obtain ⟨rfl, N95q, hh95⟩ := hQ95
  have N95 := Fr.app N0 N95q
  obtain ⟨_, X95, N95⟩ := own_hide X95 N95
  refine own_go (T' := T95) (f' := (mkF m 7 #[oR b2, oI 18, oR a86] [vR b2, vR a86])) (fun _ k => st95.trans (own_e X95 tt 5 2 k rfl)) ?_
  obtain ⟨T96, X96, e96, st96⟩ := getF X95 hx hZ hown (host := "") (Or.inl (ow33 hw)) Via.refl hh95 PF10 (g := (mkF m 7 #[oR b2, oI 18, oR a86] [vR b2, vR a86])) rfl rfl (hb hby d15_7)
  refine own_go (T' := T96) (f' := (mkF m 12 #[oR b2, oI 18, oR a86] [vR b2, vI 18, vR b11a, vR a86])) (fun _ k => st96 _ (own_e X96 tt 10 2 k rfl)) ?_
  obtain ⟨T97, X97, e97, st97⟩ := getF X96 hx hZ hown (host := "") (Or.inl (ow35 hw)) Via.refl e96 PF11 (g := (mkF m 12 #[oR b2, oI 18, oR a86] [vR b2, vI 18, vR b11a, vR a86])) rfl rfl (hb hby d15_12)
  refine own_go (T' := T97) (f' := (mkF m 15 #[oR b2, oI 18, oR a86] [vI 0, vI 18, vR b11a, vR a86])) (fun _ k => st97 _ k) ?_
  obtain ⟨cq102, kq102, q102a, q102b, q102c⟩ := isOf hZ e97 PE21
  obtain ⟨_, T102, Lc102, X102, hQ102, st102⟩ := own_out (X97.virtualBack hx (y := mn13) (z := mn13) hown (mvT hZ (ow105 hw)) (mvT hZ (ow106 hw)) (notFace_of_selects (args := #[]) (mvT hZ (ow108 hw))) (mvT hZ (ow108 hw)) (mvT hZ (ow107 hw)) (by decide) (backOf (W := 0) (rm17a193 l Z a0 hw [] a86 b11a cs k11b i88 b86 kc86 h0 n0 Z0 PS0 PV19 PE21 PF22 PF23 PV24 PP0 n_b11a) hZ (ow109 hw) (ow31 hw) (by decide) (by decide)) q102a q102c (g := (mkF m 15 #[oR b2, oI 18, oR a86] [vI 0, vI 18, vR b11a, vR a86])) rfl (by rw [hml]; rfl) (Steps.refl _) (argsL := [(.ref b11a), (.int (18 : Int32)), (.int (0 : Int32))]) (rest := []) (lenOf pd28 rfl) rfl (by show 2 * 0 + _ ≤ _; exact Nat.le_of_eq rfl) (hb hby d15_15) (fun _ _ => ⟨rfl, e97, (by decide : 0 + 0 ≤ _), (by decide : 0 + 0 ≤ _)⟩))
  obtain ⟨rfl, N102q, K102, g102_0⟩ := hQ102
  have N102 := Fr.app N95 N102q
  have eK102 : T102.heap = T102.heap := rfl
  have KK102 : Keep h0 T102.heap [b11a] := Keep.trans (Keep.refl h0 [b11a]) K102 (allS (Or.inl (List.mem_of_getElem? (i := 0) rfl)) all0)
  obtain ⟨_, X102, N102⟩ := own_hide X102 N102
  refine own_go (T' := T102) (f' := (mkF m 18 #[oR b2, oI 18, oR a86] [])) (fun _ k => st102.trans k) ?_
  refine own_ret X102 (v := none) (fun _ => rfl) Bs (fun fs hr => X102.returnOut hx Br (hb hby d15_18) hr) ?_ (by decide) (by decide)
  show Q15a192 Z b2 a86 cs b11a k11b i88 b86 kc86 h0 n0 _ T102.heap _
  rw [eK102]
  exact ⟨rfl, N102, KK102, g102_0⟩
theorem ef_rm8a190 (m : MethodId) (b2 : Addr) (a86 : Addr) : entryFrame m #[(.ref b2), (.ref a86)] 3 = mkF m 0 #[.val (.ref b2), .val (.ref a86), .unset] [] := by first | (simp [entryFrame, mkF, argsToLocals, Value.category]; done) | rfl
def Q8a190 (Z : State) (b2 : Addr) (a86 : Addr) (cs : Int32) (b11a : Addr) (k11b : ClassId) (i88 : Int32) (b86 : Addr) (kc86 : ClassId) (h0 : Heap) (n0 : Nat) (v : Option Value) (h : Heap) (L : List Loc) : Prop := v = some (.ref b2) ∧ Fr n0 L ∧ Keep h0 h [b11a, b2] ∧ Arv Z h b11a k11b .byte (34 : Int32) [(.int (101 : Int32)), (.int (120 : Int32)), (.int (112 : Int32)), (.int (101 : Int32)), (.int (99 : Int32)), (.int (116 : Int32)), (.int (101 : Int32)), (.int (100 : Int32)), (.int (32 : Int32)), (.int (98 : Int32)), (.int (101 : Int32)), (.int (116 : Int32)), (.int (119 : Int32)), (.int (101 : Int32)), (.int (101 : Int32)), (.int (110 : Int32)), (.int (32 : Int32)), (.int i88), (.int (32 : Int32)), (.int (97 : Int32)), (.int (110 : Int32)), (.int (100 : Int32)), (.int (32 : Int32)), (.int (0 : Int32)), (.int (0 : Int32)), (.int (0 : Int32)), (.int (0 : Int32)), (.int (0 : Int32)), (.int (0 : Int32)), (.int (0 : Int32)), (.int (0 : Int32)), (.int (0 : Int32)), (.int (0 : Int32)), (.int (0 : Int32))] (.int (0 : Int32)) ∧ Fld Z h b2 "java/lang/AbstractStringBuilder" "value" "[B" (.ref b11a) ∧ Fld Z h b2 "java/lang/AbstractStringBuilder" "coder" "B" (.int (0 : Int32)) ∧ Fld Z h b2 "java/lang/AbstractStringBuilder" "count" "I" (.int (23 : Int32))
set_option maxRecDepth 65536 in
set_option maxHeartbeats 40000000 in
theorem rm8a190 (l : Launch) (Z : State) (a0 : Array Value) (hw : ∀ d ∈ tables_1, d.before a0 Z = true) (ws : List Jvm.Cond) (b2 : Addr) (a86 : Addr) (cs : Int32) (b11a : Addr) (k11b : ClassId) (i88 : Int32) (b86 : Addr) (kc86 : ClassId) (h0 : Heap) (n0 : Nat) (Z0 : n0 ≤ h0.size) (PS0 : Sta Z h0 "java/lang/String" "COMPACT_STRINGS" "Z" (.int cs)) (PE9 : Exa Z h0 b2 "java/lang/StringBuilder") (PF10 : Fld Z h0 b2 "java/lang/AbstractStringBuilder" "value" "[B" (.ref b11a)) (PF11 : Fld Z h0 b2 "java/lang/AbstractStringBuilder" "coder" "B" (.int (0 : Int32))) (PF12 : Fld Z h0 b2 "java/lang/AbstractStringBuilder" "count" "I" (.int (18 : Int32))) (PV19 : Arv Z h0 b11a k11b .byte (34 : Int32) [(.int (101 : Int32)), (.int (120 : Int32)), (.int (112 : Int32)), (.int (101 : Int32)), (.int (99 : Int32)), (.int (116 : Int32)), (.int (101 : Int32)), (.int (100 : Int32)), (.int (32 : Int32)), (.int (98 : Int32)), (.int (101 : Int32)), (.int (116 : Int32)), (.int (119 : Int32)), (.int (101 : Int32)), (.int (101 : Int32)), (.int (110 : Int32)), (.int (32 : Int32)), (.int i88), (.int (0 : Int32)), (.int (0 : Int32)), (.int (0 : Int32)), (.int (0 : Int32)), (.int (0 : Int32)), (.int (0 : Int32)), (.int (0 : Int32)), (.int (0 : Int32)), (.int (0 : Int32)), (.int (0 : Int32)), (.int (0 : Int32)), (.int (0 : Int32)), (.int (0 : Int32)), (.int (0 : Int32)), (.int (0 : Int32)), (.int (0 : Int32))] (.int (0 : Int32))) (PE21 : Exa Z h0 a86 "java/lang/String") (PF22 : Fld Z h0 a86 "java/lang/String" "coder" "B" (.int (0 : Int32))) (PF23 : Fld Z h0 a86 "java/lang/String" "value" "[B" (.ref b86)) (PV24 : Arv Z h0 b86 kc86 .byte (5 : Int32) own_ls4 (.int (0 : Int32))) (PP0 : ¬ (cs = (0 : Int32))) (ne_b2_b11a : b2 ≠ b11a) (ne_b11a_b2 : b11a ≠ b2) (n_b2 : n0 ≤ b2) (n_b11a : n0 ≤ b11a) :
    own_Met l mn15 jdk_68_method_22_code 3 (some (.object "java/lang/AbstractStringBuilder")) ws (oRm 3 0 0 47) #[(.ref b2), (.ref a86)] Z h0 (Q8a190 Z b2 a86 cs b11a k11b i88 b86 kc86 h0 n0) := by
  refine own_met (own := "java/lang/AbstractStringBuilder") rfl (plainFor_of_name pn_3) ?_
  intro p e s m below meth c s₁ hx hby hml hZ hown hnm X0 e0 Br Bs
  have N0 := Fr.nil n0
  have tt := own_tt hx hby own_ok8
  rw [ef_rm8a190 m b2 a86]
  refine own_go (T' := s₁) (f' := (mkF m 10 #[oR b2, oR a86, oU] [vR a86])) (fun _ k => own_e X0 tt 0 3 k rfl) ?_
  obtain ⟨cq89, kq89, q89a, q89b, q89c⟩ := isOf hZ e0 PE21
  obtain ⟨_, T89, Lc89, X89, hQ89, st89⟩ := own_out (X0.virtualBack hx (y := mn7) (z := mn7) hown (mvT hZ (ow53 hw)) (mvT hZ (ow54 hw)) (notFace_of_selects (args := #[]) (mvT hZ (ow56 hw))) (mvT hZ (ow56 hw)) (mvT hZ (ow55 hw)) (by decide) (backOf (W := 0) (rm9a29 l Z a0 hw [] a86 cs b86 kc86 h0 n0 Z0 PS0 PE21 PF22 PF23 PV24 PP0) hZ (ow57 hw) (ow31 hw) (by decide) (by decide)) q89a q89c (g := (mkF m 10 #[oR b2, oR a86, oU] [vR a86])) rfl (by rw [hml]; rfl) (Steps.refl _) (argsL := []) (rest := []) (lenOf pd1 rfl) rfl (by show 2 * 0 + _ ≤ _; exact Nat.le_of_eq rfl) (hb hby d8_10) (fun _ _ => ⟨rfl, e0, (by decide : 0 + 0 ≤ _), (by decide : 0 + 0 ≤ _)⟩))
  obtain ⟨rfl, N89q, hh89⟩ := hQ89
  have N89 := Fr.app N0 N89q
  obtain ⟨_, X89, N89⟩ := own_hide X89 N89
  refine own_go (T' := T89) (f' := (mkF m 16 #[oR b2, oR a86, oI 5] [vR b2, vR b2])) (fun _ k => st89.trans (own_e X89 tt 13 3 k rfl)) ?_
  obtain ⟨T90, X90, e90, st90⟩ := getF X89 hx hZ hown (host := "") (Or.inl (ow66 hw)) Via.refl hh89 PF12 (g := (mkF m 16 #[oR b2, oR a86, oI 5] [vR b2, vR b2])) rfl rfl (hb hby d8_16)
  refine own_go (T' := T90) (f' := (mkF m 21 #[oR b2, oR a86, oI 5] [vI 23, vR b2])) (fun _ k => st90 _ (own_e X90 tt 19 2 k rfl)) ?_
  obtain ⟨cq93, q93, q93'⟩ := PE9.cell
  obtain ⟨_, T93, Lc93, X93, hQ93, st93⟩ := own_out (X90.privateBack hx (y := mn11) hown (mvT hZ (ow68 hw)) (mvT hZ (ow69 hw)) (own_selp (mvT hZ (ow71 hw)) (Cond.privateMethod_at (mvP hZ (ow70 hw) (args := #[]))) (mvT hZ (ow69 hw)) (by decide)) (Cond.privateMethod_at (mvP hZ (ow70 hw) (args := #[]))) (mvT hZ (ow72 hw)) (by decide) (backOf (W := 0) (rm11a191 l Z a0 hw [] b2 b11a k11b i88 h0 n0 Z0 PF10 PF11 PV19) hZ (ow72 hw) (ow25 hw) (by decide) (by decide)) (g := (mkF m 21 #[oR b2, oR a86, oI 5] [vI 23, vR b2])) rfl (by rw [hml]; rfl) (Steps.refl _) (a := b2) (by rw [e90]; exact q93) q93' (argsL := [(.int (23 : Int32))]) (rest := []) (lenOf pd11 rfl) rfl (by show 2 * 0 + _ ≤ _; exact Nat.le_of_eq rfl) (hb hby d8_21) (fun _ _ => ⟨rfl, e90, (by decide : 0 + 0 ≤ _), (by decide : 0 + 0 ≤ _)⟩))
  obtain ⟨rfl, N93q, hh93⟩ := hQ93
  have N93 := Fr.app N89 N93q
  obtain ⟨_, X93, N93⟩ := own_hide X93 N93
  refine own_go (T' := T93) (f' := (mkF m 26 #[oR b2, oR a86, oI 5] [vR b2, vR b2])) (fun _ k => st93.trans (own_e X93 tt 24 2 k rfl)) ?_
  obtain ⟨T94, X94, e94, st94⟩ := getF X93 hx hZ hown (host := "") (Or.inl (ow66 hw)) Via.refl hh93 PF12 (g := (mkF m 26 #[oR b2, oR a86, oI 5] [vR b2, vR b2])) rfl rfl (hb hby d8_26)
  refine own_go (T' := T94) (f' := (mkF m 30 #[oR b2, oR a86, oI 5] [vR a86, vI 18, vR b2])) (fun _ k => st94 _ (own_e X94 tt 29 1 k rfl)) ?_
  obtain ⟨cq103, q103, q103'⟩ := PE9.cell
  obtain ⟨_, T103, Lc103, X103, hQ103, st103⟩ := own_out (X94.privateBack hx (y := mn14) hown (mvT hZ (ow94 hw)) (mvT hZ (ow95 hw)) (own_selp (mvT hZ (ow97 hw)) (Cond.privateMethod_at (mvP hZ (ow96 hw) (args := #[]))) (mvT hZ (ow95 hw)) (by decide)) (Cond.privateMethod_at (mvP hZ (ow96 hw) (args := #[]))) (mvT hZ (ow98 hw)) (by decide) (backOf (W := 0) (rm15a192 l Z a0 hw [] b2 a86 cs b11a k11b i88 b86 kc86 h0 n0 Z0 PS0 PE9 PF10 PF11 PV19 PE21 PF22 PF23 PV24 PP0 n_b11a) hZ (ow98 hw) (ow25 hw) (by decide) (by decide)) (g := (mkF m 30 #[oR b2, oR a86, oI 5] [vR a86, vI 18, vR b2])) rfl (by rw [hml]; rfl) (Steps.refl _) (a := b2) (by rw [e94]; exact q103) q103' (argsL := [(.int (18 : Int32)), (.ref a86)]) (rest := []) (lenOf pd18 rfl) rfl (by show 2 * 0 + _ ≤ _; exact Nat.le_of_eq rfl) (hb hby d8_30) (fun _ _ => ⟨rfl, e94, (by decide : 0 + 0 ≤ _), (by decide : 0 + 0 ≤ _)⟩))
  obtain ⟨rfl, N103q, K103, g103_0⟩ := hQ103
  have N103 := Fr.app N93 N103q
  have eK103 : T103.heap = T103.heap := rfl
  have KK103 : Keep h0 T103.heap [b11a, b2] := Keep.trans (Keep.refl h0 [b11a, b2]) K103 (allS (Or.inl (List.mem_of_getElem? (i := 0) rfl)) all0)
  obtain ⟨_, X103, N103⟩ := own_hide X103 N103
  refine own_go (T' := T103) (f' := (mkF m 35 #[oR b2, oR a86, oI 5] [vR b2, vR b2])) (fun _ k => st103.trans (own_e X103 tt 33 2 k rfl)) ?_
  obtain ⟨T104, X104, e104, st104⟩ := getF X103 hx hZ hown (host := "") (Or.inl (ow66 hw)) Via.refl eK103 (PF12.keep K103 (ninS ne_b2_b11a nin0)) (g := (mkF m 35 #[oR b2, oR a86, oI 5] [vR b2, vR b2])) rfl rfl (hb hby d8_35)
  refine own_go (T' := T104) (f' := (mkF m 40 #[oR b2, oR a86, oI 5] [vI 23, vR b2])) (fun _ k => st104 _ (own_e X104 tt 38 2 k rfl)) ?_
  obtain ⟨T105, h105, X105, e105, W105, st105⟩ := putF X104 hx hZ hown (host := "") (Or.inl (ow66 hw)) Via.refl e104 (PF12.keep K103 (ninS ne_b2_b11a nin0)) (PE9.keep K103) (Or.inl (ow67 hw)) (ow16 hw) (ty := .int) (by decide) rfl rfl (g := (mkF m 40 #[oR b2, oR a86, oI 5] [vI 23, vR b2])) rfl rfl (hb hby d8_40)
  have Fw105 := Fld.same W105 (PF12.keep K103 (ninS ne_b2_b11a nin0))
  have K105 : Keep h0 h105 [b11a, b2] := KK103.wr W105 (Or.inl (List.mem_of_getElem? (i := 1) rfl))
  have N105 := Fr.snoc X105 N103 n_b2
  refine own_go (T' := T105) (f' := (mkF m 44 #[oR b2, oR a86, oI 5] [vR b2])) (fun _ k => st105 _ (own_e X105 tt 43 1 k rfl)) ?_
  refine own_ret X105 (v := some (.ref b2)) (fun h => by rw [Br] at h; cases h) Bs (fun fs hr => own_retA X105 hx Br rfl rfl (hb hby d8_44) hr) ?_ (by decide) (by decide)
  show Q8a190 Z b2 a86 cs b11a k11b i88 b86 kc86 h0 n0 _ T105.heap _
  have G106 := ((PF10.keep K103 (ninS ne_b2_b11a nin0)).other W105 (Or.inr (slot_ne (Or.inl (ow34 hw)) (Or.inl (ow67 hw)) (by decide) (t := (.array .byte)) (t' := .int) (by decide) (by decide))))
  have G107 := ((PF11.keep K103 (ninS ne_b2_b11a nin0)).other W105 (Or.inr (slot_ne (Or.inl (ow36 hw)) (Or.inl (ow67 hw)) (by decide) (t := .byte) (t' := .int) (by decide) (by decide))))
  rw [e105]
  exact ⟨rfl, N105, K105, (g103_0.other W105 ne_b11a_b2), G106, G107, Fw105⟩
theorem ef_rm7a189 (m : MethodId) (b2 : Addr) (a86 : Addr) : entryFrame m #[(.ref b2), (.ref a86)] 2 = mkF m 0 #[.val (.ref b2), .val (.ref a86)] [] := by first | (simp [entryFrame, mkF, argsToLocals, Value.category]; done) | rfl
def Q7a189 (Z : State) (b2 : Addr) (a86 : Addr) (cs : Int32) (b11a : Addr) (k11b : ClassId) (i88 : Int32) (b86 : Addr) (kc86 : ClassId) (h0 : Heap) (n0 : Nat) (v : Option Value) (h : Heap) (L : List Loc) : Prop := v = some (.ref b2) ∧ Fr n0 L ∧ Keep h0 h [b2, b11a] ∧ Fld Z h b2 "java/lang/AbstractStringBuilder" "value" "[B" (.ref b11a) ∧ Fld Z h b2 "java/lang/AbstractStringBuilder" "coder" "B" (.int (0 : Int32)) ∧ Fld Z h b2 "java/lang/AbstractStringBuilder" "count" "I" (.int (23 : Int32)) ∧ Arv Z h b11a k11b .byte (34 : Int32) [(.int (101 : Int32)), (.int (120 : Int32)), (.int (112 : Int32)), (.int (101 : Int32)), (.int (99 : Int32)), (.int (116 : Int32)), (.int (101 : Int32)), (.int (100 : Int32)), (.int (32 : Int32)), (.int (98 : Int32)), (.int (101 : Int32)), (.int (116 : Int32)), (.int (119 : Int32)), (.int (101 : Int32)), (.int (101 : Int32)), (.int (110 : Int32)), (.int (32 : Int32)), (.int i88), (.int (32 : Int32)), (.int (97 : Int32)), (.int (110 : Int32)), (.int (100 : Int32)), (.int (32 : Int32)), (.int (0 : Int32)), (.int (0 : Int32)), (.int (0 : Int32)), (.int (0 : Int32)), (.int (0 : Int32)), (.int (0 : Int32)), (.int (0 : Int32)), (.int (0 : Int32)), (.int (0 : Int32)), (.int (0 : Int32)), (.int (0 : Int32))] (.int (0 : Int32))
set_option maxRecDepth 65536 in
set_option maxHeartbeats 40000000 in
theorem rm7a189 (l : Launch) (Z : State) (a0 : Array Value) (hw : ∀ d ∈ tables_1, d.before a0 Z = true) (ws : List Jvm.Cond) (b2 : Addr) (a86 : Addr) (cs : Int32) (b11a : Addr) (k11b : ClassId) (i88 : Int32) (b86 : Addr) (kc86 : ClassId) (h0 : Heap) (n0 : Nat) (Z0 : n0 ≤ h0.size) (PS0 : Sta Z h0 "java/lang/String" "COMPACT_STRINGS" "Z" (.int cs)) (PE9 : Exa Z h0 b2 "java/lang/StringBuilder") (PF10 : Fld Z h0 b2 "java/lang/AbstractStringBuilder" "value" "[B" (.ref b11a)) (PF11 : Fld Z h0 b2 "java/lang/AbstractStringBuilder" "coder" "B" (.int (0 : Int32))) (PF12 : Fld Z h0 b2 "java/lang/AbstractStringBuilder" "count" "I" (.int (18 : Int32))) (PV19 : Arv Z h0 b11a k11b .byte (34 : Int32) [(.int (101 : Int32)), (.int (120 : Int32)), (.int (112 : Int32)), (.int (101 : Int32)), (.int (99 : Int32)), (.int (116 : Int32)), (.int (101 : Int32)), (.int (100 : Int32)), (.int (32 : Int32)), (.int (98 : Int32)), (.int (101 : Int32)), (.int (116 : Int32)), (.int (119 : Int32)), (.int (101 : Int32)), (.int (101 : Int32)), (.int (110 : Int32)), (.int (32 : Int32)), (.int i88), (.int (0 : Int32)), (.int (0 : Int32)), (.int (0 : Int32)), (.int (0 : Int32)), (.int (0 : Int32)), (.int (0 : Int32)), (.int (0 : Int32)), (.int (0 : Int32)), (.int (0 : Int32)), (.int (0 : Int32)), (.int (0 : Int32)), (.int (0 : Int32)), (.int (0 : Int32)), (.int (0 : Int32)), (.int (0 : Int32)), (.int (0 : Int32))] (.int (0 : Int32))) (PE21 : Exa Z h0 a86 "java/lang/String") (PF22 : Fld Z h0 a86 "java/lang/String" "coder" "B" (.int (0 : Int32))) (PF23 : Fld Z h0 a86 "java/lang/String" "value" "[B" (.ref b86)) (PV24 : Arv Z h0 b86 kc86 .byte (5 : Int32) own_ls4 (.int (0 : Int32))) (PP0 : ¬ (cs = (0 : Int32))) (ne_b2_b11a : b2 ≠ b11a) (ne_b11a_b2 : b11a ≠ b2) (n_b2 : n0 ≤ b2) (n_b11a : n0 ≤ b11a) :
    own_Met l mn16 jdk_67_method_7_code 2 (some (.object "java/lang/StringBuilder")) ws (oRm 4 0 0 61) #[(.ref b2), (.ref a86)] Z h0 (Q7a189 Z b2 a86 cs b11a k11b i88 b86 kc86 h0 n0) := by
  refine own_met (own := "java/lang/StringBuilder") rfl (plainFor_of_name pn_8) ?_
  intro p e s m below meth c s₁ hx hby hml hZ hown hnm X0 e0 Br Bs
  have N0 := Fr.nil n0
  have tt := own_tt hx hby own_ok7
  rw [ef_rm7a189 m b2 a86]
  refine own_go (T' := s₁) (f' := (mkF m 2 #[oR b2, oR a86] [vR a86, vR b2])) (fun _ k => own_e X0 tt 0 2 k rfl) ?_
  obtain ⟨_, T108, Lc108, X108, hQ108, st108⟩ := own_out (superBack X0 hx hZ (y := mn15) hown (ow48 hw) (own_same (y := mn15) (y2 := mn11) (ow71 hw) rfl (ow49 hw) (by decide)) (ow49 hw) (ow50 hw) (by decide) (backOf (W := 0) (rm8a190 l Z a0 hw [] b2 a86 cs b11a k11b i88 b86 kc86 h0 n0 Z0 PS0 PE9 PF10 PF11 PF12 PV19 PE21 PF22 PF23 PV24 PP0 ne_b2_b11a ne_b11a_b2 n_b2 n_b11a) hZ (ow52 hw) (ow25 hw) (by decide) (by decide)) e0 (Ins.self PE9) (g := (mkF m 2 #[oR b2, oR a86] [vR a86, vR b2])) rfl (by rw [hml]; rfl) (ow52 hw) (argsL := [(.ref a86)]) (rest := []) (lenOf pd22 rfl) rfl (by show 2 * 0 + _ ≤ _; exact Nat.le_of_eq rfl) (hb hby d7_2) (fun _ _ => ⟨rfl, e0, (by decide : 0 + 0 ≤ _), (by decide : 0 + 0 ≤ _)⟩))
  obtain ⟨rfl, N108q, K108, g108_0, g108_1, g108_2, g108_3⟩ := hQ108
  have N108 := Fr.app N0 N108q
  have eK108 : T108.heap = T108.heap := rfl
  have KK108 : Keep h0 T108.heap [b2, b11a] := Keep.trans (Keep.refl h0 [b2, b11a]) K108 (allS (Or.inl (List.mem_of_getElem? (i := 1) rfl)) (allS (Or.inl (List.mem_of_getElem? (i := 0) rfl)) all0))
  obtain ⟨_, X108, N108⟩ := own_hide X108 N108
  refine own_go (T' := T108) (f' := (mkF m 7 #[oR b2, oR a86] [vR b2])) (fun _ k => st108.trans (own_e X108 tt 5 2 k rfl)) ?_
  refine own_ret X108 (v := some (.ref b2)) (fun h => by rw [Br] at h; cases h) Bs (fun fs hr => own_retA X108 hx Br rfl rfl (hb hby d7_7) hr) ?_ (by decide) (by decide)
  show Q7a189 Z b2 a86 cs b11a k11b i88 b86 kc86 h0 n0 _ T108.heap _
  rw [eK108]
  exact ⟨rfl, N108, KK108, g108_1, g108_2, g108_3, g108_0⟩
theorem ef_rm11a202 (m : MethodId) (b2 : Addr) : entryFrame m #[(.ref b2), (.int (24 : Int32))] 3 = mkF m 0 #[.val (.ref b2), .val (.int (24 : Int32)), .unset] [] := by first | (simp [entryFrame, mkF, argsToLocals, Value.category]; done) | rfl
def Q11a202 (Z : State) (b2 : Addr) (b11a : Addr) (k11b : ClassId) (i120 : Int32) (h0 : Heap) (n0 : Nat) (v : Option Value) (h : Heap) (L : List Loc) : Prop := v = none ∧ Fr n0 L ∧ h = h0
set_option maxRecDepth 65536 in
set_option maxHeartbeats 40000000 in
theorem rm11a202 (l : Launch) (Z : State) (a0 : Array Value) (hw : ∀ d ∈ tables_1, d.before a0 Z = true) (ws : List Jvm.Cond) (b2 : Addr) (b11a : Addr) (k11b : ClassId) (i120 : Int32) (h0 : Heap) (n0 : Nat) (Z0 : n0 ≤ h0.size) (PF10 : Fld Z h0 b2 "java/lang/AbstractStringBuilder" "value" "[B" (.ref b11a)) (PF11 : Fld Z h0 b2 "java/lang/AbstractStringBuilder" "coder" "B" (.int (0 : Int32))) (PV19 : Arv Z h0 b11a k11b .byte (34 : Int32) [(.int (101 : Int32)), (.int (120 : Int32)), (.int (112 : Int32)), (.int (101 : Int32)), (.int (99 : Int32)), (.int (116 : Int32)), (.int (101 : Int32)), (.int (100 : Int32)), (.int (32 : Int32)), (.int (98 : Int32)), (.int (101 : Int32)), (.int (116 : Int32)), (.int (119 : Int32)), (.int (101 : Int32)), (.int (101 : Int32)), (.int (110 : Int32)), (.int (32 : Int32)), (.int i120), (.int (32 : Int32)), (.int (97 : Int32)), (.int (110 : Int32)), (.int (100 : Int32)), (.int (32 : Int32)), (.int (0 : Int32)), (.int (0 : Int32)), (.int (0 : Int32)), (.int (0 : Int32)), (.int (0 : Int32)), (.int (0 : Int32)), (.int (0 : Int32)), (.int (0 : Int32)), (.int (0 : Int32)), (.int (0 : Int32)), (.int (0 : Int32))] (.int (0 : Int32))) :
    own_Met l mn11 jdk_68_method_9_code 3 none ws (oRm 0 0 0 0) #[(.ref b2), (.int (24 : Int32))] Z h0 (Q11a202 Z b2 b11a k11b i120 h0 n0) := by
  refine own_met (own := "java/lang/AbstractStringBuilder") rfl (plainFor_of_name pn_3) ?_
  intro p e s m below meth c s₁ hx hby hml hZ hown hnm X0 e0 Br Bs
  have N0 := Fr.nil n0
  have tt := own_tt hx hby own_ok11
  rw [ef_rm11a202 m b2]
  refine own_go (T' := s₁) (f' := (mkF m 1 #[oR b2, oI 24, oU] [vR b2])) (fun _ k => own_e X0 tt 0 1 k rfl) ?_
  obtain ⟨T123, X123, e123, st123⟩ := getF X0 hx hZ hown (host := "") (Or.inl (ow33 hw)) Via.refl e0 PF10 (g := (mkF m 1 #[oR b2, oI 24, oU] [vR b2])) rfl rfl (hb hby d11_1)
  refine own_go (T' := T123) (f' := (mkF m 6 #[oR b2, oI 24, oU] [vR b2, vI 34])) (fun _ k => st123 _ (own_alen X123 hx hZ e123 PV19 rfl rfl (hb hby d11_4) (own_e X123 tt 5 1 k rfl))) ?_
  obtain ⟨T124, X124, e124, st124⟩ := getF X123 hx hZ hown (host := "") (Or.inl (ow35 hw)) Via.refl e123 PF11 (g := (mkF m 6 #[oR b2, oI 24, oU] [vR b2, vI 34])) rfl rfl (hb hby d11_6)
  refine own_go (T' := T124) (f' := (mkF m 38 #[oR b2, oI 24, oI 34] [])) (fun _ k => st124 _ (own_e X124 tt 9 6 k rfl)) ?_
  refine own_ret X124 (v := none) (fun _ => rfl) Bs (fun fs hr => X124.returnOut hx Br (hb hby d11_38) hr) ?_ (by decide) (by decide)
  show Q11a202 Z b2 b11a k11b i120 h0 n0 _ T124.heap _
  exact ⟨rfl, N0, e124⟩
theorem ef_rm22a215 (m : MethodId) (y1 : Int32) (b11a : Addr) : entryFrame m #[(.int y1), (.int (24 : Int32)), (.ref b11a)] 7 = mkF m 0 #[.val (.int y1), .val (.int (24 : Int32)), .val (.ref b11a), .unset, .unset, .unset, .unset] [] := by first | (simp [entryFrame, mkF, argsToLocals, Value.category]; done) | rfl
def Q22a215 (Z : State) (y1 : Int32) (b11a : Addr) (wd : Addr) (kd : ClassId) (vd : List Value) (k11b : ClassId) (i159 : Int32) (h0 : Heap) (n0 : Nat) (v : Option Value) (h : Heap) (L : List Loc) : Prop := v = some (.int (23 : Int32)) ∧ Fr n0 L ∧ Keep h0 h [b11a] ∧ Arv Z h b11a k11b .byte (34 : Int32) [(.int (101 : Int32)), (.int (120 : Int32)), (.int (112 : Int32)), (.int (101 : Int32)), (.int (99 : Int32)), (.int (116 : Int32)), (.int (101 : Int32)), (.int (100 : Int32)), (.int (32 : Int32)), (.int (98 : Int32)), (.int (101 : Int32)), (.int (116 : Int32)), (.int (119 : Int32)), (.int (101 : Int32)), (.int (101 : Int32)), (.int (110 : Int32)), (.int (32 : Int32)), (.int i159), (.int (32 : Int32)), (.int (97 : Int32)), (.int (110 : Int32)), (.int (100 : Int32)), (.int (32 : Int32)), (.int (nar .byte ((48 : Int32) + y1))), (.int (0 : Int32)), (.int (0 : Int32)), (.int (0 : Int32)), (.int (0 : Int32)), (.int (0 : Int32)), (.int (0 : Int32)), (.int (0 : Int32)), (.int (0 : Int32)), (.int (0 : Int32)), (.int (0 : Int32))] (.int (0 : Int32))
set_option maxRecDepth 65536 in
set_option maxHeartbeats 40000000 in
theorem rm22a215 (l : Launch) (Z : State) (a0 : Array Value) (hw : ∀ d ∈ tables_1, d.before a0 Z = true) (ws : List Jvm.Cond) (y1 : Int32) (b11a : Addr) (wd : Addr) (kd : ClassId) (vd : List Value) (k11b : ClassId) (i159 : Int32) (h0 : Heap) (n0 : Nat) (Z0 : n0 ≤ h0.size) (PS1 : Sta Z h0 "java/lang/Integer" "DigitOnes" "[B" (.ref wd)) (PV2 : Arv Z h0 wd kd .byte (100 : Int32) vd (.int (0 : Int32))) (PV19 : Arv Z h0 b11a k11b .byte (34 : Int32) [(.int (101 : Int32)), (.int (120 : Int32)), (.int (112 : Int32)), (.int (101 : Int32)), (.int (99 : Int32)), (.int (116 : Int32)), (.int (101 : Int32)), (.int (100 : Int32)), (.int (32 : Int32)), (.int (98 : Int32)), (.int (101 : Int32)), (.int (116 : Int32)), (.int (119 : Int32)), (.int (101 : Int32)), (.int (101 : Int32)), (.int (110 : Int32)), (.int (32 : Int32)), (.int i159), (.int (32 : Int32)), (.int (97 : Int32)), (.int (110 : Int32)), (.int (100 : Int32)), (.int (32 : Int32)), (.int (0 : Int32)), (.int (0 : Int32)), (.int (0 : Int32)), (.int (0 : Int32)), (.int (0 : Int32)), (.int (0 : Int32)), (.int (0 : Int32)), (.int (0 : Int32)), (.int (0 : Int32)), (.int (0 : Int32)), (.int (0 : Int32))] (.int (0 : Int32))) (PP1 : y1 < (10 : Int32)) (PP2 : ¬ (y1 < (0 : Int32))) (PP4 : (-100 : Int32) < (-y1)) (PP5 : ¬ ((-(-y1)) < (0 : Int32))) (PP6 : (-(-y1)) < (100 : Int32)) (PP7 : ¬ ((-y1) < (-9 : Int32))) (n_b11a : n0 ≤ b11a) (pr_d10_vd : own_D10 vd) :
    own_Met l mn18 jdk_33_method_12_code 7 (some .int) ws (oRm 0 0 0 0) #[(.int y1), (.int (24 : Int32)), (.ref b11a)] Z h0 (Q22a215 Z y1 b11a wd kd vd k11b i159 h0 n0) := by
  refine own_met (own := "java/lang/Integer") rfl (plainFor_of_name pn_4) ?_
  intro p e s m below meth c s₁ hx hby hml hZ hown hnm X0 e0 Br Bs
  have N0 := Fr.nil n0
  have tt := own_tt hx hby own_ok22
  rw [ef_rm22a215 m y1 b11a]
  refine own_go (T' := s₁) (f' := (mkF m 78 #[.val (.int (-y1)), oI 24, oR b11a, oU, oU, oI 23, oI 0] [vI 23, vR b11a])) (fun _ k => own_r X0 tt 0 3 rfl (XS.ifYes X0.here hx rfl (pc0 := 4) (pc' := 11) rfl (hb hby d22_4) rfl ((if0 _ _).trans (flt PP2).2.1) (by decide) (by decide) (own_r X0 tt 11 9 rfl (XS.icmpYes X0.here hx rfl (pc0 := 25) (pc' := 72) rfl (hb hby d22_25) rfl (tlt PP4).2.2.1 (by decide) (by decide) (own_e X0 tt 72 3 k rfl))))) ?_
  obtain ⟨T165, X165, e165, st165⟩ := getS2 X0 hx hZ hown (host := "") (Or.inl (ow132 hw)) Via.refl e0 PS1 (g := (mkF m 78 #[.val (.int (-y1)), oI 24, oR b11a, oU, oU, oI 23, oI 0] [vI 23, vR b11a])) rfl (hb hby d22_78)
  refine own_go (T' := T165) (f' := (mkF m 84 #[.val (.int (-y1)), oI 24, oR b11a, oU, oU, oI 23, oI 0] [(.int ((48 : Int32) + y1)), vI 23, vR b11a])) (fun _ k => st165 _ (own_r X165 tt 81 2 rfl (own_ldB X165 hx hZ e165 PV2 (j := (-(-y1))) (x := ((48 : Int32) + y1)) ⟨PP5, PP6⟩ (own_d10 pr_d10_vd PP2 PP1) rfl rfl (hb hby d22_83) k))) ?_
  obtain ⟨T166, h166, X166, e166, W166, V166, st166⟩ := own_stB X165 hx hZ e165 PV19 (j := (23 : Int32)) ⟨by decide, by decide⟩ 23 rfl (Nat.le_of_ble_eq_true rfl) (g := (mkF m 84 #[.val (.int (-y1)), oI 24, oR b11a, oU, oU, oI 23, oI 0] [(.int ((48 : Int32) + y1)), vI 23, vR b11a])) rfl rfl (hb hby d22_84)
  have K166 : Keep h0 h166 [b11a] := (Keep.refl h0 [b11a]).wr W166 (Or.inl (List.mem_of_getElem? (i := 0) rfl))
  have V166s : Arv Z h166 b11a k11b .byte (34 : Int32) [(.int (101 : Int32)), (.int (120 : Int32)), (.int (112 : Int32)), (.int (101 : Int32)), (.int (99 : Int32)), (.int (116 : Int32)), (.int (101 : Int32)), (.int (100 : Int32)), (.int (32 : Int32)), (.int (98 : Int32)), (.int (101 : Int32)), (.int (116 : Int32)), (.int (119 : Int32)), (.int (101 : Int32)), (.int (101 : Int32)), (.int (110 : Int32)), (.int (32 : Int32)), (.int i159), (.int (32 : Int32)), (.int (97 : Int32)), (.int (110 : Int32)), (.int (100 : Int32)), (.int (32 : Int32)), (.int (nar .byte ((48 : Int32) + y1))), (.int (0 : Int32)), (.int (0 : Int32)), (.int (0 : Int32)), (.int (0 : Int32)), (.int (0 : Int32)), (.int (0 : Int32)), (.int (0 : Int32)), (.int (0 : Int32)), (.int (0 : Int32)), (.int (0 : Int32))] (.int (0 : Int32)) := V166
  have N166 := Fr.snoc X166 N0 n_b11a
  refine own_go (T' := T166) (f' := (mkF m 120 #[.val (.int (-y1)), oI 24, oR b11a, oU, oU, oI 23, oI 0] [vI 23])) (fun _ k => st166 _ (own_r X166 tt 85 2 rfl (XS.icmpYes X166.here hx rfl (pc0 := 88) (pc' := 104) rfl (hb hby d22_88) rfl (flt PP7).2.1 (by decide) (by decide) (own_e X166 tt 104 3 k rfl)))) ?_
  refine own_ret X166 (v := some (.int (23 : Int32))) (fun h => by rw [Br] at h; cases h) Bs (fun fs hr => retI X166 hx Br (hb hby d22_120) hr) ?_ (by decide) (by decide)
  show Q22a215 Z y1 b11a wd kd vd k11b i159 h0 n0 _ T166.heap _
  rw [e166]
  exact ⟨rfl, N166, K166, V166s⟩
theorem ef_rm19a214 (m : MethodId) (b2 : Addr) (y1 : Int32) : entryFrame m #[(.ref b2), (.int y1)] 4 = mkF m 0 #[.val (.ref b2), .val (.int y1), .unset, .unset] [] := by first | (simp [entryFrame, mkF, argsToLocals, Value.category]; done) | rfl
def Q19a214 (Z : State) (b2 : Addr) (y1 : Int32) (cs : Int32) (wd : Addr) (kd : ClassId) (vd : List Value) (b11a : Addr) (k11b : ClassId) (i159 : Int32) (h0 : Heap) (n0 : Nat) (v : Option Value) (h : Heap) (L : List Loc) : Prop := v = some (.ref b2) ∧ Fr n0 L ∧ Keep h0 h [b11a, b2] ∧ Arv Z h b11a k11b .byte (34 : Int32) [(.int (101 : Int32)), (.int (120 : Int32)), (.int (112 : Int32)), (.int (101 : Int32)), (.int (99 : Int32)), (.int (116 : Int32)), (.int (101 : Int32)), (.int (100 : Int32)), (.int (32 : Int32)), (.int (98 : Int32)), (.int (101 : Int32)), (.int (116 : Int32)), (.int (119 : Int32)), (.int (101 : Int32)), (.int (101 : Int32)), (.int (110 : Int32)), (.int (32 : Int32)), (.int i159), (.int (32 : Int32)), (.int (97 : Int32)), (.int (110 : Int32)), (.int (100 : Int32)), (.int (32 : Int32)), (.int (nar .byte ((48 : Int32) + y1))), (.int (0 : Int32)), (.int (0 : Int32)), (.int (0 : Int32)), (.int (0 : Int32)), (.int (0 : Int32)), (.int (0 : Int32)), (.int (0 : Int32)), (.int (0 : Int32)), (.int (0 : Int32)), (.int (0 : Int32))] (.int (0 : Int32)) ∧ Fld Z h b2 "java/lang/AbstractStringBuilder" "value" "[B" (.ref b11a) ∧ Fld Z h b2 "java/lang/AbstractStringBuilder" "coder" "B" (.int (0 : Int32)) ∧ Fld Z h b2 "java/lang/AbstractStringBuilder" "count" "I" (.int (24 : Int32))
set_option maxRecDepth 65536 in
set_option maxHeartbeats 40000000 in
theorem rm19a214 (l : Launch) (Z : State) (a0 : Array Value) (hw : ∀ d ∈ tables_1, d.before a0 Z = true) (ws : List Jvm.Cond) (b2 : Addr) (y1 : Int32) (cs : Int32) (wd : Addr) (kd : ClassId) (vd : List Value) (b11a : Addr) (k11b : ClassId) (i159 : Int32) (h0 : Heap) (n0 : Nat) (Z0 : n0 ≤ h0.size) (PS0 : Sta Z h0 "java/lang/String" "COMPACT_STRINGS" "Z" (.int cs)) (PS1 : Sta Z h0 "java/lang/Integer" "DigitOnes" "[B" (.ref wd)) (PV2 : Arv Z h0 wd kd .byte (100 : Int32) vd (.int (0 : Int32))) (PE9 : Exa Z h0 b2 "java/lang/StringBuilder") (PF10 : Fld Z h0 b2 "java/lang/AbstractStringBuilder" "value" "[B" (.ref b11a)) (PF11 : Fld Z h0 b2 "java/lang/AbstractStringBuilder" "coder" "B" (.int (0 : Int32))) (PF12 : Fld Z h0 b2 "java/lang/AbstractStringBuilder" "count" "I" (.int (23 : Int32))) (PV19 : Arv Z h0 b11a k11b .byte (34 : Int32) [(.int (101 : Int32)), (.int (120 : Int32)), (.int (112 : Int32)), (.int (101 : Int32)), (.int (99 : Int32)), (.int (116 : Int32)), (.int (101 : Int32)), (.int (100 : Int32)), (.int (32 : Int32)), (.int (98 : Int32)), (.int (101 : Int32)), (.int (116 : Int32)), (.int (119 : Int32)), (.int (101 : Int32)), (.int (101 : Int32)), (.int (110 : Int32)), (.int (32 : Int32)), (.int i159), (.int (32 : Int32)), (.int (97 : Int32)), (.int (110 : Int32)), (.int (100 : Int32)), (.int (32 : Int32)), (.int (0 : Int32)), (.int (0 : Int32)), (.int (0 : Int32)), (.int (0 : Int32)), (.int (0 : Int32)), (.int (0 : Int32)), (.int (0 : Int32)), (.int (0 : Int32)), (.int (0 : Int32)), (.int (0 : Int32)), (.int (0 : Int32))] (.int (0 : Int32))) (PP0 : ¬ (cs = (0 : Int32))) (PP1 : y1 < (10 : Int32)) (PP2 : ¬ (y1 < (0 : Int32))) (PP3 : (-10 : Int32) < (-y1)) (PP4 : (-100 : Int32) < (-y1)) (PP5 : ¬ ((-(-y1)) < (0 : Int32))) (PP6 : (-(-y1)) < (100 : Int32)) (PP7 : ¬ ((-y1) < (-9 : Int32))) (ne_b2_b11a : b2 ≠ b11a) (ne_b11a_b2 : b11a ≠ b2) (n_b2 : n0 ≤ b2) (n_b11a : n0 ≤ b11a) (pr_d10_vd : own_D10 vd) :
    own_Met l mn19 jdk_68_method_32_code 4 (some (.object "java/lang/AbstractStringBuilder")) ws (oRm 1 0 0 18) #[(.ref b2), (.int y1)] Z h0 (Q19a214 Z b2 y1 cs wd kd vd b11a k11b i159 h0 n0) := by
  refine own_met (own := "java/lang/AbstractStringBuilder") rfl (plainFor_of_name pn_3) ?_
  intro p e s m below meth c s₁ hx hby hml hZ hown hnm X0 e0 Br Bs
  have N0 := Fr.nil n0
  have tt := own_tt hx hby own_ok19
  rw [ef_rm19a214 m b2 y1]
  refine own_go (T' := s₁) (f' := (mkF m 1 #[oR b2, .val (.int y1), oU, oU] [vR b2])) (fun _ k => own_e X0 tt 0 1 k rfl) ?_
  obtain ⟨T160, X160, e160, st160⟩ := getF X0 hx hZ hown (host := "") (Or.inl (ow66 hw)) Via.refl e0 PF12 (g := (mkF m 1 #[oR b2, .val (.int y1), oU, oU] [vR b2])) rfl rfl (hb hby d19_1)
  refine own_go (T' := T160) (f' := (mkF m 7 #[oR b2, .val (.int y1), oI 23, oU] [(.int y1), vI 23])) (fun _ k => st160 _ (own_e X160 tt 4 3 k rfl)) ?_
  obtain ⟨_, T161, Lc161, X161, hQ161, st161⟩ := own_outC (Jvm.LawKit.callS X160 hx (y := mn3) hown (mvT hZ (ow120 hw)) (mvT hZ (ow121 hw)) (mvT hZ (ow122 hw)) (mvT hZ (ow123 hw)) (by decide) (backOf (W := 1) (rm20a171 l Z a0 hw [] y1 h0 n0 Z0 PP2 PP3) hZ (ow123 hw) (ow122 hw) (by decide) (by decide)) (g := (mkF m 7 #[oR b2, .val (.int y1), oI 23, oU] [(.int y1), vI 23])) rfl (by rw [hml]; rfl) (argsL := [(.int y1)]) (rest := [(.int (23 : Int32))]) (lenOf pd8 rfl) rfl (by show 2 * 0 + _ ≤ _; exact Nat.le_of_eq rfl) (hb hby d19_7) (fun _ _ => ⟨rfl, e160, (by decide : 0 + 0 ≤ _), (by decide : 0 + 0 ≤ _)⟩))
  obtain ⟨rfl, N161q, hh161⟩ := hQ161
  have N161 := Fr.app N0 N161q
  obtain ⟨_, X161, N161⟩ := own_hide X161 N161
  refine own_go (T' := T161) (f' := (mkF m 14 #[oR b2, .val (.int y1), oI 23, oI 24] [vI 24, vR b2])) (fun _ k => st161 _ (own_e X161 tt 10 4 k rfl)) ?_
  obtain ⟨cq162, q162, q162'⟩ := PE9.cell
  obtain ⟨_, T162, Lc162, X162, hQ162, st162⟩ := own_out (X161.privateBack hx (y := mn11) hown (mvT hZ (ow68 hw)) (mvT hZ (ow69 hw)) (own_selp (mvT hZ (ow71 hw)) (Cond.privateMethod_at (mvP hZ (ow70 hw) (args := #[]))) (mvT hZ (ow69 hw)) (by decide)) (Cond.privateMethod_at (mvP hZ (ow70 hw) (args := #[]))) (mvT hZ (ow72 hw)) (by decide) (backOf (W := 0) (rm11a202 l Z a0 hw [] b2 b11a k11b i159 h0 n0 Z0 PF10 PF11 PV19) hZ (ow72 hw) (ow25 hw) (by decide) (by decide)) (g := (mkF m 14 #[oR b2, .val (.int y1), oI 23, oI 24] [vI 24, vR b2])) rfl (by rw [hml]; rfl) (Steps.refl _) (a := b2) (by rw [hh161]; exact q162) q162' (argsL := [(.int (24 : Int32))]) (rest := []) (lenOf pd11 rfl) rfl (by show 2 * 0 + _ ≤ _; exact Nat.le_of_eq rfl) (hb hby d19_14) (fun _ _ => ⟨rfl, hh161, (by decide : 0 + 0 ≤ _), (by decide : 0 + 0 ≤ _)⟩))
  obtain ⟨rfl, N162q, hh162⟩ := hQ162
  have N162 := Fr.app N161 N162q
  obtain ⟨_, X162, N162⟩ := own_hide X162 N162
  refine own_go (T' := T162) (f' := (mkF m 18 #[oR b2, .val (.int y1), oI 23, oI 24] [vR b2])) (fun _ k => st162.trans (own_e X162 tt 17 1 k rfl)) ?_
  obtain ⟨cq163, kq163, q163a, q163b, q163c⟩ := isOf hZ hh162 PE9
  obtain ⟨_, T163, Lc163, X163, hQ163, st163⟩ := own_out (X162.virtualBack hx (y := mn17) (z := mn17) hown (mvT hZ (ow124 hw)) (mvT hZ (ow125 hw)) (notFace_of_selects (args := #[]) (mvT hZ (ow127 hw))) (mvT hZ (ow127 hw)) (mvT hZ (ow126 hw)) (by decide) (backOf (W := 0) (rm21a22 l Z a0 hw [] b2 cs h0 n0 Z0 PS0 PF11 PP0) hZ (ow128 hw) (ow25 hw) (by decide) (by decide)) q163a q163c (g := (mkF m 18 #[oR b2, .val (.int y1), oI 23, oI 24] [vR b2])) rfl (by rw [hml]; rfl) (Steps.refl _) (argsL := []) (rest := []) (lenOf pd6 rfl) rfl (by show 2 * 0 + _ ≤ _; exact Nat.le_of_eq rfl) (hb hby d19_18) (fun _ _ => ⟨rfl, hh162, (by decide : 0 + 0 ≤ _), (by decide : 0 + 0 ≤ _)⟩))
  obtain ⟨rfl, N163q, hh163⟩ := hQ163
  have N163 := Fr.app N162 N163q
  obtain ⟨_, X163, N163⟩ := own_hide X163 N163
  refine own_go (T' := T163) (f' := (mkF m 27 #[oR b2, .val (.int y1), oI 23, oI 24] [vR b2, vI 24, (.int y1)])) (fun _ k => st163.trans (own_e X163 tt 21 4 k rfl)) ?_
  obtain ⟨T164, X164, e164, st164⟩ := getF X163 hx hZ hown (host := "") (Or.inl (ow33 hw)) Via.refl hh163 PF10 (g := (mkF m 27 #[oR b2, .val (.int y1), oI 23, oI 24] [vR b2, vI 24, (.int y1)])) rfl rfl (hb hby d19_27)
  refine own_go (T' := T164) (f' := (mkF m 30 #[oR b2, .val (.int y1), oI 23, oI 24] [vR b11a, vI 24, (.int y1)])) (fun _ k => st164 _ k) ?_
  obtain ⟨_, T167, Lc167, X167, hQ167, st167⟩ := own_outC (Jvm.LawKit.callS X164 hx (y := mn18) hown (mvT hZ (ow129 hw)) (mvT hZ (ow130 hw)) (mvT hZ (ow122 hw)) (mvT hZ (ow131 hw)) (by decide) (backOf (W := 0) (rm22a215 l Z a0 hw [] y1 b11a wd kd vd k11b i159 h0 n0 Z0 PS1 PV2 PV19 PP1 PP2 PP4 PP5 PP6 PP7 n_b11a pr_d10_vd) hZ (ow131 hw) (ow122 hw) (by decide) (by decide)) (g := (mkF m 30 #[oR b2, .val (.int y1), oI 23, oI 24] [vR b11a, vI 24, (.int y1)])) rfl (by rw [hml]; rfl) (argsL := [(.int y1), (.int (24 : Int32)), (.ref b11a)]) (rest := []) (lenOf pd16 rfl) rfl (by show 2 * 0 + _ ≤ _; exact Nat.le_of_eq rfl) (hb hby d19_30) (fun _ _ => ⟨rfl, e164, (by decide : 0 + 0 ≤ _), (by decide : 0 + 0 ≤ _)⟩))
  obtain ⟨rfl, N167q, K167, g167_0⟩ := hQ167
  have N167 := Fr.app N163 N167q
  have eK167 : T167.heap = T167.heap := rfl
  have KK167 : Keep h0 T167.heap [b11a, b2] := Keep.trans (Keep.refl h0 [b11a, b2]) K167 (allS (Or.inl (List.mem_of_getElem? (i := 0) rfl)) all0)
  obtain ⟨_, X167, N167⟩ := own_hide X167 N167
  refine own_go (T' := T167) (f' := (mkF m 50 #[oR b2, .val (.int y1), oI 23, oI 24] [vI 24, vR b2])) (fun _ k => st167 _ (own_e X167 tt 33 4 k rfl)) ?_
  obtain ⟨T168, h168, X168, e168, W168, st168⟩ := putF X167 hx hZ hown (host := "") (Or.inl (ow66 hw)) Via.refl eK167 (PF12.keep K167 (ninS ne_b2_b11a nin0)) (PE9.keep K167) (Or.inl (ow67 hw)) (ow16 hw) (ty := .int) (by decide) rfl rfl (g := (mkF m 50 #[oR b2, .val (.int y1), oI 23, oI 24] [vI 24, vR b2])) rfl rfl (hb hby d19_50)
  have Fw168 := Fld.same W168 (PF12.keep K167 (ninS ne_b2_b11a nin0))
  have K168 : Keep h0 h168 [b11a, b2] := KK167.wr W168 (Or.inl (List.mem_of_getElem? (i := 1) rfl))
  have N168 := Fr.snoc X168 N167 n_b2
  refine own_go (T' := T168) (f' := (mkF m 54 #[oR b2, .val (.int y1), oI 23, oI 24] [vR b2])) (fun _ k => st168 _ (own_e X168 tt 53 1 k rfl)) ?_
  refine own_ret X168 (v := some (.ref b2)) (fun h => by rw [Br] at h; cases h) Bs (fun fs hr => own_retA X168 hx Br rfl rfl (hb hby d19_54) hr) ?_ (by decide) (by decide)
  show Q19a214 Z b2 y1 cs wd kd vd b11a k11b i159 h0 n0 _ T168.heap _
  have G169 := ((PF10.keep K167 (ninS ne_b2_b11a nin0)).other W168 (Or.inr (slot_ne (Or.inl (ow34 hw)) (Or.inl (ow67 hw)) (by decide) (t := (.array .byte)) (t' := .int) (by decide) (by decide))))
  have G170 := ((PF11.keep K167 (ninS ne_b2_b11a nin0)).other W168 (Or.inr (slot_ne (Or.inl (ow36 hw)) (Or.inl (ow67 hw)) (by decide) (t := .byte) (t' := .int) (by decide) (by decide))))
  rw [e168]
  exact ⟨rfl, N168, K168, (g167_0.other W168 ne_b11a_b2), G169, G170, Fw168⟩
theorem ef_rm18a213 (m : MethodId) (b2 : Addr) (y1 : Int32) : entryFrame m #[(.ref b2), (.int y1)] 2 = mkF m 0 #[.val (.ref b2), .val (.int y1)] [] := by first | (simp [entryFrame, mkF, argsToLocals, Value.category]; done) | rfl
def Q18a213 (Z : State) (b2 : Addr) (y1 : Int32) (cs : Int32) (wd : Addr) (kd : ClassId) (vd : List Value) (b11a : Addr) (k11b : ClassId) (i159 : Int32) (h0 : Heap) (n0 : Nat) (v : Option Value) (h : Heap) (L : List Loc) : Prop := v = some (.ref b2) ∧ Fr n0 L ∧ Keep h0 h [b2, b11a] ∧ Fld Z h b2 "java/lang/AbstractStringBuilder" "value" "[B" (.ref b11a) ∧ Fld Z h b2 "java/lang/AbstractStringBuilder" "coder" "B" (.int (0 : Int32)) ∧ Fld Z h b2 "java/lang/AbstractStringBuilder" "count" "I" (.int (24 : Int32)) ∧ Arv Z h b11a k11b .byte (34 : Int32) [(.int (101 : Int32)), (.int (120 : Int32)), (.int (112 : Int32)), (.int (101 : Int32)), (.int (99 : Int32)), (.int (116 : Int32)), (.int (101 : Int32)), (.int (100 : Int32)), (.int (32 : Int32)), (.int (98 : Int32)), (.int (101 : Int32)), (.int (116 : Int32)), (.int (119 : Int32)), (.int (101 : Int32)), (.int (101 : Int32)), (.int (110 : Int32)), (.int (32 : Int32)), (.int i159), (.int (32 : Int32)), (.int (97 : Int32)), (.int (110 : Int32)), (.int (100 : Int32)), (.int (32 : Int32)), (.int (nar .byte ((48 : Int32) + y1))), (.int (0 : Int32)), (.int (0 : Int32)), (.int (0 : Int32)), (.int (0 : Int32)), (.int (0 : Int32)), (.int (0 : Int32)), (.int (0 : Int32)), (.int (0 : Int32)), (.int (0 : Int32)), (.int (0 : Int32))] (.int (0 : Int32))
set_option maxRecDepth 65536 in
set_option maxHeartbeats 40000000 in
theorem rm18a213 (l : Launch) (Z : State) (a0 : Array Value) (hw : ∀ d ∈ tables_1, d.before a0 Z = true) (ws : List Jvm.Cond) (b2 : Addr) (y1 : Int32) (cs : Int32) (wd : Addr) (kd : ClassId) (vd : List Value) (b11a : Addr) (k11b : ClassId) (i159 : Int32) (h0 : Heap) (n0 : Nat) (Z0 : n0 ≤ h0.size) (PS0 : Sta Z h0 "java/lang/String" "COMPACT_STRINGS" "Z" (.int cs)) (PS1 : Sta Z h0 "java/lang/Integer" "DigitOnes" "[B" (.ref wd)) (PV2 : Arv Z h0 wd kd .byte (100 : Int32) vd (.int (0 : Int32))) (PE9 : Exa Z h0 b2 "java/lang/StringBuilder") (PF10 : Fld Z h0 b2 "java/lang/AbstractStringBuilder" "value" "[B" (.ref b11a)) (PF11 : Fld Z h0 b2 "java/lang/AbstractStringBuilder" "coder" "B" (.int (0 : Int32))) (PF12 : Fld Z h0 b2 "java/lang/AbstractStringBuilder" "count" "I" (.int (23 : Int32))) (PV19 : Arv Z h0 b11a k11b .byte (34 : Int32) [(.int (101 : Int32)), (.int (120 : Int32)), (.int (112 : Int32)), (.int (101 : Int32)), (.int (99 : Int32)), (.int (116 : Int32)), (.int (101 : Int32)), (.int (100 : Int32)), (.int (32 : Int32)), (.int (98 : Int32)), (.int (101 : Int32)), (.int (116 : Int32)), (.int (119 : Int32)), (.int (101 : Int32)), (.int (101 : Int32)), (.int (110 : Int32)), (.int (32 : Int32)), (.int i159), (.int (32 : Int32)), (.int (97 : Int32)), (.int (110 : Int32)), (.int (100 : Int32)), (.int (32 : Int32)), (.int (0 : Int32)), (.int (0 : Int32)), (.int (0 : Int32)), (.int (0 : Int32)), (.int (0 : Int32)), (.int (0 : Int32)), (.int (0 : Int32)), (.int (0 : Int32)), (.int (0 : Int32)), (.int (0 : Int32)), (.int (0 : Int32))] (.int (0 : Int32))) (PP0 : ¬ (cs = (0 : Int32))) (PP1 : y1 < (10 : Int32)) (PP2 : ¬ (y1 < (0 : Int32))) (PP3 : (-10 : Int32) < (-y1)) (PP4 : (-100 : Int32) < (-y1)) (PP5 : ¬ ((-(-y1)) < (0 : Int32))) (PP6 : (-(-y1)) < (100 : Int32)) (PP7 : ¬ ((-y1) < (-9 : Int32))) (ne_b2_b11a : b2 ≠ b11a) (ne_b11a_b2 : b11a ≠ b2) (n_b2 : n0 ≤ b2) (n_b11a : n0 ≤ b11a) (pr_d10_vd : own_D10 vd) :
    own_Met l mn20 jdk_67_method_15_code 2 (some (.object "java/lang/StringBuilder")) ws (oRm 2 0 0 33) #[(.ref b2), (.int y1)] Z h0 (Q18a213 Z b2 y1 cs wd kd vd b11a k11b i159 h0 n0) := by
  refine own_met (own := "java/lang/StringBuilder") rfl (plainFor_of_name pn_8) ?_
  intro p e s m below meth c s₁ hx hby hml hZ hown hnm X0 e0 Br Bs
  have N0 := Fr.nil n0
  have tt := own_tt hx hby own_ok18
  rw [ef_rm18a213 m b2 y1]
  refine own_go (T' := s₁) (f' := (mkF m 2 #[oR b2, .val (.int y1)] [(.int y1), vR b2])) (fun _ k => own_e X0 tt 0 2 k rfl) ?_
  obtain ⟨_, T171, Lc171, X171, hQ171, st171⟩ := own_out (superBack X0 hx hZ (y := mn19) hown (ow116 hw) (own_same (y := mn19) (y2 := mn11) (ow71 hw) rfl (ow117 hw) (by decide)) (ow117 hw) (ow50 hw) (by decide) (backOf (W := 0) (rm19a214 l Z a0 hw [] b2 y1 cs wd kd vd b11a k11b i159 h0 n0 Z0 PS0 PS1 PV2 PE9 PF10 PF11 PF12 PV19 PP0 PP1 PP2 PP3 PP4 PP5 PP6 PP7 ne_b2_b11a ne_b11a_b2 n_b2 n_b11a pr_d10_vd) hZ (ow119 hw) (ow25 hw) (by decide) (by decide)) e0 (Ins.self PE9) (g := (mkF m 2 #[oR b2, .val (.int y1)] [(.int y1), vR b2])) rfl (by rw [hml]; rfl) (ow119 hw) (argsL := [(.int y1)]) (rest := []) (lenOf pd9 rfl) rfl (by show 2 * 0 + _ ≤ _; exact Nat.le_of_eq rfl) (hb hby d18_2) (fun _ _ => ⟨rfl, e0, (by decide : 0 + 0 ≤ _), (by decide : 0 + 0 ≤ _)⟩))
  obtain ⟨rfl, N171q, K171, g171_0, g171_1, g171_2, g171_3⟩ := hQ171
  have N171 := Fr.app N0 N171q
  have eK171 : T171.heap = T171.heap := rfl
  have KK171 : Keep h0 T171.heap [b2, b11a] := Keep.trans (Keep.refl h0 [b2, b11a]) K171 (allS (Or.inl (List.mem_of_getElem? (i := 1) rfl)) (allS (Or.inl (List.mem_of_getElem? (i := 0) rfl)) all0))
  obtain ⟨_, X171, N171⟩ := own_hide X171 N171
  refine own_go (T' := T171) (f' := (mkF m 7 #[oR b2, .val (.int y1)] [vR b2])) (fun _ k => st171.trans (own_e X171 tt 5 2 k rfl)) ?_
  refine own_ret X171 (v := some (.ref b2)) (fun h => by rw [Br] at h; cases h) Bs (fun fs hr => own_retA X171 hx Br rfl rfl (hb hby d18_7) hr) ?_ (by decide) (by decide)
  show Q18a213 Z b2 y1 cs wd kd vd b11a k11b i159 h0 n0 _ T171.heap _
  rw [eK171]
  exact ⟨rfl, N171, KK171, g171_1, g171_2, g171_3, g171_0⟩
theorem ef_rm30a220 (m : MethodId) (b11a : Addr) : entryFrame m #[(.ref b11a), (.int (0 : Int32)), (.int (24 : Int32))] 5 = mkF m 0 #[.val (.ref b11a), .val (.int (0 : Int32)), .val (.int (24 : Int32)), .unset, .unset] [] := by first | (simp [entryFrame, mkF, argsToLocals, Value.category]; done) | rfl
def Q30a220 (Z : State) (b11a : Addr) (k11b : ClassId) (i177 : Int32) (i178 : Int32) (h0 : Heap) (n0 : Nat) (v : Option Value) (h : Heap) (L : List Loc) : Prop := ∃ (b186 : Addr) (k186 : ClassId), v = some (.ref b186) ∧ Fr n0 L ∧ Keep h0 h [] ∧ n0 ≤ b186 ∧ h0.size ≤ b186 ∧ Arv Z h b186 k186 .byte (24 : Int32) [(.int (101 : Int32)), (.int (120 : Int32)), (.int (112 : Int32)), (.int (101 : Int32)), (.int (99 : Int32)), (.int (116 : Int32)), (.int (101 : Int32)), (.int (100 : Int32)), (.int (32 : Int32)), (.int (98 : Int32)), (.int (101 : Int32)), (.int (116 : Int32)), (.int (119 : Int32)), (.int (101 : Int32)), (.int (101 : Int32)), (.int (110 : Int32)), (.int (32 : Int32)), (.int i177), (.int (32 : Int32)), (.int (97 : Int32)), (.int (110 : Int32)), (.int (100 : Int32)), (.int (32 : Int32)), (.int i178)] (.int (0 : Int32)) ∧ Exa Z h b186 "[B"
set_option maxRecDepth 65536 in
set_option maxHeartbeats 40000000 in
theorem rm30a220 (l : Launch) (Z : State) (a0 : Array Value) (hw : ∀ d ∈ tables_1, d.before a0 Z = true) (ws : List Jvm.Cond) (b11a : Addr) (k11b : ClassId) (i177 : Int32) (i178 : Int32) (h0 : Heap) (n0 : Nat) (Z0 : n0 ≤ h0.size) (PV19 : Arv Z h0 b11a k11b .byte (34 : Int32) [(.int (101 : Int32)), (.int (120 : Int32)), (.int (112 : Int32)), (.int (101 : Int32)), (.int (99 : Int32)), (.int (116 : Int32)), (.int (101 : Int32)), (.int (100 : Int32)), (.int (32 : Int32)), (.int (98 : Int32)), (.int (101 : Int32)), (.int (116 : Int32)), (.int (119 : Int32)), (.int (101 : Int32)), (.int (101 : Int32)), (.int (110 : Int32)), (.int (32 : Int32)), (.int i177), (.int (32 : Int32)), (.int (97 : Int32)), (.int (110 : Int32)), (.int (100 : Int32)), (.int (32 : Int32)), (.int i178), (.int (0 : Int32)), (.int (0 : Int32)), (.int (0 : Int32)), (.int (0 : Int32)), (.int (0 : Int32)), (.int (0 : Int32)), (.int (0 : Int32)), (.int (0 : Int32)), (.int (0 : Int32)), (.int (0 : Int32))] (.int (0 : Int32))) :
    own_Met l mn25 jdk_65_method_133_code 5 (some (.array .byte)) ws (oRm 1 1 24 18) #[(.ref b11a), (.int (0 : Int32)), (.int (24 : Int32))] Z h0 (Q30a220 Z b11a k11b i177 i178 h0 n0) := by
  refine own_met (own := "java/util/Arrays") rfl (plainFor_of_name pn_11) ?_
  intro p e s m below meth c s₁ hx hby hml hZ hown hnm X0 e0 Br Bs
  have N0 := Fr.nil n0
  have tt := own_tt hx hby own_ok30
  rw [ef_rm30a220 m b11a]
  refine own_go (T' := s₁) (f' := (mkF m 2 #[oR b11a, oI 0, oI 24, oU, oU] [vI 24, vI 0])) (fun _ k => own_e X0 tt 0 2 k rfl) ?_
  obtain ⟨_, T185, Lc185, X185, hQ185, st185⟩ := own_outC (Jvm.LawKit.callS X0 hx (y := mn24) hown (mvT hZ (ow168 hw)) (mvT hZ (ow169 hw)) (mvT hZ (ow87 hw)) (mvT hZ (ow170 hw)) (by decide) (backOf (W := 0) (rm31a85 l Z a0 hw [] (24 : Int32) h0 n0 Z0 (by decide : ¬ ((24 : Int32) < (0 : Int32)))) hZ (ow170 hw) (ow87 hw) (by decide) (by decide)) (g := (mkF m 2 #[oR b11a, oI 0, oI 24, oU, oU] [vI 24, vI 0])) rfl (by rw [hml]; rfl) (argsL := [(.int (0 : Int32)), (.int (24 : Int32))]) (rest := []) (lenOf pd14 rfl) rfl (by show 2 * 0 + _ ≤ _; exact Nat.le_of_eq rfl) (hb hby d30_2) (fun _ _ => ⟨rfl, e0, (by decide : 0 + 0 ≤ _), (by decide : 0 + 0 ≤ _)⟩))
  obtain ⟨rfl, N185q, hh185⟩ := hQ185
  have N185 := Fr.app N0 N185q
  obtain ⟨_, X185, N185⟩ := own_hide X185 N185
  refine own_go (T' := T185) (f' := (mkF m 10 #[oR b11a, oI 0, oI 24, oI 24, oU] [vI 24])) (fun _ k => st185 _ (own_e X185 tt 5 5 k rfl)) ?_
  obtain ⟨T186, h186, k186, X186, e186, E186, A186, EA186, st186⟩ := newPE (aty := .byte) X185 hx hZ (ow32 hw) hh185 (g := (mkF m 10 #[oR b11a, oI 0, oI 24, oI 24, oU] [vI 24])) rfl (hb hby d30_10) rfl (by decide) (cap := 24) (by decide) (by decide) (by decide) (by decide) (ad := "[B") (by decide +kernel)
  obtain ⟨b186, g_b186⟩ : ∃ z, z = h0.size := ⟨_, rfl⟩
  have sg_b186 : h0.size ≤ b186 := Nat.le_of_eq g_b186.symm
  rw [← g_b186] at A186 EA186 st186
  have n_b186 : n0 ≤ b186 := Nat.le_trans Z0 (Nat.le_of_eq g_b186.symm)
  have sz_b186 : h0.size ≤ b186 := Nat.le_trans (Keep.refl h0 []).1 (Nat.le_of_eq g_b186.symm)
  have K186 : Keep h0 h186 [] := (Keep.refl h0 []).ext E186
  have V_b186 : Arv Z h186 b186 k186 .byte (24 : Int32) own_ls5 (.int (0 : Int32)) := (Arv.new A186 (by decide)).pad (pad_rep [] (.int (0 : Int32)) 24)
  refine own_go (T' := T186) (f' := (mkF m 24 #[oR b11a, oI 0, oI 24, oI 24, oR b186] [vI 24, vI 34, vI 0, vR b186, vI 0, vR b11a])) (fun _ k => st186 _ (own_r X186 tt 12 6 rfl (own_alen X186 hx hZ e186 (PV19.ext E186) rfl rfl (hb hby d30_20) (own_e X186 tt 21 3 k rfl)))) ?_
  obtain ⟨_, T187, Lc187, X187, hQ187, st187⟩ := own_outC (Jvm.LawKit.callS X186 hx (y := mn0) hown (mvT hZ (ow89 hw)) (mvT hZ (ow2 hw)) (mvT hZ (ow3 hw)) (mvT hZ (ow4 hw)) (by decide) (backOf (W := 4) (rm1a155 l Z a0 hw [] (24 : Int32) h186 n0 (Nat.le_trans Z0 E186.1) (by decide : ((24 : Int32) < (34 : Int32)))) hZ (ow4 hw) (ow3 hw) (by decide) (by decide)) (g := (mkF m 24 #[oR b11a, oI 0, oI 24, oI 24, oR b186] [vI 24, vI 34, vI 0, vR b186, vI 0, vR b11a])) rfl (by rw [hml]; rfl) (argsL := [(.int (34 : Int32)), (.int (24 : Int32))]) (rest := [(.int (0 : Int32)), (.ref b186), (.int (0 : Int32)), (.ref b11a)]) (lenOf pd12 rfl) rfl (by show 2 * 0 + _ ≤ _; exact Nat.le_of_eq rfl) (hb hby d30_24) (fun _ _ => ⟨rfl, e186, (by decide : 1 + 0 ≤ _), (by decide : 24 + 0 ≤ _)⟩))
  obtain ⟨rfl, N187q, hh187⟩ := hQ187
  have N187 := Fr.app N185 N187q
  obtain ⟨_, X187, N187⟩ := own_hide X187 N187
  refine own_go (T' := T187) (f' := (mkF m 27 #[oR b11a, oI 0, oI 24, oI 24, oR b186] [vI 24, vI 0, vR b186, vI 0, vR b11a])) (fun _ k => st187 _ k) ?_
  obtain ⟨T188, h188, Lq188, X188, e188, N188, K188, V188, st188⟩ := cpA X187 hx hZ hown (ow90 hw) (ow93 hw) (ow91 hw) (ow92 hw) hh187 (PV19.ext E186) V_b186 (Or.inl ⟨rfl, rfl⟩) (sp := (0 : Int32)) (dp := (0 : Int32)) (nn := (24 : Int32)) (by decide) (by decide) (by decide) (by decide) (by decide) (us := [(.int (101 : Int32)), (.int (120 : Int32)), (.int (112 : Int32)), (.int (101 : Int32)), (.int (99 : Int32)), (.int (116 : Int32)), (.int (101 : Int32)), (.int (100 : Int32)), (.int (32 : Int32)), (.int (98 : Int32)), (.int (101 : Int32)), (.int (116 : Int32)), (.int (119 : Int32)), (.int (101 : Int32)), (.int (101 : Int32)), (.int (110 : Int32)), (.int (32 : Int32)), (.int i177), (.int (32 : Int32)), (.int (97 : Int32)), (.int (110 : Int32)), (.int (100 : Int32)), (.int (32 : Int32)), (.int i178)]) rfl (Nat.le_of_ble_eq_true rfl) N187 n_b186 (g := (mkF m 27 #[oR b11a, oI 0, oI 24, oI 24, oR b186] [vI 24, vI 0, vR b186, vI 0, vR b11a])) rfl (by rw [hml]; rfl) rfl (hb hby d30_27) (by decide) (W := 0) (by show 2 * 0 + _ ≤ _; exact Nat.le_of_eq rfl) (by decide)
  have V188s : Arv Z h188 b186 k186 .byte (24 : Int32) [(.int (101 : Int32)), (.int (120 : Int32)), (.int (112 : Int32)), (.int (101 : Int32)), (.int (99 : Int32)), (.int (116 : Int32)), (.int (101 : Int32)), (.int (100 : Int32)), (.int (32 : Int32)), (.int (98 : Int32)), (.int (101 : Int32)), (.int (116 : Int32)), (.int (119 : Int32)), (.int (101 : Int32)), (.int (101 : Int32)), (.int (110 : Int32)), (.int (32 : Int32)), (.int i177), (.int (32 : Int32)), (.int (97 : Int32)), (.int (110 : Int32)), (.int (100 : Int32)), (.int (32 : Int32)), (.int i178)] (.int (0 : Int32)) := V188
  have KK188 : Keep h0 h188 [] := Keep.trans K186 K188 (allS (Or.inr sz_b186) all0)
  refine own_go (T' := T188) (f' := (mkF m 32 #[oR b11a, oI 0, oI 24, oI 24, oR b186] [vR b186])) (fun _ k => st188 _ (own_e X188 tt 30 1 k rfl)) ?_
  refine own_ret X188 (v := some (.ref b186)) (fun h => by rw [Br] at h; cases h) Bs (fun fs hr => own_retA X188 hx Br rfl rfl (hb hby d30_32) hr) ?_ (by decide) (by decide)
  show Q30a220 Z b11a k11b i177 i178 h0 n0 _ T188.heap _
  rw [e188]
  exact ⟨b186, k186, rfl, N188, KK188, n_b186, sz_b186, V188s, (EA186.keep K188)⟩
theorem ef_rm29a219 (m : MethodId) (b11a : Addr) : entryFrame m #[(.ref b11a), (.int (0 : Int32)), (.int (24 : Int32))] 3 = mkF m 0 #[.val (.ref b11a), .val (.int (0 : Int32)), .val (.int (24 : Int32))] [] := by first | (simp [entryFrame, mkF, argsToLocals, Value.category]; done) | rfl
def Q29a219 (Z : State) (b11a : Addr) (k11b : ClassId) (i177 : Int32) (i178 : Int32) (h0 : Heap) (n0 : Nat) (v : Option Value) (h : Heap) (L : List Loc) : Prop := ∃ (b189a : Addr) (k189b : ClassId), v = some (.ref b189a) ∧ Fr n0 L ∧ Keep h0 h [] ∧ n0 ≤ b189a ∧ h0.size ≤ b189a ∧ Arv Z h b189a k189b .byte (24 : Int32) [(.int (101 : Int32)), (.int (120 : Int32)), (.int (112 : Int32)), (.int (101 : Int32)), (.int (99 : Int32)), (.int (116 : Int32)), (.int (101 : Int32)), (.int (100 : Int32)), (.int (32 : Int32)), (.int (98 : Int32)), (.int (101 : Int32)), (.int (116 : Int32)), (.int (119 : Int32)), (.int (101 : Int32)), (.int (101 : Int32)), (.int (110 : Int32)), (.int (32 : Int32)), (.int i177), (.int (32 : Int32)), (.int (97 : Int32)), (.int (110 : Int32)), (.int (100 : Int32)), (.int (32 : Int32)), (.int i178)] (.int (0 : Int32)) ∧ Exa Z h b189a "[B"
set_option maxRecDepth 65536 in
set_option maxHeartbeats 40000000 in
theorem rm29a219 (l : Launch) (Z : State) (a0 : Array Value) (hw : ∀ d ∈ tables_1, d.before a0 Z = true) (ws : List Jvm.Cond) (b11a : Addr) (k11b : ClassId) (i177 : Int32) (i178 : Int32) (h0 : Heap) (n0 : Nat) (Z0 : n0 ≤ h0.size) (PV19 : Arv Z h0 b11a k11b .byte (34 : Int32) [(.int (101 : Int32)), (.int (120 : Int32)), (.int (112 : Int32)), (.int (101 : Int32)), (.int (99 : Int32)), (.int (116 : Int32)), (.int (101 : Int32)), (.int (100 : Int32)), (.int (32 : Int32)), (.int (98 : Int32)), (.int (101 : Int32)), (.int (116 : Int32)), (.int (119 : Int32)), (.int (101 : Int32)), (.int (101 : Int32)), (.int (110 : Int32)), (.int (32 : Int32)), (.int i177), (.int (32 : Int32)), (.int (97 : Int32)), (.int (110 : Int32)), (.int (100 : Int32)), (.int (32 : Int32)), (.int i178), (.int (0 : Int32)), (.int (0 : Int32)), (.int (0 : Int32)), (.int (0 : Int32)), (.int (0 : Int32)), (.int (0 : Int32)), (.int (0 : Int32)), (.int (0 : Int32)), (.int (0 : Int32)), (.int (0 : Int32))] (.int (0 : Int32))) :
    own_Met l mn26 jdk_65_method_132_code 3 (some (.array .byte)) ws (oRm 2 1 24 34) #[(.ref b11a), (.int (0 : Int32)), (.int (24 : Int32))] Z h0 (Q29a219 Z b11a k11b i177 i178 h0 n0) := by
  refine own_met (own := "java/util/Arrays") rfl (plainFor_of_name pn_11) ?_
  intro p e s m below meth c s₁ hx hby hml hZ hown hnm X0 e0 Br Bs
  have N0 := Fr.nil n0
  have tt := own_tt hx hby own_ok29
  rw [ef_rm29a219 m b11a]
  refine own_go (T' := s₁) (f' := (mkF m 13 #[oR b11a, oI 0, oI 24] [vI 24, vI 0, vR b11a])) (fun _ k => own_r X0 tt 0 4 rfl (own_alen X0 hx hZ e0 PV19 rfl rfl (hb hby d29_6) (own_e X0 tt 7 4 k rfl))) ?_
  obtain ⟨_, T189, Lc189, X189, hQ189, st189⟩ := own_outC (Jvm.LawKit.callS X0 hx (y := mn25) hown (mvT hZ (ow165 hw)) (mvT hZ (ow166 hw)) (mvT hZ (ow87 hw)) (mvT hZ (ow167 hw)) (by decide) (backOf (W := 0) (rm30a220 l Z a0 hw [] b11a k11b i177 i178 h0 n0 Z0 PV19) hZ (ow167 hw) (ow87 hw) (by decide) (by decide)) (g := (mkF m 13 #[oR b11a, oI 0, oI 24] [vI 24, vI 0, vR b11a])) rfl (by rw [hml]; rfl) (argsL := [(.ref b11a), (.int (0 : Int32)), (.int (24 : Int32))]) (rest := []) (lenOf pd29 rfl) rfl (by show 2 * 0 + _ ≤ _; exact Nat.le_of_eq rfl) (hb hby d29_13) (fun _ _ => ⟨rfl, e0, (by decide : 0 + 1 ≤ _), (by decide : 0 + 24 ≤ _)⟩))
  obtain ⟨b189a, k189b, rfl, N189q, K189, n_b189a, sg_b189a, g189_0, g189_1⟩ := hQ189
  have N189 := Fr.app N0 N189q
  have sz_b189a : h0.size ≤ b189a := Nat.le_trans (Keep.refl h0 []).1 sg_b189a
  have eK189 : T189.heap = T189.heap := rfl
  have KK189 : Keep h0 T189.heap [] := Keep.trans (Keep.refl h0 []) K189 all0
  obtain ⟨_, X189, N189⟩ := own_hide X189 N189
  refine own_go (T' := T189) (f' := (mkF m 16 #[oR b11a, oI 0, oI 24] [vR b189a])) (fun _ k => st189 _ k) ?_
  refine own_ret X189 (v := some (.ref b189a)) (fun h => by rw [Br] at h; cases h) Bs (fun fs hr => own_retA X189 hx Br rfl rfl (hb hby d29_16) hr) ?_ (by decide) (by decide)
  show Q29a219 Z b11a k11b i177 i178 h0 n0 _ T189.heap _
  rw [eK189]
  exact ⟨b189a, k189b, rfl, N189, KK189, n_b189a, sz_b189a, g189_0, g189_1⟩
theorem ef_rm25a218 (m : MethodId) (b179 : Addr) (b2 : Addr) : entryFrame m #[(.ref b179), (.ref b2), .null] 5 = mkF m 0 #[.val (.ref b179), .val (.ref b2), .val .null, .unset, .unset] [] := by first | (simp [entryFrame, mkF, argsToLocals, Value.category]; done) | rfl
def Q25a218 (Z : State) (b179 : Addr) (b2 : Addr) (cs : Int32) (b11a : Addr) (k11b : ClassId) (i177 : Int32) (i178 : Int32) (h0 : Heap) (n0 : Nat) (v : Option Value) (h : Heap) (L : List Loc) : Prop := ∃ (b190a : Addr) (k190b : ClassId), v = none ∧ Fr n0 L ∧ Keep h0 h [b179] ∧ n0 ≤ b190a ∧ h0.size ≤ b190a ∧ Fld Z h b179 "java/lang/String" "value" "[B" (.ref b190a) ∧ Fld Z h b179 "java/lang/String" "coder" "B" (.int (0 : Int32)) ∧ Arv Z h b190a k190b .byte (24 : Int32) [(.int (101 : Int32)), (.int (120 : Int32)), (.int (112 : Int32)), (.int (101 : Int32)), (.int (99 : Int32)), (.int (116 : Int32)), (.int (101 : Int32)), (.int (100 : Int32)), (.int (32 : Int32)), (.int (98 : Int32)), (.int (101 : Int32)), (.int (116 : Int32)), (.int (119 : Int32)), (.int (101 : Int32)), (.int (101 : Int32)), (.int (110 : Int32)), (.int (32 : Int32)), (.int i177), (.int (32 : Int32)), (.int (97 : Int32)), (.int (110 : Int32)), (.int (100 : Int32)), (.int (32 : Int32)), (.int i178)] (.int (0 : Int32)) ∧ Exa Z h b190a "[B"
set_option maxRecDepth 65536 in
set_option maxHeartbeats 40000000 in
theorem rm25a218 (l : Launch) (Z : State) (a0 : Array Value) (hw : ∀ d ∈ tables_1, d.before a0 Z = true) (ws : List Jvm.Cond) (b179 : Addr) (b2 : Addr) (cs : Int32) (b11a : Addr) (k11b : ClassId) (i177 : Int32) (i178 : Int32) (h0 : Heap) (n0 : Nat) (Z0 : n0 ≤ h0.size) (PS0 : Sta Z h0 "java/lang/String" "COMPACT_STRINGS" "Z" (.int cs)) (PE9 : Exa Z h0 b2 "java/lang/StringBuilder") (PF10 : Fld Z h0 b2 "java/lang/AbstractStringBuilder" "value" "[B" (.ref b11a)) (PF11 : Fld Z h0 b2 "java/lang/AbstractStringBuilder" "coder" "B" (.int (0 : Int32))) (PF12 : Fld Z h0 b2 "java/lang/AbstractStringBuilder" "count" "I" (.int (24 : Int32))) (PV19 : Arv Z h0 b11a k11b .byte (34 : Int32) [(.int (101 : Int32)), (.int (120 : Int32)), (.int (112 : Int32)), (.int (101 : Int32)), (.int (99 : Int32)), (.int (116 : Int32)), (.int (101 : Int32)), (.int (100 : Int32)), (.int (32 : Int32)), (.int (98 : Int32)), (.int (101 : Int32)), (.int (116 : Int32)), (.int (119 : Int32)), (.int (101 : Int32)), (.int (101 : Int32)), (.int (110 : Int32)), (.int (32 : Int32)), (.int i177), (.int (32 : Int32)), (.int (97 : Int32)), (.int (110 : Int32)), (.int (100 : Int32)), (.int (32 : Int32)), (.int i178), (.int (0 : Int32)), (.int (0 : Int32)), (.int (0 : Int32)), (.int (0 : Int32)), (.int (0 : Int32)), (.int (0 : Int32)), (.int (0 : Int32)), (.int (0 : Int32)), (.int (0 : Int32)), (.int (0 : Int32))] (.int (0 : Int32))) (PE25 : Exa Z h0 b179 "java/lang/String") (PF26 : Fld Z h0 b179 "java/lang/String" "value" "[B" .null) (PF27 : Fld Z h0 b179 "java/lang/String" "coder" "B" (.int (0 : Int32))) (PP0 : ¬ (cs = (0 : Int32))) (ne_b11a_b179 : b11a ≠ b179) (n_b179 : n0 ≤ b179) :
    own_Met l mn27 jdk_42_method_150_code 5 none ws (oRm 3 1 24 49) #[(.ref b179), (.ref b2), .null] Z h0 (Q25a218 Z b179 b2 cs b11a k11b i177 i178 h0 n0) := by
  refine own_met (own := "java/lang/String") rfl (plainFor_of_name pn_7) ?_
  intro p e s m below meth c s₁ hx hby hml hZ hown hnm X0 e0 Br Bs
  have N0 := Fr.nil n0
  have tt := own_tt hx hby own_ok25
  rw [ef_rm25a218 m b179 b2]
  refine own_go (T' := s₁) (f' := (mkF m 1 #[oR b179, oR b2, .val .null, oU, oU] [vR b179])) (fun _ k => own_e X0 tt 0 1 k rfl) ?_
  obtain ⟨T180, X180, e180, st180⟩ := initO X0 hx hZ hown (ow147 hw) (ow28 hw) (ow29 hw) e0 (g := (mkF m 1 #[oR b179, oR b2, .val .null, oU, oU] [vR b179])) rfl (by rw [hml]; rfl) rfl (hb hby d25_1) (by decide) (W := 0) (by show 2 * 0 + _ ≤ _; exact Nat.le_of_eq rfl) (by decide)
  refine own_go (T' := T180) (f' := (mkF m 5 #[oR b179, oR b2, .val .null, oU, oU] [vR b2])) (fun _ k => st180 _ (own_e X180 tt 4 1 k rfl)) ?_
  obtain ⟨cq181, kq181, q181a, q181b, q181c⟩ := isOf hZ e180 PE9
  obtain ⟨_, T181, Lc181, X181, hQ181, st181⟩ := own_out (X180.virtualBack hx (y := mn21) (z := mn21) hown (mvT hZ (ow148 hw)) (mvT hZ (ow149 hw)) (notFace_of_selects (args := #[]) (mvT hZ (ow151 hw))) (mvT hZ (ow151 hw)) (mvT hZ (ow150 hw)) (by decide) (backOf (W := 0) (rm26a70 l Z a0 hw [] b2 b11a h0 n0 Z0 PF10) hZ (ow152 hw) (ow25 hw) (by decide) (by decide)) q181a q181c (g := (mkF m 5 #[oR b179, oR b2, .val .null, oU, oU] [vR b2])) rfl (by rw [hml]; rfl) (Steps.refl _) (argsL := []) (rest := []) (lenOf pd7 rfl) rfl (by show 2 * 0 + _ ≤ _; exact Nat.le_of_eq rfl) (hb hby d25_5) (fun _ _ => ⟨rfl, e180, (by decide : 0 + 0 ≤ _), (by decide : 0 + 0 ≤ _)⟩))
  obtain ⟨rfl, N181q, hh181⟩ := hQ181
  have N181 := Fr.app N0 N181q
  obtain ⟨_, X181, N181⟩ := own_hide X181 N181
  refine own_go (T' := T181) (f' := (mkF m 10 #[oR b179, oR b2, .val .null, oR b11a, oU] [vR b2])) (fun _ k => st181.trans (own_e X181 tt 8 2 k rfl)) ?_
  obtain ⟨cq182, kq182, q182a, q182b, q182c⟩ := isOf hZ hh181 PE9
  obtain ⟨_, T182, Lc182, X182, hQ182, st182⟩ := own_out (X181.virtualBack hx (y := mn22) (z := mn23) hown (mvT hZ (ow153 hw)) (mvT hZ (ow154 hw)) (own_nf (args := #[]) (y2 := mn11) (mvT hZ (ow71 hw)) rfl) (mvT hZ (ow156 hw)) (mvT hZ (ow157 hw)) (by decide) (backOf (W := 0) (rm27a71 l Z a0 hw [] b2 (24 : Int32) h0 n0 Z0 PE9 PF12) hZ (ow158 hw) (ow17 hw) (by decide) (by decide)) q182a q182c (g := (mkF m 10 #[oR b179, oR b2, .val .null, oR b11a, oU] [vR b2])) rfl (by rw [hml]; rfl) (Steps.refl _) (argsL := []) (rest := []) (lenOf pd1 rfl) rfl (by show 2 * 0 + _ ≤ _; exact Nat.le_of_eq rfl) (hb hby d25_10) (fun _ _ => ⟨rfl, hh181, (by decide : 0 + 0 ≤ _), (by decide : 0 + 0 ≤ _)⟩))
  obtain ⟨rfl, N182q, hh182⟩ := hQ182
  have N182 := Fr.app N181 N182q
  obtain ⟨_, X182, N182⟩ := own_hide X182 N182
  refine own_go (T' := T182) (f' := (mkF m 16 #[oR b179, oR b2, .val .null, oR b11a, oI 24] [vR b2])) (fun _ k => st182.trans (own_e X182 tt 13 2 k rfl)) ?_
  obtain ⟨cq183, kq183, q183a, q183b, q183c⟩ := isOf hZ hh182 PE9
  obtain ⟨_, T183, Lc183, X183, hQ183, st183⟩ := own_out (X182.virtualBack hx (y := mn17) (z := mn17) hown (mvT hZ (ow161 hw)) (mvT hZ (ow125 hw)) (notFace_of_selects (args := #[]) (mvT hZ (ow127 hw))) (mvT hZ (ow127 hw)) (mvT hZ (ow126 hw)) (by decide) (backOf (W := 0) (rm21a22 l Z a0 hw [] b2 cs h0 n0 Z0 PS0 PF11 PP0) hZ (ow128 hw) (ow25 hw) (by decide) (by decide)) q183a q183c (g := (mkF m 16 #[oR b179, oR b2, .val .null, oR b11a, oI 24] [vR b2])) rfl (by rw [hml]; rfl) (Steps.refl _) (argsL := []) (rest := []) (lenOf pd6 rfl) rfl (by show 2 * 0 + _ ≤ _; exact Nat.le_of_eq rfl) (hb hby d25_16) (fun _ _ => ⟨rfl, hh182, (by decide : 0 + 0 ≤ _), (by decide : 0 + 0 ≤ _)⟩))
  obtain ⟨rfl, N183q, hh183⟩ := hQ183
  have N183 := Fr.app N182 N183q
  obtain ⟨_, X183, N183⟩ := own_hide X183 N183
  refine own_go (T' := T183) (f' := (mkF m 24 #[oR b179, oR b2, .val .null, oR b11a, oI 24] [vI 0, vR b179])) (fun _ k => st183.trans (own_e X183 tt 19 3 k rfl)) ?_
  obtain ⟨T184, h184, X184, e184, W184, st184⟩ := putFN X183 hx hZ hown (ow65 hw) Via.refl hh183 PF27 PE25 (Or.inr ⟨(ow40 hw), rfl, hnm⟩) (ow38 hw) (ty := .byte) (v' := (.int (0 : Int32))) (by decide) rfl (fits_nar_byte (0 : Int32)) (g := (mkF m 24 #[oR b179, oR b2, .val .null, oR b11a, oI 24] [vI 0, vR b179])) rfl rfl (hb hby d25_24)
  have Fw184 := Fld.same W184 PF27
  have K184 : Keep h0 h184 [b179] := (Keep.refl h0 [b179]).wr W184 (Or.inl (List.mem_of_getElem? (i := 0) rfl))
  have N184 := Fr.snoc X184 N183 n_b179
  refine own_go (T' := T184) (f' := (mkF m 32 #[oR b179, oR b2, .val .null, oR b11a, oI 24] [vI 24, vI 0, vR b11a, vR b179])) (fun _ k => st184 _ (own_e X184 tt 27 4 k rfl)) ?_
  obtain ⟨_, T190, Lc190, X190, hQ190, st190⟩ := own_outC (Jvm.LawKit.callS X184 hx (y := mn26) hown (mvT hZ (ow162 hw)) (mvT hZ (ow163 hw)) (mvT hZ (ow87 hw)) (mvT hZ (ow164 hw)) (by decide) (backOf (W := 1) (rm29a219 l Z a0 hw [] b11a k11b i177 i178 h184 n0 (Nat.le_trans Z0 (Keep.of_wr W184).1) (PV19.other W184 ne_b11a_b179)) hZ (ow164 hw) (ow87 hw) (by decide) (by decide)) (g := (mkF m 32 #[oR b179, oR b2, .val .null, oR b11a, oI 24] [vI 24, vI 0, vR b11a, vR b179])) rfl (by rw [hml]; rfl) (argsL := [(.ref b11a), (.int (0 : Int32)), (.int (24 : Int32))]) (rest := [(.ref b179)]) (lenOf pd29 rfl) rfl (by show 2 * 0 + _ ≤ _; exact Nat.le_of_eq rfl) (hb hby d25_32) (fun _ _ => ⟨rfl, e184, (by decide : 0 + 1 ≤ _), (by decide : 0 + 24 ≤ _)⟩))
  obtain ⟨b190a, k190b, rfl, N190q, K190, n_b190a, sg_b190a, g190_0, g190_1⟩ := hQ190
  have N190 := Fr.app N184 N190q
  have sz_b190a : h0.size ≤ b190a := Nat.le_trans K184.1 sg_b190a
  have eK190 : T190.heap = T190.heap := rfl
  have KK190 : Keep h0 T190.heap [b179] := Keep.trans K184 K190 all0
  obtain ⟨_, X190, N190⟩ := own_hide X190 N190
  refine own_go (T' := T190) (f' := (mkF m 35 #[oR b179, oR b2, .val .null, oR b11a, oI 24] [vR b190a, vR b179])) (fun _ k => st190 _ k) ?_
  have G191 := ((PF26.other W184 (Or.inr (slot_ne (Or.inr (ow39 hw)) (Or.inr (ow40 hw)) (by decide) (t := (.array .byte)) (t' := .byte) (by decide) (by decide)))).keep K190 nin0)
  obtain ⟨T192, h192, X192, e192, W192, st192⟩ := putF X190 hx hZ hown (host := "") (Or.inl (ow58 hw)) Via.refl eK190 G191 ((PE25.wr W184).keep K190) (Or.inr ⟨(ow39 hw), rfl, hnm⟩) (ow38 hw) (ty := (.array .byte)) (by decide) rfl rfl (g := (mkF m 35 #[oR b179, oR b2, .val .null, oR b11a, oI 24] [vR b190a, vR b179])) rfl rfl (hb hby d25_35)
  have Fw192 := Fld.same W192 G191
  have K192 : Keep h0 h192 [b179] := KK190.wr W192 (Or.inl (List.mem_of_getElem? (i := 0) rfl))
  have N192 := Fr.snoc X192 N190 n_b179
  refine own_go (T' := T192) (f' := (mkF m 97 #[oR b179, oR b2, .val .null, oR b11a, oI 24] [])) (fun _ k => st192 _ (own_e X192 tt 38 1 k rfl)) ?_
  refine own_ret X192 (v := none) (fun _ => rfl) Bs (fun fs hr => X192.returnOut hx Br (hb hby d25_97) hr) ?_ (by decide) (by decide)
  show Q25a218 Z b179 b2 cs b11a k11b i177 i178 h0 n0 _ T192.heap _
  have G193 := ((Fw184.keep K190 nin0).other W192 (Or.inr (slot_ne (Or.inr (ow40 hw)) (Or.inr (ow39 hw)) (by decide) (t := .byte) (t' := (.array .byte)) (by decide) (by decide))))
  have q194 : b190a ≠ b179 := (Ne.symm (Nat.ne_of_lt (Nat.lt_of_lt_of_le PE25.lt sz_b190a)))
  rw [e192]
  exact ⟨b190a, k190b, rfl, N192, K192, n_b190a, sz_b190a, Fw192, G193, (g190_0.other W192 q194), (g190_1.wr W192)⟩
theorem ef_rm24a217 (m : MethodId) (b179 : Addr) (b2 : Addr) : entryFrame m #[(.ref b179), (.ref b2)] 2 = mkF m 0 #[.val (.ref b179), .val (.ref b2)] [] := by first | (simp [entryFrame, mkF, argsToLocals, Value.category]; done) | rfl
def Q24a217 (Z : State) (b179 : Addr) (b2 : Addr) (cs : Int32) (b11a : Addr) (k11b : ClassId) (i177 : Int32) (i178 : Int32) (h0 : Heap) (n0 : Nat) (v : Option Value) (h : Heap) (L : List Loc) : Prop := ∃ (b195a : Addr) (k195b : ClassId), v = none ∧ Fr n0 L ∧ Keep h0 h [b179] ∧ n0 ≤ b195a ∧ h0.size ≤ b195a ∧ Fld Z h b179 "java/lang/String" "value" "[B" (.ref b195a) ∧ Fld Z h b179 "java/lang/String" "coder" "B" (.int (0 : Int32)) ∧ Arv Z h b195a k195b .byte (24 : Int32) [(.int (101 : Int32)), (.int (120 : Int32)), (.int (112 : Int32)), (.int (101 : Int32)), (.int (99 : Int32)), (.int (116 : Int32)), (.int (101 : Int32)), (.int (100 : Int32)), (.int (32 : Int32)), (.int (98 : Int32)), (.int (101 : Int32)), (.int (116 : Int32)), (.int (119 : Int32)), (.int (101 : Int32)), (.int (101 : Int32)), (.int (110 : Int32)), (.int (32 : Int32)), (.int i177), (.int (32 : Int32)), (.int (97 : Int32)), (.int (110 : Int32)), (.int (100 : Int32)), (.int (32 : Int32)), (.int i178)] (.int (0 : Int32)) ∧ Exa Z h b195a "[B"
set_option maxRecDepth 65536 in
set_option maxHeartbeats 40000000 in
theorem rm24a217 (l : Launch) (Z : State) (a0 : Array Value) (hw : ∀ d ∈ tables_1, d.before a0 Z = true) (ws : List Jvm.Cond) (b179 : Addr) (b2 : Addr) (cs : Int32) (b11a : Addr) (k11b : ClassId) (i177 : Int32) (i178 : Int32) (h0 : Heap) (n0 : Nat) (Z0 : n0 ≤ h0.size) (PS0 : Sta Z h0 "java/lang/String" "COMPACT_STRINGS" "Z" (.int cs)) (PE9 : Exa Z h0 b2 "java/lang/StringBuilder") (PF10 : Fld Z h0 b2 "java/lang/AbstractStringBuilder" "value" "[B" (.ref b11a)) (PF11 : Fld Z h0 b2 "java/lang/AbstractStringBuilder" "coder" "B" (.int (0 : Int32))) (PF12 : Fld Z h0 b2 "java/lang/AbstractStringBuilder" "count" "I" (.int (24 : Int32))) (PV19 : Arv Z h0 b11a k11b .byte (34 : Int32) [(.int (101 : Int32)), (.int (120 : Int32)), (.int (112 : Int32)), (.int (101 : Int32)), (.int (99 : Int32)), (.int (116 : Int32)), (.int (101 : Int32)), (.int (100 : Int32)), (.int (32 : Int32)), (.int (98 : Int32)), (.int (101 : Int32)), (.int (116 : Int32)), (.int (119 : Int32)), (.int (101 : Int32)), (.int (101 : Int32)), (.int (110 : Int32)), (.int (32 : Int32)), (.int i177), (.int (32 : Int32)), (.int (97 : Int32)), (.int (110 : Int32)), (.int (100 : Int32)), (.int (32 : Int32)), (.int i178), (.int (0 : Int32)), (.int (0 : Int32)), (.int (0 : Int32)), (.int (0 : Int32)), (.int (0 : Int32)), (.int (0 : Int32)), (.int (0 : Int32)), (.int (0 : Int32)), (.int (0 : Int32)), (.int (0 : Int32))] (.int (0 : Int32))) (PE25 : Exa Z h0 b179 "java/lang/String") (PF26 : Fld Z h0 b179 "java/lang/String" "value" "[B" .null) (PF27 : Fld Z h0 b179 "java/lang/String" "coder" "B" (.int (0 : Int32))) (PP0 : ¬ (cs = (0 : Int32))) (ne_b11a_b179 : b11a ≠ b179) (n_b179 : n0 ≤ b179) :
    own_Met l mn28 jdk_42_method_53_code 2 none ws (oRm 4 1 24 65) #[(.ref b179), (.ref b2)] Z h0 (Q24a217 Z b179 b2 cs b11a k11b i177 i178 h0 n0) := by
  refine own_met (own := "java/lang/String") rfl (plainFor_of_name pn_7) ?_
  intro p e s m below meth c s₁ hx hby hml hZ hown hnm X0 e0 Br Bs
  have N0 := Fr.nil n0
  have tt := own_tt hx hby own_ok24
  rw [ef_rm24a217 m b179 b2]
  refine own_go (T' := s₁) (f' := (mkF m 3 #[oR b179, oR b2] [.null, vR b2, vR b179])) (fun _ k => own_e X0 tt 0 3 k rfl) ?_
  obtain ⟨_, T195, Lc195, X195, hQ195, st195⟩ := own_out (X0.specialBack hx (y := mn27) rfl hown (mvT hZ (ow144 hw)) (mvT hZ (ow145 hw)) (mvT hZ (ow146 hw)) (by decide) (backOf (W := 0) (rm25a218 l Z a0 hw [] b179 b2 cs b11a k11b i177 i178 h0 n0 Z0 PS0 PE9 PF10 PF11 PF12 PV19 PE25 PF26 PF27 PP0 ne_b11a_b179 n_b179) hZ (ow146 hw) (ow31 hw) (by decide) (by decide)) (g := (mkF m 3 #[oR b179, oR b2] [.null, vR b2, vR b179])) rfl (by rw [hml]; rfl) (Steps.refl _) (a := b179) (argsL := [(.ref b2), .null]) (rest := []) (lenOf pd19 rfl) rfl (by show 2 * 0 + _ ≤ _; exact Nat.le_of_eq rfl) (hb hby d24_3) (fun _ _ => ⟨rfl, e0, (by decide : 0 + 1 ≤ _), (by decide : 0 + 24 ≤ _)⟩))
  obtain ⟨b195a, k195b, rfl, N195q, K195, n_b195a, sg_b195a, g195_0, g195_1, g195_2, g195_3⟩ := hQ195
  have N195 := Fr.app N0 N195q
  have sz_b195a : h0.size ≤ b195a := Nat.le_trans (Keep.refl h0 [b179]).1 sg_b195a
  have eK195 : T195.heap = T195.heap := rfl
  have KK195 : Keep h0 T195.heap [b179] := Keep.trans (Keep.refl h0 [b179]) K195 (allS (Or.inl (List.mem_of_getElem? (i := 0) rfl)) all0)
  obtain ⟨_, X195, N195⟩ := own_hide X195 N195
  refine own_go (T' := T195) (f' := (mkF m 6 #[oR b179, oR b2] [])) (fun _ k => st195.trans k) ?_
  refine own_ret X195 (v := none) (fun _ => rfl) Bs (fun fs hr => X195.returnOut hx Br (hb hby d24_6) hr) ?_ (by decide) (by decide)
  show Q24a217 Z b179 b2 cs b11a k11b i177 i178 h0 n0 _ T195.heap _
  rw [eK195]
  exact ⟨b195a, k195b, rfl, N195, KK195, n_b195a, sz_b195a, g195_0, g195_1, g195_2, g195_3⟩
theorem ef_rm23a216 (m : MethodId) (b2 : Addr) : entryFrame m #[(.ref b2)] 1 = mkF m 0 #[.val (.ref b2)] [] := by first | (simp [entryFrame, mkF, argsToLocals, Value.category]; done) | rfl
def Q23a216 (Z : State) (b2 : Addr) (cs : Int32) (b11a : Addr) (k11b : ClassId) (i177 : Int32) (i178 : Int32) (h0 : Heap) (n0 : Nat) (v : Option Value) (h : Heap) (L : List Loc) : Prop := ∃ (b179 : Addr) (b197a : Addr) (k197b : ClassId), v = some (.ref b179) ∧ Fr n0 L ∧ Keep h0 h [] ∧ n0 ≤ b179 ∧ h0.size ≤ b179 ∧ n0 ≤ b197a ∧ h0.size ≤ b197a ∧ b197a ≠ b179 ∧ Exa Z h b179 "java/lang/String" ∧ Fld Z h b179 "java/lang/String" "value" "[B" (.ref b197a) ∧ Fld Z h b179 "java/lang/String" "coder" "B" (.int (0 : Int32)) ∧ Arv Z h b197a k197b .byte (24 : Int32) [(.int (101 : Int32)), (.int (120 : Int32)), (.int (112 : Int32)), (.int (101 : Int32)), (.int (99 : Int32)), (.int (116 : Int32)), (.int (101 : Int32)), (.int (100 : Int32)), (.int (32 : Int32)), (.int (98 : Int32)), (.int (101 : Int32)), (.int (116 : Int32)), (.int (119 : Int32)), (.int (101 : Int32)), (.int (101 : Int32)), (.int (110 : Int32)), (.int (32 : Int32)), (.int i177), (.int (32 : Int32)), (.int (97 : Int32)), (.int (110 : Int32)), (.int (100 : Int32)), (.int (32 : Int32)), (.int i178)] (.int (0 : Int32)) ∧ Exa Z h b197a "[B"
set_option maxRecDepth 65536 in
set_option maxHeartbeats 40000000 in
theorem rm23a216 (l : Launch) (Z : State) (a0 : Array Value) (hw : ∀ d ∈ tables_1, d.before a0 Z = true) (ws : List Jvm.Cond) (b2 : Addr) (cs : Int32) (b11a : Addr) (k11b : ClassId) (i177 : Int32) (i178 : Int32) (h0 : Heap) (n0 : Nat) (Z0 : n0 ≤ h0.size) (PS0 : Sta Z h0 "java/lang/String" "COMPACT_STRINGS" "Z" (.int cs)) (PE9 : Exa Z h0 b2 "java/lang/StringBuilder") (PF10 : Fld Z h0 b2 "java/lang/AbstractStringBuilder" "value" "[B" (.ref b11a)) (PF11 : Fld Z h0 b2 "java/lang/AbstractStringBuilder" "coder" "B" (.int (0 : Int32))) (PF12 : Fld Z h0 b2 "java/lang/AbstractStringBuilder" "count" "I" (.int (24 : Int32))) (PV19 : Arv Z h0 b11a k11b .byte (34 : Int32) [(.int (101 : Int32)), (.int (120 : Int32)), (.int (112 : Int32)), (.int (101 : Int32)), (.int (99 : Int32)), (.int (116 : Int32)), (.int (101 : Int32)), (.int (100 : Int32)), (.int (32 : Int32)), (.int (98 : Int32)), (.int (101 : Int32)), (.int (116 : Int32)), (.int (119 : Int32)), (.int (101 : Int32)), (.int (101 : Int32)), (.int (110 : Int32)), (.int (32 : Int32)), (.int i177), (.int (32 : Int32)), (.int (97 : Int32)), (.int (110 : Int32)), (.int (100 : Int32)), (.int (32 : Int32)), (.int i178), (.int (0 : Int32)), (.int (0 : Int32)), (.int (0 : Int32)), (.int (0 : Int32)), (.int (0 : Int32)), (.int (0 : Int32)), (.int (0 : Int32)), (.int (0 : Int32)), (.int (0 : Int32)), (.int (0 : Int32))] (.int (0 : Int32))) (PP0 : ¬ (cs = (0 : Int32))) :
    own_Met l mn29 jdk_67_method_42_code 1 (some (.object "java/lang/String")) ws (oRm 5 2 28 79) #[(.ref b2)] Z h0 (Q23a216 Z b2 cs b11a k11b i177 i178 h0 n0) := by
  refine own_met (own := "java/lang/StringBuilder") rfl (plainFor_of_name pn_8) ?_
  intro p e s m below meth c s₁ hx hby hml hZ hown hnm X0 e0 Br Bs
  have N0 := Fr.nil n0
  have tt := own_tt hx hby own_ok23
  rw [ef_rm23a216 m b2]
  obtain ⟨T179, h179, X179, e179, E179, A179, D179, -, st179⟩ := newO X0 hx hZ hown (ow139 hw) (ow38 hw) (ow31 hw) e0 (g := (mkF m 0 #[oR b2] [])) rfl (hb hby d23_0) (by decide) (by decide)
  obtain ⟨b179, g_b179⟩ : ∃ z, z = h0.size := ⟨_, rfl⟩
  have sg_b179 : h0.size ≤ b179 := Nat.le_of_eq g_b179.symm
  rw [← g_b179] at A179 D179 st179
  have n_b179 : n0 ≤ b179 := Nat.le_trans Z0 (Nat.le_of_eq g_b179.symm)
  have sz_b179 : h0.size ≤ b179 := Nat.le_trans (Keep.refl h0 []).1 (Nat.le_of_eq g_b179.symm)
  have K179 : Keep h0 h179 [] := (Keep.refl h0 []).ext E179
  have F_value_b179 : Fld Z h179 b179 "java/lang/String" "value" "[B" .null := D179 (Or.inr (ow39 hw)) (ty := (.array .byte)) (by decide)
  have F_coder_b179 : Fld Z h179 b179 "java/lang/String" "coder" "B" (.int (0 : Int32)) := D179 (Or.inr (ow40 hw)) (ty := .byte) (by decide)
  refine own_go (T' := T179) (f' := (mkF m 5 #[oR b2] [vR b2, vR b179, vR b179])) (fun _ k => st179 _ (own_e X179 tt 3 2 k rfl)) ?_
  have q196 : b11a ≠ b179 := (Nat.ne_of_lt (Nat.lt_of_lt_of_le PV19.lt sz_b179))
  obtain ⟨_, T197, Lc197, X197, hQ197, st197⟩ := own_out (X179.specialBack hx (y := mn28) rfl hown (mvT hZ (ow140 hw)) (mvT hZ (ow141 hw)) (mvT hZ (ow143 hw)) (by decide) (backOf (W := 1) (rm24a217 l Z a0 hw [] b179 b2 cs b11a k11b i177 i178 h179 n0 (Nat.le_trans Z0 E179.1) (PS0.ext E179) (PE9.ext E179) (PF10.ext E179) (PF11.ext E179) (PF12.ext E179) (PV19.ext E179) A179 F_value_b179 F_coder_b179 PP0 q196 n_b179) hZ (ow143 hw) (ow31 hw) (by decide) (by decide)) (g := (mkF m 5 #[oR b2] [vR b2, vR b179, vR b179])) rfl (by rw [hml]; rfl) (Steps.refl _) (a := b179) (argsL := [(.ref b2)]) (rest := [(.ref b179)]) (lenOf pd25 rfl) rfl (by show 2 * 0 + _ ≤ _; exact Nat.le_of_eq rfl) (hb hby d23_5) (fun _ _ => ⟨rfl, e179, (by decide : 1 + 1 ≤ _), (by decide : 4 + 24 ≤ _)⟩))
  obtain ⟨b197a, k197b, rfl, N197q, K197, n_b197a, sg_b197a, g197_0, g197_1, g197_2, g197_3⟩ := hQ197
  have N197 := Fr.app N0 N197q
  have sz_b197a : h0.size ≤ b197a := Nat.le_trans K179.1 sg_b197a
  have u198 : b179 < h179.size := A179.lt
  have m199 : h0.size ≤ h179.size := (Nat.le_trans (Nat.le_refl _) E179.1)
  have eK197 : T197.heap = T197.heap := rfl
  have KK197 : Keep h0 T197.heap [] := Keep.trans K179 K197 (allS (Or.inr sz_b179) all0)
  obtain ⟨_, X197, N197⟩ := own_hide X197 N197
  refine own_go (T' := T197) (f' := (mkF m 8 #[oR b2] [vR b179])) (fun _ k => st197.trans k) ?_
  refine own_ret X197 (v := some (.ref b179)) (fun h => by rw [Br] at h; cases h) Bs (fun fs hr => own_retA X197 hx Br rfl rfl (hb hby d23_8) hr) ?_ (by decide) (by decide)
  show Q23a216 Z b2 cs b11a k11b i177 i178 h0 n0 _ T197.heap _
  have q200 : b197a ≠ b179 := (Ne.symm (Nat.ne_of_lt (Nat.lt_of_lt_of_le u198 sg_b197a)))
  rw [eK197]
  exact ⟨b179, b197a, k197b, rfl, N197, KK197, n_b179, sz_b179, n_b197a, sz_b197a, q200, (A179.keep K197), g197_0, g197_1, g197_2, g197_3⟩
theorem ef_rm3s (m : MethodId) (y0 : Int32) (y1 : Int32) : entryFrame m #[(.int y0), (.int y1)] 3 = mkF m 0 #[.val (.int y0), .val (.int y1), .unset] [] := by first | (simp [entryFrame, mkF, argsToLocals, Value.category]; done) | rfl
def Q3s (Z : State) (B : State) (y0 : Int32) (y1 : Int32) (cs : Int32) (wd : Addr) (kd : ClassId) (vd : List Value) (wt : Addr) (kt : ClassId) (vt : List Value) (h0 : Heap) (n0 : Nat) (v : Option Value) (h : Heap) (vm : Vm) (L : List Loc) : Prop := ∃ (c a b : Addr) (k : ClassId), v = some (.ref c) ∧ Fr n0 L ∧ Keep h0 h [] ∧ n0 ≤ c ∧ h0.size ≤ c ∧ Exa Z h c "com/example/tally_of_calls/tallyofcalls/Count" ∧ Fld Z h c "com/example/tally_of_calls/tallyofcalls/Count" "min" "I" (.int y0) ∧ Fld Z h c "com/example/tally_of_calls/tallyofcalls/Count" "max" "J" (.long (y1.toInt64)) ∧ Fld Z h c "com/example/tally_of_calls/tallyofcalls/Count" "phrase" "Ljava/lang/String;" (.ref a) ∧ Exa Z h a "java/lang/String" ∧ Fld Z h a "java/lang/String" "coder" "B" (.int (0 : Int32)) ∧ Fld Z h a "java/lang/String" "value" "[B" (.ref b) ∧ Arv Z h b k .byte (24 : Int32) [(.int (101 : Int32)), (.int (120 : Int32)), (.int (112 : Int32)), (.int (101 : Int32)), (.int (99 : Int32)), (.int (116 : Int32)), (.int (101 : Int32)), (.int (100 : Int32)), (.int (32 : Int32)), (.int (98 : Int32)), (.int (101 : Int32)), (.int (116 : Int32)), (.int (119 : Int32)), (.int (101 : Int32)), (.int (101 : Int32)), (.int (110 : Int32)), (.int (32 : Int32)), (.int (nar .byte ((48 : Int32) + y0))), (.int (32 : Int32)), (.int (97 : Int32)), (.int (110 : Int32)), (.int (100 : Int32)), (.int (32 : Int32)), (.int (nar .byte ((48 : Int32) + y1)))] (.int (0 : Int32))
set_option maxRecDepth 65536 in
set_option maxHeartbeats 40000000 in
theorem rm3s (l : Launch) (Z : State) (a0 : Array Value) (hw : ∀ d ∈ tables_1, d.before a0 Z = true) (ws : List Jvm.Cond) (B : State) (y0 : Int32) (y1 : Int32) (cs : Int32) (wd : Addr) (kd : ClassId) (vd : List Value) (wt : Addr) (kt : ClassId) (vt : List Value) (h0 : Heap) (n0 : Nat) (Z0 : n0 ≤ h0.size) (S_cs : Sta Z h0 "java/lang/String" "COMPACT_STRINGS" "Z" (.int cs)) (hcs : ¬ (cs = (0 : Int32))) (S_do : Sta Z h0 "java/lang/Integer" "DigitOnes" "[B" (.ref wd)) (V_do : Arv Z h0 wd kd .byte (100 : Int32) vd (.int (0 : Int32))) (S_dt : Sta Z h0 "java/lang/Integer" "DigitTens" "[B" (.ref wt)) (V_dt : Arv Z h0 wt kt .byte (100 : Int32) vt (.int (0 : Int32))) (hst : own_SameSt Z) (hd10 : own_D10 vd) (I0 : IB Z B.vm []) (hk0 : ∀ (b : Addr) (cl : Cell), Z.heap[b]? = some cl → h0[b]? = some cl) (hcw : Jvm.Lit.compactW.before a0 Z = true) (hcA : Jvm.Lit.constHeld Z "com/example/tally_of_calls/tallyofcalls/Counts" 65) (hcB : Jvm.Lit.constHeld Z "com/example/tally_of_calls/tallyofcalls/Counts" 67) (hn0 : n0 = h0.size) (hlo : ¬ y0 < (0 : Int32)) (hle : ¬ y1 < y0) (hhi : y1 < (10 : Int32)) :
    MetFree l mn31 (head1 (Jvm.Cond.code mn31 prog_5_method_6_code 3 (some (.object "com/example/tally_of_calls/tallyofcalls/Count")) :: ws) ({ frames := 6, cells := 10, slots := 181, locals := 96 } : Room)) (fun a U => a = #[(.int y0), (.int y1)] ∧ Z.Warmed39 U.vm ∧ B.WarmedH U.vm ∧ U.heap = h0) (fun _ _ _ _ _ => True) (fun _ U o U' => ∃ v L, o = .returned v ∧ Q3s Z B y0 y1 cs wd kd vd wt kt vt h0 n0 v U'.heap U'.vm L ∧ ReturnedEndW U o U' L ({ frames := 6, cells := 10, slots := 181, locals := 96 } : Room).cells ({ frames := 6, cells := 10, slots := 181, locals := 96 } : Room).slots) := by
  refine MetFree.of_bodySF (plainFor_of_name pn_1) hisR ?_
  intro p e s m args below meth c s₁ Bd hml0 hP hK
  obtain ⟨rfl, hZ, hB, hh⟩ := hP
  have hx := Bd.exec
  have hby := Bd.bytes
  have hml : c.maxLocals = 3 := hml0
  have hown : s.vm.findClass "com/example/tally_of_calls/tallyofcalls/Counts" = some m.cls := findClass_of_methodNamed Bd.named
  have hnm := (name_of_methodNamed Bd.named Bd.method).1
  have X0 : Stand p l e ({ frames := 6, cells := 10, slots := 181, locals := 96 } : Room) (s.setVm s.vm) m #[(.int y0), (.int y1)] below meth c s₁ [] 0 0 := Stand.of_body Bd
  have e0 : s₁.heap = h0 := by rw [← hh, Bd.state]; rfl
  have N0 := Fr.nil n0
  have tt := own_tt hx hby own_ok3
  have hS : s.Since s.vm h0.size := (State.WarmedH.refl s).since _
  show own_EndsW p e below s (Q3s Z B y0 y1 cs wd kd vd wt kt vt h0 n0) _ _ s₁ _
  rw [ef_rm3s m y0 y1]
  have I1 := own_ib I0 hB
  have hkeep : ∀ (b : Addr) (cl : Cell), Z.heap[b]? = some cl → s.heap[b]? = some cl := by rw [hh]; exact hk0
  refine own_goW (T' := s₁) (f' := (mkF m 81 #[.val (.int y0), .val (.int y1), oU] [])) (fun _ k => own_r X0 tt 0 1 rfl (XS.ifNo X0.here hx rfl (hb hby d3_1) rfl ((if0 _ _).trans (flt hlo).1) (own_r X0 tt 4 2 rfl (XS.icmpYes X0.here hx rfl (pc0 := 6) (pc' := 81) rfl (hb hby d3_6) rfl (flt hle).2.2.2 (by decide) (by decide) k)))) ?_
  obtain ⟨T1, h1, X1, e1, E1, A1, D1, -, st1⟩ := newO X0 hx hZ hown (ow12 hw) (ow13 hw) (ow14 hw) e0 (g := (mkF m 81 #[.val (.int y0), .val (.int y1), oU] [])) rfl (hb hby d3_81) (by decide) (by decide)
  obtain ⟨b1, g_b1⟩ : ∃ z, z = h0.size := ⟨_, rfl⟩
  have sg_b1 : h0.size ≤ b1 := Nat.le_of_eq g_b1.symm
  rw [← g_b1] at A1 D1 st1
  have n_b1 : n0 ≤ b1 := Nat.le_trans Z0 (Nat.le_of_eq g_b1.symm)
  have sz_b1 : h0.size ≤ b1 := Nat.le_trans (Keep.refl h0 []).1 (Nat.le_of_eq g_b1.symm)
  have K1 : Keep h0 h1 [] := (Keep.refl h0 []).ext E1
  have F_min_b1 : Fld Z h1 b1 "com/example/tally_of_calls/tallyofcalls/Count" "min" "I" (.int (0 : Int32)) := D1 (Or.inr (ow176 hw)) (ty := .int) (by decide)
  have F_max_b1 : Fld Z h1 b1 "com/example/tally_of_calls/tallyofcalls/Count" "max" "J" (.long (0 : Int64)) := D1 (Or.inr (ow178 hw)) (ty := .long) (by decide)
  have F_phrase_b1 : Fld Z h1 b1 "com/example/tally_of_calls/tallyofcalls/Count" "phrase" "Ljava/lang/String;" .null := D1 (Or.inr (ow180 hw)) (ty := (.object "java/lang/String")) (by decide)
  refine own_goW (T' := T1) (f' := (mkF m 88 #[.val (.int y0), .val (.int y1), oU] [(.long (y1.toInt64)), (.int y0), vR b1, vR b1])) (fun _ k => st1 _ (own_e X1 tt 84 4 k rfl)) ?_
  obtain ⟨T2, h2, X2, e2, E2, A2, D2, -, st2⟩ := newO X1 hx hZ hown (ow15 hw) (ow16 hw) (ow17 hw) e1 (g := (mkF m 88 #[.val (.int y0), .val (.int y1), oU] [(.long (y1.toInt64)), (.int y0), vR b1, vR b1])) rfl (hb hby d3_88) (by decide) (by decide)
  obtain ⟨b2, g_b2⟩ : ∃ z, z = h1.size := ⟨_, rfl⟩
  have sg_b2 : h1.size ≤ b2 := Nat.le_of_eq g_b2.symm
  rw [← g_b2] at A2 D2 st2
  have n_b2 : n0 ≤ b2 := Nat.le_trans (Nat.le_trans Z0 E1.1) (Nat.le_of_eq g_b2.symm)
  have sz_b2 : h0.size ≤ b2 := Nat.le_trans K1.1 (Nat.le_of_eq g_b2.symm)
  have u3 : b1 < h1.size := A1.lt
  have m4 : h0.size ≤ h1.size := (Nat.le_trans (Nat.le_refl _) E1.1)
  have K2 : Keep h0 h2 [] := K1.ext E2
  have F_value_b2 : Fld Z h2 b2 "java/lang/AbstractStringBuilder" "value" "[B" .null := D2 (Or.inl (ow34 hw)) (ty := (.array .byte)) (by decide)
  have F_coder_b2 : Fld Z h2 b2 "java/lang/AbstractStringBuilder" "coder" "B" (.int (0 : Int32)) := D2 (Or.inl (ow36 hw)) (ty := .byte) (by decide)
  have F_count_b2 : Fld Z h2 b2 "java/lang/AbstractStringBuilder" "count" "I" (.int (0 : Int32)) := D2 (Or.inl (ow67 hw)) (ty := .int) (by decide)
  refine own_goW (T' := T2) (f' := (mkF m 92 #[.val (.int y0), .val (.int y1), oU] [vR b2, vR b2, (.long (y1.toInt64)), (.int y0), vR b1, vR b1])) (fun _ k => st2 _ (own_e X2 tt 91 1 k rfl)) ?_
  obtain ⟨_, T5, Lc5, X5, hQ5, st5⟩ := own_out (X2.specialBack hx (y := mn5) rfl hown (mvT hZ (ow18 hw)) (mvT hZ (ow19 hw)) (mvT hZ (ow20 hw)) (by decide) (backOf (W := 6) (rm4a1 l Z a0 hw [] b2 cs h2 n0 (Nat.le_trans (Nat.le_trans Z0 E1.1) E2.1) ((S_cs.ext E1).ext E2) A2 F_value_b2 F_coder_b2 F_count_b2 hcs n_b2) hZ (ow20 hw) (ow17 hw) (by decide) (by decide)) (g := (mkF m 92 #[.val (.int y0), .val (.int y1), oU] [vR b2, vR b2, (.long (y1.toInt64)), (.int y0), vR b1, vR b1])) rfl (by rw [hml]; rfl) (Steps.refl _) (a := b2) (argsL := []) (rest := [(.ref b2), (.long (y1.toInt64)), (.int y0), (.ref b1), (.ref b1)]) (lenOf pd5 rfl) rfl (by show 2 * 0 + _ ≤ _; exact Nat.le_of_eq rfl) (hb hby d3_92) (fun _ _ => ⟨rfl, e2, (by decide : 2 + 1 ≤ _), (by decide : 7 + 16 ≤ _)⟩))
  obtain ⟨b5a, k5b, rfl, N5q, K5, n_b5a, sg_b5a, g5_0, g5_1, g5_2, g5_3, g5_4⟩ := hQ5
  have N5 := Fr.app N0 N5q
  have sz_b5a : h0.size ≤ b5a := Nat.le_trans K2.1 sg_b5a
  have u6 : b2 < h2.size := A2.lt
  have m7 : h1.size ≤ h2.size := (Nat.le_trans (Nat.le_refl _) E2.1)
  have eK5 : T5.heap = T5.heap := rfl
  have KK5 : Keep h0 T5.heap [] := Keep.trans K2 K5 (allS (Or.inr sz_b2) all0)
  obtain ⟨_, X5, N5⟩ := own_hide X5 N5
  refine own_goW (T' := T5) (f' := (mkF m 95 #[.val (.int y0), .val (.int y1), oU] [vR b2, (.long (y1.toInt64)), (.int y0), vR b1, vR b1])) (fun _ k => st5.trans k) ?_
  obtain ⟨a8, T8, h8, k1_8, b8, kc8, X8, e8, E8, hS8, hk8, -, -, gE8, gC8, gV8, gA8, -, -, IB8, Lt8, st8⟩ := ldcSVL (Z := Z) (s := (s.setVm s.vm)) (vm0 := s.vm) X5 hx hZ hown (ow37 hw) (own_wS hw) eK5 ((State.WarmedH.refl (s.setVm s.vm)).since 0) (Nat.zero_le _) (by show Fr s.heap.size _; rw [hh, ← hn0]; exact N5) hkeep I1 (by decide) hcA hcw (vs := own_lit0) (z := (17 : Int32)) own_lit0_ok (by decide) own_lit0_len (g := (mkF m 95 #[.val (.int y0), .val (.int y1), oU] [vR b2, (.long (y1.toInt64)), (.int y0), vR b1, vR b1])) rfl (hb hby d3_95) (n := 68) (by decide) (by decide) (by decide) (by decide)
  have hM8 := own_sm hS8 hk8
  obtain ⟨X8, hS, hZ, hown⟩ := rebS hS (Nat.le_trans (Nat.le_trans (Nat.le_trans (Nat.le_refl _) E1.1) E2.1) K5.1) X8 hM8 E8.1 hZ hown
  have K8 : Keep h0 h8 [] := KK5.ext E8
  refine own_goW (T' := T8) (f' := (mkF m 97 #[.val (.int y0), .val (.int y1), oU] [vR a8, vR b2, (.long (y1.toInt64)), (.int y0), vR b1, vR b1])) (fun _ k => st8 _ k) ?_
  have q9 : a8 ≠ b2 := (own_exa_ne gE8 ((A2.keep K5).ext E8) (by decide))
  have q10 : b8 ≠ b2 := (Ne.symm (Exa.neArv ((A2.keep K5).ext E8) gA8 (ow16 hw)))
  obtain ⟨cq11, kq11, q11a, q11b, q11c⟩ := isOf hZ e8 ((A2.keep K5).ext E8)
  obtain ⟨_, T11, Lc11, X11, hQ11, st11⟩ := own_out (X8.virtualBack hx (y := mn16) (z := mn16) hown (mvT hZ (ow43 hw)) (mvT hZ (ow44 hw)) (notFace_of_selects (args := #[]) (mvT hZ (ow46 hw))) (mvT hZ (ow46 hw)) (mvT hZ (ow45 hw)) (by decide) (backOf (W := 5) (rm7a3 l Z a0 hw [] b2 a8 cs b5a k5b b8 kc8 h8 n0 (Nat.le_trans (Nat.le_trans (Nat.le_trans (Nat.le_trans Z0 E1.1) E2.1) K5.1) E8.1) ((own_sta_keep ((S_cs.ext E1).ext E2) K5 (own_wsE A2 own_ws0)).ext E8) ((A2.keep K5).ext E8) (g5_0.ext E8) (g5_1.ext E8) (g5_2.ext E8) (g5_3.ext E8) gE8 gC8 gV8 gA8 hcs q9 q10 n_b2) hZ (ow47 hw) (ow17 hw) (by decide) (by decide)) q11a q11c (g := (mkF m 97 #[.val (.int y0), .val (.int y1), oU] [vR a8, vR b2, (.long (y1.toInt64)), (.int y0), vR b1, vR b1])) rfl (by rw [hml]; rfl) (Steps.refl _) (argsL := [(.ref a8)]) (rest := [(.long (y1.toInt64)), (.int y0), (.ref b1), (.ref b1)]) (lenOf pd23 rfl) rfl (by show 2 * 0 + _ ≤ _; exact Nat.le_of_eq rfl) (hb hby d3_97) (fun _ _ => ⟨rfl, e8, (by decide : 5 + 1 ≤ _), (by decide : 95 + 34 ≤ _)⟩))
  obtain ⟨b11a, k11b, rfl, N11q, K11, n_b11a, sg_b11a, g11_0, g11_1, g11_2, g11_3, g11_4⟩ := hQ11
  have N11 := Fr.app N5 N11q
  have sz_b11a : h0.size ≤ b11a := Nat.le_trans K8.1 sg_b11a
  have u12 : b5a < h8.size := (Nat.lt_of_lt_of_le g5_3.lt E8.1)
  have m13 : h2.size ≤ h8.size := (Nat.le_trans (Nat.le_trans (Nat.le_refl _) K5.1) E8.1)
  have eK11 : T11.heap = T11.heap := rfl
  have KK11 : Keep h0 T11.heap [] := Keep.trans K8 K11 (allS (Or.inr sz_b2) all0)
  obtain ⟨_, X11, N11⟩ := own_hide X11 N11
  refine own_goW (T' := T11) (f' := (mkF m 101 #[.val (.int y0), .val (.int y1), oU] [(.int y0), vR b2, (.long (y1.toInt64)), (.int y0), vR b1, vR b1])) (fun _ k => st11.trans (own_e X11 tt 100 1 k rfl)) ?_
  have e16 : ((0 : Int32)).toInt = 0 := rfl
  have e17 := mt own_ltI.mpr hlo
  have e18 := mt own_ltI.mpr hle
  have e19 : ((10 : Int32)).toInt = 10 := rfl
  have e20 := own_ltI.mp hhi
  have e21 : ((-10 : Int32)).toInt = (-10) := rfl
  have e22 : (-y0).toInt = -(y0).toInt := own_negI (by omega)
  have hd15 : (-10 : Int32) < (-y0) := by exact own_ltI.mpr (by omega)
  have e31 := own_ltI.mp hd15
  have e32 : ((-100 : Int32)).toInt = (-100) := rfl
  have hd30 : (-100 : Int32) < (-y0) := by exact own_ltI.mpr (by omega)
  have e40 := own_ltI.mp hd30
  have e41 : (-(-y0)).toInt = -((-y0)).toInt := own_negI (by omega)
  have hd39 : ¬ ((-(-y0)) < (0 : Int32)) := by exact mt own_ltI.mp (by omega)
  have e49 := mt own_ltI.mpr hd39
  have e50 : ((100 : Int32)).toInt = 100 := rfl
  have hd48 : (-(-y0)) < (100 : Int32) := by exact own_ltI.mpr (by omega)
  have e58 := own_ltI.mp hd48
  have hd57 : y0 < (10 : Int32) := by exact own_ltI.mpr (by omega)
  have e67 := own_ltI.mp hd57
  have e68 : ((-9 : Int32)).toInt = (-9) := rfl
  have hd66 : ¬ ((-y0) < (-9 : Int32)) := by exact mt own_ltI.mp (by omega)
  have q81 : b2 ≠ b11a := (Nat.ne_of_lt (Nat.lt_of_lt_of_le u6 (Nat.le_trans m13 sg_b11a)))
  have G83 := (own_sta_keep ((own_sta_keep ((S_cs.ext E1).ext E2) K5 (own_wsE A2 own_ws0)).ext E8) K11 (own_wsE ((A2.keep K5).ext E8) own_ws0))
  have G84 := (own_sta_keep ((own_sta_keep ((S_do.ext E1).ext E2) K5 (own_wsE A2 own_ws0)).ext E8) K11 (own_wsE ((A2.keep K5).ext E8) own_ws0))
  have q85 : wd ≠ b2 := (Nat.ne_of_lt (Nat.lt_of_lt_of_le V_do.lt sz_b2))
  obtain ⟨cq82, kq82, q82a, q82b, q82c⟩ := isOf hZ eK11 (((A2.keep K5).ext E8).keep K11)
  obtain ⟨_, T82, Lc82, X82, hQ82, st82⟩ := own_out (X11.virtualBack hx (y := mn20) (z := mn20) hown (mvT hZ (ow111 hw)) (mvT hZ (ow112 hw)) (notFace_of_selects (args := #[]) (mvT hZ (ow114 hw))) (mvT hZ (ow114 hw)) (mvT hZ (ow113 hw)) (by decide) (backOf (W := 5) (rm18a186 l Z a0 hw [] b2 y0 cs wd kd vd b11a k11b T11.heap n0 (Nat.le_trans (Nat.le_trans (Nat.le_trans (Nat.le_trans (Nat.le_trans Z0 E1.1) E2.1) K5.1) E8.1) K11.1) G83 G84 (((((V_do.ext E1).ext E2).keep K5 (ninS q85 nin0)).ext E8).keep K11 (ninS q85 nin0)) (((A2.keep K5).ext E8).keep K11) g11_0 g11_1 g11_2 g11_3 hcs hlo hd15 hd30 hd39 hd48 hd57 hd66 q81 (Ne.symm q81) n_b2 n_b11a hd10) hZ (ow115 hw) (ow17 hw) (by decide) (by decide)) q82a q82c (g := (mkF m 101 #[.val (.int y0), .val (.int y1), oU] [(.int y0), vR b2, (.long (y1.toInt64)), (.int y0), vR b1, vR b1])) rfl (by rw [hml]; rfl) (Steps.refl _) (argsL := [(.int y0)]) (rest := [(.long (y1.toInt64)), (.int y0), (.ref b1), (.ref b1)]) (lenOf pd10 rfl) rfl (by show 2 * 0 + _ ≤ _; exact Nat.le_of_eq rfl) (hb hby d3_101) (fun _ _ => ⟨rfl, eK11, (by decide : 6 + 0 ≤ _), (by decide : 129 + 0 ≤ _)⟩))
  obtain ⟨rfl, N82q, K82, g82_0, g82_1, g82_2, g82_3⟩ := hQ82
  have N82 := Fr.app N11 N82q
  have eK82 : T82.heap = T82.heap := rfl
  have KK82 : Keep h0 T82.heap [] := Keep.trans KK11 K82 (allS (Or.inr sz_b2) (allS (Or.inr sz_b11a) all0))
  obtain ⟨_, X82, N82⟩ := own_hide X82 N82
  refine own_goW (T' := T82) (f' := (mkF m 104 #[.val (.int y0), .val (.int y1), oU] [vR b2, (.long (y1.toInt64)), (.int y0), vR b1, vR b1])) (fun _ k => st82.trans k) ?_
  obtain ⟨a86, T86, h86, k1_86, b86, kc86, X86, e86, E86, hS86, hk86, -, -, gE86, gC86, gV86, gA86, -, -, IB86, Lt86, st86⟩ := ldcSVL (Z := Z) (s := (s.setVm T8.vm)) (vm0 := T8.vm) X82 hx hZ hown (ow133 hw) (own_wS hw) eK82 ((State.WarmedH.refl (s.setVm T8.vm)).since 0) (Nat.zero_le _) (by show Fr s.heap.size _; rw [hh, ← hn0]; exact N82) hkeep IB8 (by decide) hcB hcw (vs := own_lit1) (z := (5 : Int32)) own_lit1_ok (by decide) own_lit1_len (g := (mkF m 104 #[.val (.int y0), .val (.int y1), oU] [vR b2, (.long (y1.toInt64)), (.int y0), vR b1, vR b1])) rfl (hb hby d3_104) (n := 20) (by decide) (by decide) (by decide) (by decide)
  have hM86 := own_sm hS86 hk86
  obtain ⟨X86, hS, hZ, hown⟩ := rebS hS (Nat.le_trans (Nat.le_trans (Nat.le_refl _) K11.1) K82.1) X86 hM86 E86.1 hZ hown
  have Lt87 := Lit.stays Lt8 hM86.1
  have K86 : Keep h0 h86 [] := KK82.ext E86
  refine own_goW (T' := T86) (f' := (mkF m 106 #[.val (.int y0), .val (.int y1), oU] [vR a86, vR b2, (.long (y1.toInt64)), (.int y0), vR b1, vR b1])) (fun _ k => st86 _ k) ?_
  have Zs110 : n0 ≤ h86.size := (Nat.le_trans (Nat.le_trans (Nat.le_trans (Nat.le_trans (Nat.le_trans (Nat.le_trans (Nat.le_trans Z0 E1.1) E2.1) K5.1) E8.1) K11.1) K82.1) E86.1)
  obtain ⟨cq109, kq109, q109a, q109b, q109c⟩ := isOf hZ e86 (((((A2.keep K5).ext E8).keep K11).keep K82).ext E86)
  obtain ⟨_, T109, Lc109, X109, hQ109, st109⟩ := own_out (X86.virtualBack hx (y := mn16) (z := mn16) hown (mvT hZ (ow43 hw)) (mvT hZ (ow44 hw)) (notFace_of_selects (args := #[]) (mvT hZ (ow46 hw))) (mvT hZ (ow46 hw)) (mvT hZ (ow45 hw)) (by decide) (backOf (W := 5) (rm7a189 l Z a0 hw [] b2 a86 cs b11a k11b (nar .byte ((48 : Int32) + y0)) b86 kc86 h86 n0 Zs110 ((own_sta_keep G83 K82 (own_wsE (((A2.keep K5).ext E8).keep K11) (own_wsV g11_3 own_ws0))).ext E86) (((((A2.keep K5).ext E8).keep K11).keep K82).ext E86) (g82_0.ext E86) (g82_1.ext E86) (g82_2.ext E86) (g82_3.ext E86) gE86 gC86 gV86 gA86 hcs q81 (Ne.symm q81) n_b2 n_b11a) hZ (ow47 hw) (ow17 hw) (by decide) (by decide)) q109a q109c (g := (mkF m 106 #[.val (.int y0), .val (.int y1), oU] [vR a86, vR b2, (.long (y1.toInt64)), (.int y0), vR b1, vR b1])) rfl (by rw [hml]; rfl) (Steps.refl _) (argsL := [(.ref a86)]) (rest := [(.long (y1.toInt64)), (.int y0), (.ref b1), (.ref b1)]) (lenOf pd23 rfl) rfl (by show 2 * 0 + _ ≤ _; exact Nat.le_of_eq rfl) (hb hby d3_106) (fun _ _ => ⟨rfl, e86, (by decide : 8 + 0 ≤ _), (by decide : 153 + 0 ≤ _)⟩))
  obtain ⟨rfl, N109q, K109, g109_0, g109_1, g109_2, g109_3⟩ := hQ109
  have N109 := Fr.app N82 N109q
  have eK109 : T109.heap = T109.heap := rfl
  have KK109 : Keep h0 T109.heap [] := Keep.trans K86 K109 (allS (Or.inr sz_b2) (allS (Or.inr sz_b11a) all0))
  obtain ⟨_, X109, N109⟩ := own_hide X109 N109
  refine own_goW (T' := T109) (f' := (mkF m 110 #[.val (.int y0), .val (.int y1), oU] [(.int y1), vR b2, (.long (y1.toInt64)), (.int y0), vR b1, vR b1])) (fun _ k => st109.trans (own_e X109 tt 109 1 k rfl)) ?_
  have e114 := mt own_ltI.mpr hd66
  have hd113 : ¬ (y1 < (0 : Int32)) := by exact mt own_ltI.mp (by omega)
  have e118 := mt own_ltI.mpr hd113
  have e119 : (-y1).toInt = -(y1).toInt := own_negI (by omega)
  have hd117 : (-10 : Int32) < (-y1) := by exact own_ltI.mpr (by omega)
  have e129 := own_ltI.mp hd117
  have hd128 : (-100 : Int32) < (-y1) := by exact own_ltI.mpr (by omega)
  have e138 := own_ltI.mp hd128
  have e139 : (-(-y1)).toInt = -((-y1)).toInt := own_negI (by omega)
  have hd137 : ¬ ((-(-y1)) < (0 : Int32)) := by exact mt own_ltI.mp (by omega)
  have e148 := mt own_ltI.mpr hd137
  have hd147 : (-(-y1)) < (100 : Int32) := by exact own_ltI.mpr (by omega)
  have e158 := own_ltI.mp hd147
  have hd157 : ¬ ((-y1) < (-9 : Int32)) := by exact mt own_ltI.mp (by omega)
  have G173 := (own_sta_keep ((own_sta_keep G83 K82 (own_wsE (((A2.keep K5).ext E8).keep K11) (own_wsV g11_3 own_ws0))).ext E86) K109 (own_wsE (((((A2.keep K5).ext E8).keep K11).keep K82).ext E86) (own_wsV (g82_3.ext E86) own_ws0)))
  have G174 := (own_sta_keep ((own_sta_keep G84 K82 (own_wsE (((A2.keep K5).ext E8).keep K11) (own_wsV g11_3 own_ws0))).ext E86) K109 (own_wsE (((((A2.keep K5).ext E8).keep K11).keep K82).ext E86) (own_wsV (g82_3.ext E86) own_ws0)))
  have q175 : wd ≠ b11a := (Nat.ne_of_lt (Nat.lt_of_lt_of_le V_do.lt sz_b11a))
  have G176 := ((((((((V_do.ext E1).ext E2).keep K5 (ninS q85 nin0)).ext E8).keep K11 (ninS q85 nin0)).keep K82 (ninS q85 (ninS q175 nin0))).ext E86).keep K109 (ninS q85 (ninS q175 nin0)))
  obtain ⟨cq172, kq172, q172a, q172b, q172c⟩ := isOf hZ eK109 ((((((A2.keep K5).ext E8).keep K11).keep K82).ext E86).keep K109)
  obtain ⟨_, T172, Lc172, X172, hQ172, st172⟩ := own_out (X109.virtualBack hx (y := mn20) (z := mn20) hown (mvT hZ (ow111 hw)) (mvT hZ (ow112 hw)) (notFace_of_selects (args := #[]) (mvT hZ (ow114 hw))) (mvT hZ (ow114 hw)) (mvT hZ (ow113 hw)) (by decide) (backOf (W := 5) (rm18a213 l Z a0 hw [] b2 y1 cs wd kd vd b11a k11b (nar .byte ((48 : Int32) + y0)) T109.heap n0 (Nat.le_trans Zs110 K109.1) G173 G174 G176 ((((((A2.keep K5).ext E8).keep K11).keep K82).ext E86).keep K109) g109_0 g109_1 g109_2 g109_3 hcs hhi hd113 hd117 hd128 hd137 hd147 hd157 q81 (Ne.symm q81) n_b2 n_b11a hd10) hZ (ow115 hw) (ow17 hw) (by decide) (by decide)) q172a q172c (g := (mkF m 110 #[.val (.int y0), .val (.int y1), oU] [(.int y1), vR b2, (.long (y1.toInt64)), (.int y0), vR b1, vR b1])) rfl (by rw [hml]; rfl) (Steps.refl _) (argsL := [(.int y1)]) (rest := [(.long (y1.toInt64)), (.int y0), (.ref b1), (.ref b1)]) (lenOf pd10 rfl) rfl (by show 2 * 0 + _ ≤ _; exact Nat.le_of_eq rfl) (hb hby d3_110) (fun _ _ => ⟨rfl, eK109, (by decide : 8 + 0 ≤ _), (by decide : 153 + 0 ≤ _)⟩))
  obtain ⟨rfl, N172q, K172, g172_0, g172_1, g172_2, g172_3⟩ := hQ172
  have N172 := Fr.app N109 N172q
  have eK172 : T172.heap = T172.heap := rfl
  have KK172 : Keep h0 T172.heap [] := Keep.trans KK109 K172 (allS (Or.inr sz_b2) (allS (Or.inr sz_b11a) all0))
  obtain ⟨_, X172, N172⟩ := own_hide X172 N172
  refine own_goW (T' := T172) (f' := (mkF m 113 #[.val (.int y0), .val (.int y1), oU] [vR b2, (.long (y1.toInt64)), (.int y0), vR b1, vR b1])) (fun _ k => st172.trans k) ?_
  have G202 := (own_sta_keep G173 K172 (own_wsE ((((((A2.keep K5).ext E8).keep K11).keep K82).ext E86).keep K109) (own_wsV g109_3 own_ws0)))
  obtain ⟨cq201, kq201, q201a, q201b, q201c⟩ := isOf hZ eK172 (((((((A2.keep K5).ext E8).keep K11).keep K82).ext E86).keep K109).keep K172)
  obtain ⟨_, T201, Lc201, X201, hQ201, st201⟩ := own_out (X172.virtualBack hx (y := mn29) (z := mn29) hown (mvT hZ (ow134 hw)) (mvT hZ (ow135 hw)) (notFace_of_selects (args := #[]) (mvT hZ (ow137 hw))) (mvT hZ (ow137 hw)) (mvT hZ (ow136 hw)) (by decide) (backOf (W := 5) (rm23a216 l Z a0 hw [] b2 cs b11a k11b (nar .byte ((48 : Int32) + y0)) (nar .byte ((48 : Int32) + y1)) T172.heap n0 (Nat.le_trans (Nat.le_trans Zs110 K109.1) K172.1) G202 (((((((A2.keep K5).ext E8).keep K11).keep K82).ext E86).keep K109).keep K172) g172_0 g172_1 g172_2 g172_3 hcs) hZ (ow138 hw) (ow17 hw) (by decide) (by decide)) q201a q201c (g := (mkF m 113 #[.val (.int y0), .val (.int y1), oU] [vR b2, (.long (y1.toInt64)), (.int y0), vR b1, vR b1])) rfl (by rw [hml]; rfl) (Steps.refl _) (argsL := []) (rest := [(.long (y1.toInt64)), (.int y0), (.ref b1), (.ref b1)]) (lenOf pd4 rfl) rfl (by show 2 * 0 + _ ≤ _; exact Nat.le_of_eq rfl) (hb hby d3_113) (fun _ _ => ⟨rfl, eK172, (by decide : 8 + 2 ≤ _), (by decide : 153 + 28 ≤ _)⟩))
  obtain ⟨b201a, b201b, k201c, rfl, N201q, K201, n_b201a, sg_b201a, n_b201b, sg_b201b, ne201_0, g201_0, g201_1, g201_2, g201_3, g201_4⟩ := hQ201
  have N201 := Fr.app N172 N201q
  have sz_b201a : h0.size ≤ b201a := Nat.le_trans KK172.1 sg_b201a
  have sz_b201b : h0.size ≤ b201b := Nat.le_trans KK172.1 sg_b201b
  have u203 : b11a < T172.heap.size := (Nat.lt_of_lt_of_le (Nat.lt_of_lt_of_le (Nat.lt_of_lt_of_le (Nat.lt_of_lt_of_le g11_3.lt K82.1) E86.1) K109.1) K172.1)
  have m204 : h8.size ≤ T172.heap.size := (Nat.le_trans (Nat.le_trans (Nat.le_trans (Nat.le_trans (Nat.le_trans (Nat.le_refl _) K11.1) K82.1) E86.1) K109.1) K172.1)
  have eK201 : T201.heap = T201.heap := rfl
  have KK201 : Keep h0 T201.heap [] := Keep.trans KK172 K201 all0
  obtain ⟨_, X201, N201⟩ := own_hide X201 N201
  refine own_goW (T' := T201) (f' := (mkF m 116 #[.val (.int y0), .val (.int y1), oU] [vR b201a, (.long (y1.toInt64)), (.int y0), vR b1, vR b1])) (fun _ k => st201.trans k) ?_
  have q206 : b1 ≠ b2 := (Nat.ne_of_lt (Nat.lt_of_lt_of_le u3 sg_b2))
  have c207 : h1.size ≤ h8.size := Nat.le_trans m7 m13
  have q208 : b1 ≠ b11a := (Nat.ne_of_lt (Nat.lt_of_lt_of_le u3 (Nat.le_trans c207 sg_b11a)))
  have G209 := (((((((((F_min_b1.ext E2).keep K5 (ninS q206 nin0)).ext E8).keep K11 (ninS q206 nin0)).keep K82 (ninS q206 (ninS q208 nin0))).ext E86).keep K109 (ninS q206 (ninS q208 nin0))).keep K172 (ninS q206 (ninS q208 nin0))).keep K201 nin0)
  have G210 := (((((((((F_max_b1.ext E2).keep K5 (ninS q206 nin0)).ext E8).keep K11 (ninS q206 nin0)).keep K82 (ninS q206 (ninS q208 nin0))).ext E86).keep K109 (ninS q206 (ninS q208 nin0))).keep K172 (ninS q206 (ninS q208 nin0))).keep K201 nin0)
  have G211 := (((((((((F_phrase_b1.ext E2).keep K5 (ninS q206 nin0)).ext E8).keep K11 (ninS q206 nin0)).keep K82 (ninS q206 (ninS q208 nin0))).ext E86).keep K109 (ninS q206 (ninS q208 nin0))).keep K172 (ninS q206 (ninS q208 nin0))).keep K201 nin0)
  obtain ⟨_, T205, Lc205, X205, hQ205, st205⟩ := own_out (X201.specialBack hx (y := mn30) rfl hown (mvT hZ (ow171 hw)) (mvT hZ (ow172 hw)) (mvT hZ (ow173 hw)) (by decide) (backOf (W := 1) (rm32a113 l Z a0 hw [] b1 y0 (y1.toInt64) b201a T201.heap n0 (Nat.le_trans (Nat.le_trans (Nat.le_trans Zs110 K109.1) K172.1) K201.1) (((((((((A1.ext E2).keep K5).ext E8).keep K11).keep K82).ext E86).keep K109).keep K172).keep K201) G209 G210 G211 n_b1) hZ (ow173 hw) (ow14 hw) (by decide) (by decide)) (g := (mkF m 116 #[.val (.int y0), .val (.int y1), oU] [vR b201a, (.long (y1.toInt64)), (.int y0), vR b1, vR b1])) rfl (by rw [hml]; rfl) (Steps.refl _) (a := b1) (argsL := [(.int y0), (.long (y1.toInt64)), (.ref b201a)]) (rest := [(.ref b1)]) (lenOf pd17 rfl) rfl (by show 2 * 0 + _ ≤ _; exact Nat.le_of_eq rfl) (hb hby d3_116) (fun _ _ => ⟨rfl, eK201, (by decide : 10 + 0 ≤ _), (by decide : 181 + 0 ≤ _)⟩))
  obtain ⟨rfl, N205q, K205, g205_0, g205_1, g205_2⟩ := hQ205
  have N205 := Fr.app N201 N205q
  have eK205 : T205.heap = T205.heap := rfl
  have KK205 : Keep h0 T205.heap [] := Keep.trans KK201 K205 (allS (Or.inr sz_b1) all0)
  obtain ⟨_, X205, N205⟩ := own_hide X205 N205
  refine own_goW (T' := T205) (f' := (mkF m 119 #[.val (.int y0), .val (.int y1), oU] [vR b1])) (fun _ k => st205.trans k) ?_
  refine own_retW X205 hS (by rw [eK205]; exact (Nat.le_trans (Nat.le_trans (Nat.le_trans (Nat.le_trans (Nat.le_refl _) K109.1) K172.1) K201.1) K205.1)) (v := some (.ref b1)) (fun h => by rw [Bd.returns] at h; cases h) Bd.notSynchronized (fun fs hr => own_retA X205 hx Bd.returns rfl rfl (hb hby d3_119) hr) ?_ (by decide) (by decide)
  show Q3s Z B y0 y1 cs wd kd vd wt kt vt h0 n0 _ T205.heap T205.vm _
  have c212 : h1.size ≤ T172.heap.size := Nat.le_trans c207 m204
  have q213 : b201a ≠ b1 := (Ne.symm (Nat.ne_of_lt (Nat.lt_of_lt_of_le u3 (Nat.le_trans c212 sg_b201a))))
  have q214 : b201b ≠ b1 := (Ne.symm (Nat.ne_of_lt (Nat.lt_of_lt_of_le u3 (Nat.le_trans c212 sg_b201b))))
  rw [eK205]
  exact ⟨b1, b201a, b201b, _, rfl, N205, KK205, n_b1, sz_b1, ((((((((((A1.ext E2).keep K5).ext E8).keep K11).keep K82).ext E86).keep K109).keep K172).keep K201).keep K205), g205_0, g205_1, g205_2, (g201_0.keep K205), (g201_2.keep K205 (ninS q213 nin0)), (g201_1.keep K205 (ninS q213 nin0)), (g201_3.keep K205 (ninS q214 nin0))⟩
theorem pd13 : parseMethodDescriptor "(II)Lcom/example/tally_of_calls/tallyofcalls/Count;" = some ⟨[.int, .int], some (.object "com/example/tally_of_calls/tallyofcalls/Count")⟩ := by decide +kernel
def own_t33 (pc : Nat) : Option (Instr × Nat) := bif Nat.beq pc 0 then some (.aload_n 0, 1) else none
theorem own_ok33 : ∀ pc q, own_fetch 5 own_t33 pc = some q → decode prog_4_method_2_code pc = .ok q := own_tab (by decide +kernel)
theorem d33_1 : decode prog_4_method_2_code 1 = .ok (.getfield 9, 3) := by decide +kernel
theorem d33_4 : decode prog_4_method_2_code 4 = .ok (.ireturn, 1) := by decide +kernel
theorem ef_rm33a221 (m : MethodId) (c4 : Addr) : entryFrame m #[(.ref c4)] 1 = mkF m 0 #[.val (.ref c4)] [] := by first | (simp [entryFrame, mkF, argsToLocals, Value.category]; done) | rfl
def Q33a221 (Z : State) (c4 : Addr) (zl : Int32) (h0 : Heap) (n0 : Nat) (v : Option Value) (h : Heap) (L : List Loc) : Prop := v = some (.int zl) ∧ Fr n0 L ∧ h = h0
set_option maxRecDepth 65536 in
set_option maxHeartbeats 40000000 in
theorem rm33a221 (l : Launch) (Z : State) (a0 : Array Value) (hw : ∀ d ∈ tables_1, d.before a0 Z = true) (ws : List Jvm.Cond) (c4 : Addr) (zl : Int32) (h0 : Heap) (n0 : Nat) (Z0 : n0 ≤ h0.size) (PF6 : Fld Z h0 c4 "com/example/tally_of_calls/tallyofcalls/Count" "min" "I" (.int zl)) :
    own_Met l mn32 prog_4_method_2_code 1 (some .int) ws (oRm 0 0 0 0) #[(.ref c4)] Z h0 (Q33a221 Z c4 zl h0 n0) := by
  refine own_met (own := "com/example/tally_of_calls/tallyofcalls/Count") rfl (plainFor_of_name pn_0) ?_
  intro p e s m below meth c s₁ hx hby hml hZ hown hnm X0 e0 Br Bs
  have N0 := Fr.nil n0
  have tt := own_tt hx hby own_ok33
  rw [ef_rm33a221 m c4]
  refine own_go (T' := s₁) (f' := (mkF m 1 #[oR c4] [vR c4])) (fun _ k => own_e X0 tt 0 1 k rfl) ?_
  obtain ⟨T7, X7, e7, st7⟩ := getF X0 hx hZ hown (host := "") (Or.inl (ow175 hw)) Via.refl e0 PF6 (g := (mkF m 1 #[oR c4] [vR c4])) rfl rfl (hb hby d33_1)
  refine own_go (T' := T7) (f' := (mkF m 4 #[oR c4] [(.int zl)])) (fun _ k => st7 _ k) ?_
  refine own_ret X7 (v := some (.int zl)) (fun h => by rw [Br] at h; cases h) Bs (fun fs hr => retI X7 hx Br (hb hby d33_4) hr) ?_ (by decide) (by decide)
  show Q33a221 Z c4 zl h0 n0 _ T7.heap _
  exact ⟨rfl, N0, e7⟩
def own_t34 (pc : Nat) : Option (Instr × Nat) := bif Nat.beq pc 0 then some (.aload_n 0, 1) else none
theorem own_ok34 : ∀ pc q, own_fetch 5 own_t34 pc = some q → decode prog_4_method_3_code pc = .ok q := own_tab (by decide +kernel)
theorem d34_1 : decode prog_4_method_3_code 1 = .ok (.getfield 15, 3) := by decide +kernel
theorem d34_4 : decode prog_4_method_3_code 4 = .ok (.lreturn, 1) := by decide +kernel
theorem ef_rm34a222 (m : MethodId) (c4 : Addr) : entryFrame m #[(.ref c4)] 1 = mkF m 0 #[.val (.ref c4)] [] := by first | (simp [entryFrame, mkF, argsToLocals, Value.category]; done) | rfl
def Q34a222 (Z : State) (c4 : Addr) (j9 : Int64) (h0 : Heap) (n0 : Nat) (v : Option Value) (h : Heap) (L : List Loc) : Prop := v = some (.long j9) ∧ Fr n0 L ∧ h = h0
set_option maxRecDepth 65536 in
set_option maxHeartbeats 40000000 in
theorem rm34a222 (l : Launch) (Z : State) (a0 : Array Value) (hw : ∀ d ∈ tables_1, d.before a0 Z = true) (ws : List Jvm.Cond) (c4 : Addr) (j9 : Int64) (h0 : Heap) (n0 : Nat) (Z0 : n0 ≤ h0.size) (PF7 : Fld Z h0 c4 "com/example/tally_of_calls/tallyofcalls/Count" "max" "J" (.long j9)) :
    own_Met l mn33 prog_4_method_3_code 1 (some .long) ws (oRm 0 0 0 0) #[(.ref c4)] Z h0 (Q34a222 Z c4 j9 h0 n0) := by
  refine own_met (own := "com/example/tally_of_calls/tallyofcalls/Count") rfl (plainFor_of_name pn_0) ?_
  intro p e s m below meth c s₁ hx hby hml hZ hown hnm X0 e0 Br Bs
  have N0 := Fr.nil n0
  have tt := own_tt hx hby own_ok34
  rw [ef_rm34a222 m c4]
  refine own_go (T' := s₁) (f' := (mkF m 1 #[oR c4] [vR c4])) (fun _ k => own_e X0 tt 0 1 k rfl) ?_
  obtain ⟨T11, X11, e11, st11⟩ := getF X0 hx hZ hown (host := "") (Or.inl (ow177 hw)) Via.refl e0 PF7 (g := (mkF m 1 #[oR c4] [vR c4])) rfl rfl (hb hby d34_1)
  refine own_go (T' := T11) (f' := (mkF m 4 #[oR c4] [(.long j9)])) (fun _ k => st11 _ k) ?_
  refine own_ret X11 (v := some (.long j9)) (fun h => by rw [Br] at h; cases h) Bs (fun fs hr => own_retL X11 hx Br (hb hby d34_4) hr) ?_ (by decide) (by decide)
  show Q34a222 Z c4 j9 h0 n0 _ T11.heap _
  exact ⟨rfl, N0, e11⟩
theorem pd2 : parseMethodDescriptor "()J" = some ⟨[], some .long⟩ := by decide +kernel
def own_t35 (pc : Nat) : Option (Instr × Nat) := bif Nat.beq pc 0 then some (.aload_n 0, 1) else none
theorem own_ok35 : ∀ pc q, own_fetch 5 own_t35 pc = some q → decode prog_4_method_4_code pc = .ok q := own_tab (by decide +kernel)
theorem d35_1 : decode prog_4_method_4_code 1 = .ok (.getfield 19, 3) := by decide +kernel
theorem d35_4 : decode prog_4_method_4_code 4 = .ok (.areturn, 1) := by decide +kernel
theorem ef_rm35a223 (m : MethodId) (c4 : Addr) : entryFrame m #[(.ref c4)] 1 = mkF m 0 #[.val (.ref c4)] [] := by first | (simp [entryFrame, mkF, argsToLocals, Value.category]; done) | rfl
def Q35a223 (Z : State) (c4 : Addr) (a4 : Addr) (h0 : Heap) (n0 : Nat) (v : Option Value) (h : Heap) (L : List Loc) : Prop := v = some (.ref a4) ∧ Fr n0 L ∧ h = h0
set_option maxRecDepth 65536 in
set_option maxHeartbeats 40000000 in
theorem rm35a223 (l : Launch) (Z : State) (a0 : Array Value) (hw : ∀ d ∈ tables_1, d.before a0 Z = true) (ws : List Jvm.Cond) (c4 : Addr) (a4 : Addr) (h0 : Heap) (n0 : Nat) (Z0 : n0 ≤ h0.size) (PF8 : Fld Z h0 c4 "com/example/tally_of_calls/tallyofcalls/Count" "phrase" "Ljava/lang/String;" (.ref a4)) :
    own_Met l mn34 prog_4_method_4_code 1 (some (.object "java/lang/String")) ws (oRm 0 0 0 0) #[(.ref c4)] Z h0 (Q35a223 Z c4 a4 h0 n0) := by
  refine own_met (own := "com/example/tally_of_calls/tallyofcalls/Count") rfl (plainFor_of_name pn_0) ?_
  intro p e s m below meth c s₁ hx hby hml hZ hown hnm X0 e0 Br Bs
  have N0 := Fr.nil n0
  have tt := own_tt hx hby own_ok35
  rw [ef_rm35a223 m c4]
  refine own_go (T' := s₁) (f' := (mkF m 1 #[oR c4] [vR c4])) (fun _ k => own_e X0 tt 0 1 k rfl) ?_
  obtain ⟨T15, X15, e15, st15⟩ := getF X0 hx hZ hown (host := "") (Or.inl (ow179 hw)) Via.refl e0 PF8 (g := (mkF m 1 #[oR c4] [vR c4])) rfl rfl (hb hby d35_1)
  refine own_go (T' := T15) (f' := (mkF m 4 #[oR c4] [vR a4])) (fun _ k => st15 _ k) ?_
  refine own_ret X15 (v := some (.ref a4)) (fun h => by rw [Br] at h; cases h) Bs (fun fs hr => own_retA X15 hx Br rfl rfl (hb hby d35_4) hr) ?_ (by decide) (by decide)
  show Q35a223 Z c4 a4 h0 n0 _ T15.heap _
  exact ⟨rfl, N0, e15⟩
theorem ef_rm9a224 (m : MethodId) (a4 : Addr) : entryFrame m #[(.ref a4)] 1 = mkF m 0 #[.val (.ref a4)] [] := by first | (simp [entryFrame, mkF, argsToLocals, Value.category]; done) | rfl
def Q9a224 (Z : State) (a4 : Addr) (cs : Int32) (b4 : Addr) (k4 : ClassId) (i18 : Int32) (us4 : List Value) (h0 : Heap) (n0 : Nat) (v : Option Value) (h : Heap) (L : List Loc) : Prop := v = some (.int (i18 >>> ((0 : Int32) &&& 31))) ∧ Fr n0 L ∧ h = h0
set_option maxRecDepth 65536 in
set_option maxHeartbeats 40000000 in
theorem rm9a224 (l : Launch) (Z : State) (a0 : Array Value) (hw : ∀ d ∈ tables_1, d.before a0 Z = true) (ws : List Jvm.Cond) (a4 : Addr) (cs : Int32) (b4 : Addr) (k4 : ClassId) (i18 : Int32) (us4 : List Value) (h0 : Heap) (n0 : Nat) (Z0 : n0 ≤ h0.size) (PS0 : Sta Z h0 "java/lang/String" "COMPACT_STRINGS" "Z" (.int cs)) (PE9 : Exa Z h0 a4 "java/lang/String") (PF10 : Fld Z h0 a4 "java/lang/String" "coder" "B" (.int (0 : Int32))) (PF11 : Fld Z h0 a4 "java/lang/String" "value" "[B" (.ref b4)) (PV12 : Arv Z h0 b4 k4 .byte i18 us4 (.int (0 : Int32))) (PP0 : ¬ (cs = (0 : Int32))) :
    own_Met l mn7 jdk_42_method_54_code 1 (some .int) ws (oRm 1 0 0 13) #[(.ref a4)] Z h0 (Q9a224 Z a4 cs b4 k4 i18 us4 h0 n0) := by
  refine own_met (own := "java/lang/String") rfl (plainFor_of_name pn_7) ?_
  intro p e s m below meth c s₁ hx hby hml hZ hown hnm X0 e0 Br Bs
  have N0 := Fr.nil n0
  have tt := own_tt hx hby own_ok9
  rw [ef_rm9a224 m a4]
  refine own_go (T' := s₁) (f' := (mkF m 1 #[oR a4] [vR a4])) (fun _ k => own_e X0 tt 0 1 k rfl) ?_
  obtain ⟨T19, X19, e19, st19⟩ := getF X0 hx hZ hown (host := "") (Or.inl (ow58 hw)) Via.refl e0 PF11 (g := (mkF m 1 #[oR a4] [vR a4])) rfl rfl (hb hby d9_1)
  refine own_go (T' := T19) (f' := (mkF m 6 #[oR a4] [vR a4, (.int i18)])) (fun _ k => st19 _ (own_alen X19 hx hZ e19 PV12 rfl rfl (hb hby d9_4) (own_e X19 tt 5 1 k rfl))) ?_
  obtain ⟨cq20, kq20, q20a, q20b, q20c⟩ := isOf hZ e19 PE9
  obtain ⟨_, T20, Lc20, X20, hQ20, st20⟩ := own_out (X19.virtualBack hx (y := mn6) (z := mn6) hown (mvT hZ (ow59 hw)) (mvT hZ (ow60 hw)) (notFace_of_selects (args := #[]) (mvT hZ (ow62 hw))) (mvT hZ (ow62 hw)) (mvT hZ (ow61 hw)) (by decide) (backOf (W := 1) (rm10a6 l Z a0 hw [] a4 cs h0 n0 Z0 PS0 PF10 PP0) hZ (ow63 hw) (ow31 hw) (by decide) (by decide)) q20a q20c (g := (mkF m 6 #[oR a4] [vR a4, (.int i18)])) rfl (by rw [hml]; rfl) (Steps.refl _) (argsL := []) (rest := [(.int i18)]) (lenOf pd0 rfl) rfl (by show 2 * 0 + _ ≤ _; exact Nat.le_of_eq rfl) (hb hby d9_6) (fun _ _ => ⟨rfl, e19, (by decide : 0 + 0 ≤ _), (by decide : 0 + 0 ≤ _)⟩))
  obtain ⟨rfl, N20q, hh20⟩ := hQ20
  have N20 := Fr.app N0 N20q
  obtain ⟨_, X20, N20⟩ := own_hide X20 N20
  refine own_go (T' := T20) (f' := (mkF m 10 #[oR a4] [(.int (i18 >>> ((0 : Int32) &&& 31)))])) (fun _ k => st20.trans (own_e X20 tt 9 1 k rfl)) ?_
  refine own_ret X20 (v := some (.int (i18 >>> ((0 : Int32) &&& 31)))) (fun h => by rw [Br] at h; cases h) Bs (fun fs hr => retI X20 hx Br (hb hby d9_10) hr) ?_ (by decide) (by decide)
  show Q9a224 Z a4 cs b4 k4 i18 us4 h0 n0 _ T20.heap _
  exact ⟨rfl, N20, hh20⟩
theorem ef_rm9a225 (m : MethodId) (a26 : Addr) : entryFrame m #[(.ref a26)] 1 = mkF m 0 #[.val (.ref a26)] [] := by first | (simp [entryFrame, mkF, argsToLocals, Value.category]; done) | rfl
def Q9a225 (Z : State) (a26 : Addr) (cs : Int32) (b26 : Addr) (k26 : ClassId) (i31 : Int32) (i32 : Int32) (h0 : Heap) (n0 : Nat) (v : Option Value) (h : Heap) (L : List Loc) : Prop := v = some (.int (24 : Int32)) ∧ Fr n0 L ∧ h = h0
set_option maxRecDepth 65536 in
set_option maxHeartbeats 40000000 in
theorem rm9a225 (l : Launch) (Z : State) (a0 : Array Value) (hw : ∀ d ∈ tables_1, d.before a0 Z = true) (ws : List Jvm.Cond) (a26 : Addr) (cs : Int32) (b26 : Addr) (k26 : ClassId) (i31 : Int32) (i32 : Int32) (h0 : Heap) (n0 : Nat) (Z0 : n0 ≤ h0.size) (PS0 : Sta Z h0 "java/lang/String" "COMPACT_STRINGS" "Z" (.int cs)) (PE9 : Exa Z h0 a26 "java/lang/String") (PF10 : Fld Z h0 a26 "java/lang/String" "coder" "B" (.int (0 : Int32))) (PF11 : Fld Z h0 a26 "java/lang/String" "value" "[B" (.ref b26)) (PV12 : Arv Z h0 b26 k26 .byte (24 : Int32) [(.int (101 : Int32)), (.int (120 : Int32)), (.int (112 : Int32)), (.int (101 : Int32)), (.int (99 : Int32)), (.int (116 : Int32)), (.int (101 : Int32)), (.int (100 : Int32)), (.int (32 : Int32)), (.int (98 : Int32)), (.int (101 : Int32)), (.int (116 : Int32)), (.int (119 : Int32)), (.int (101 : Int32)), (.int (101 : Int32)), (.int (110 : Int32)), (.int (32 : Int32)), (.int i31), (.int (32 : Int32)), (.int (97 : Int32)), (.int (110 : Int32)), (.int (100 : Int32)), (.int (32 : Int32)), (.int i32)] (.int (0 : Int32))) (PP0 : ¬ (cs = (0 : Int32))) :
    own_Met l mn7 jdk_42_method_54_code 1 (some .int) ws (oRm 1 0 0 13) #[(.ref a26)] Z h0 (Q9a225 Z a26 cs b26 k26 i31 i32 h0 n0) := by
  refine own_met (own := "java/lang/String") rfl (plainFor_of_name pn_7) ?_
  intro p e s m below meth c s₁ hx hby hml hZ hown hnm X0 e0 Br Bs
  have N0 := Fr.nil n0
  have tt := own_tt hx hby own_ok9
  rw [ef_rm9a225 m a26]
  refine own_go (T' := s₁) (f' := (mkF m 1 #[oR a26] [vR a26])) (fun _ k => own_e X0 tt 0 1 k rfl) ?_
  obtain ⟨T33, X33, e33, st33⟩ := getF X0 hx hZ hown (host := "") (Or.inl (ow58 hw)) Via.refl e0 PF11 (g := (mkF m 1 #[oR a26] [vR a26])) rfl rfl (hb hby d9_1)
  refine own_go (T' := T33) (f' := (mkF m 6 #[oR a26] [vR a26, vI 24])) (fun _ k => st33 _ (own_alen X33 hx hZ e33 PV12 rfl rfl (hb hby d9_4) (own_e X33 tt 5 1 k rfl))) ?_
  obtain ⟨cq34, kq34, q34a, q34b, q34c⟩ := isOf hZ e33 PE9
  obtain ⟨_, T34, Lc34, X34, hQ34, st34⟩ := own_out (X33.virtualBack hx (y := mn6) (z := mn6) hown (mvT hZ (ow59 hw)) (mvT hZ (ow60 hw)) (notFace_of_selects (args := #[]) (mvT hZ (ow62 hw))) (mvT hZ (ow62 hw)) (mvT hZ (ow61 hw)) (by decide) (backOf (W := 1) (rm10a6 l Z a0 hw [] a26 cs h0 n0 Z0 PS0 PF10 PP0) hZ (ow63 hw) (ow31 hw) (by decide) (by decide)) q34a q34c (g := (mkF m 6 #[oR a26] [vR a26, vI 24])) rfl (by rw [hml]; rfl) (Steps.refl _) (argsL := []) (rest := [(.int (24 : Int32))]) (lenOf pd0 rfl) rfl (by show 2 * 0 + _ ≤ _; exact Nat.le_of_eq rfl) (hb hby d9_6) (fun _ _ => ⟨rfl, e33, (by decide : 0 + 0 ≤ _), (by decide : 0 + 0 ≤ _)⟩))
  obtain ⟨rfl, N34q, hh34⟩ := hQ34
  have N34 := Fr.app N0 N34q
  obtain ⟨_, X34, N34⟩ := own_hide X34 N34
  refine own_go (T' := T34) (f' := (mkF m 10 #[oR a26] [vI 24])) (fun _ k => st34.trans (own_e X34 tt 9 1 k rfl)) ?_
  refine own_ret X34 (v := some (.int (24 : Int32))) (fun h => by rw [Br] at h; cases h) Bs (fun fs hr => retI X34 hx Br (hb hby d9_10) hr) ?_ (by decide) (by decide)
  show Q9a225 Z a26 cs b26 k26 i31 i32 h0 n0 _ T34.heap _
  exact ⟨rfl, N34, hh34⟩
def own_t40 (pc : Nat) : Option (Instr × Nat) := bif Nat.ble pc 17 then (bif Nat.ble pc 7 then (bif Nat.ble pc 1 then (bif Nat.ble pc 0 then (bif Nat.beq pc 0 then some (.iconst 0, 1) else none) else (bif Nat.beq pc 1 then some (.istore 5, 2) else none)) else (bif Nat.ble pc 3 then (bif Nat.beq pc 3 then some (.iload 5, 2) else none) else (bif Nat.ble pc 5 then (bif Nat.beq pc 5 then some (.iload 4, 2) else none) else (bif Nat.beq pc 7 then some (.if_icmp .ge 37, 3) else none)))) else (bif Nat.ble pc 11 then (bif Nat.ble pc 10 then (bif Nat.beq pc 10 then some (.aload_n 0, 1) else none) else (bif Nat.beq pc 11 then some (.iload_n 1, 1) else none)) else (bif Nat.ble pc 13 then (bif Nat.beq pc 13 then some (.istore 6, 2) else none) else (bif Nat.ble pc 15 then (bif Nat.beq pc 15 then some (.iload 6, 2) else none) else (bif Nat.beq pc 17 then some (.sipush 255, 3) else none))))) else (bif Nat.ble pc 30 then (bif Nat.ble pc 26 then (bif Nat.ble pc 20 then (bif Nat.beq pc 20 then some (.if_icmp .le 6, 3) else none) else (bif Nat.beq pc 26 then some (.aload_n 2, 1) else none)) else (bif Nat.ble pc 27 then (bif Nat.beq pc 27 then some (.iload_n 3, 1) else none) else (bif Nat.ble pc 28 then (bif Nat.beq pc 28 then some (.iload 6, 2) else none) else (bif Nat.beq pc 30 then some (.i2b, 1) else none)))) else (bif Nat.ble pc 35 then (bif Nat.ble pc 32 then (bif Nat.beq pc 32 then some (.iinc 1 1, 3) else none) else (bif Nat.beq pc 35 then some (.iinc 3 1, 3) else none)) else (bif Nat.ble pc 38 then (bif Nat.beq pc 38 then some (.iinc 5 1, 3) else none) else (bif Nat.ble pc 41 then (bif Nat.beq pc 41 then some (.goto (-38), 3) else none) else (bif Nat.beq pc 44 then some (.iload 4, 2) else none)))))
theorem own_ok40 : ∀ pc q, own_fetch 47 own_t40 pc = some q → decode jdk_52_method_21_code pc = .ok q := own_tab (by decide +kernel)
theorem d40_12 : decode jdk_52_method_21_code 12 = .ok (.caload, 1) := by decide +kernel
theorem d40_20 : decode jdk_52_method_21_code 20 = .ok (.if_icmp .le 6, 3) := by decide +kernel
theorem d40_31 : decode jdk_52_method_21_code 31 = .ok (.bastore, 1) := by decide +kernel
theorem d40_46 : decode jdk_52_method_21_code 46 = .ok (.ireturn, 1) := by decide +kernel
theorem pn_10 : plainName "java/lang/StringUTF16" = true := by first | (simp [plainName, overriddenIn]; done) | decide +kernel
theorem ef_rm40a237 (m : MethodId) (b38 : Addr) (b136 : Addr) : entryFrame m #[(.ref b38), (.int (0 : Int32)), (.ref b136), (.int (0 : Int32)), (.int (24 : Int32))] 7 = mkF m 0 #[.val (.ref b38), .val (.int (0 : Int32)), .val (.ref b136), .val (.int (0 : Int32)), .val (.int (24 : Int32)), .unset, .unset] [] := by first | (simp [entryFrame, mkF, argsToLocals, Value.category]; done) | rfl
def Q40a237 (Z : State) (b38 : Addr) (b136 : Addr) (k38 : ClassId) (i132 : Int32) (i133 : Int32) (k136 : ClassId) (h0 : Heap) (n0 : Nat) (v : Option Value) (h : Heap) (L : List Loc) : Prop := v = some (.int (24 : Int32)) ∧ Fr n0 L ∧ Keep h0 h [b136] ∧ Arv Z h b136 k136 .byte (24 : Int32) [(.int (101 : Int32)), (.int (120 : Int32)), (.int (112 : Int32)), (.int (101 : Int32)), (.int (99 : Int32)), (.int (116 : Int32)), (.int (101 : Int32)), (.int (100 : Int32)), (.int (32 : Int32)), (.int (98 : Int32)), (.int (101 : Int32)), (.int (116 : Int32)), (.int (119 : Int32)), (.int (101 : Int32)), (.int (101 : Int32)), (.int (110 : Int32)), (.int (32 : Int32)), (.int (nar .byte (i132.toInt8.toInt32))), (.int (32 : Int32)), (.int (97 : Int32)), (.int (110 : Int32)), (.int (100 : Int32)), (.int (32 : Int32)), (.int (nar .byte (i133.toInt8.toInt32)))] (.int (0 : Int32))
set_option maxRecDepth 65536 in
set_option maxHeartbeats 40000000 in
theorem rm40a237 (l : Launch) (Z : State) (a0 : Array Value) (hw : ∀ d ∈ tables_1, d.before a0 Z = true) (ws : List Jvm.Cond) (b38 : Addr) (b136 : Addr) (k38 : ClassId) (i132 : Int32) (i133 : Int32) (k136 : ClassId) (h0 : Heap) (n0 : Nat) (Z0 : n0 ≤ h0.size) (PV13 : Arv Z h0 b38 k38 .char (24 : Int32) [(.int (101 : Int32)), (.int (120 : Int32)), (.int (112 : Int32)), (.int (101 : Int32)), (.int (99 : Int32)), (.int (116 : Int32)), (.int (101 : Int32)), (.int (100 : Int32)), (.int (32 : Int32)), (.int (98 : Int32)), (.int (101 : Int32)), (.int (116 : Int32)), (.int (119 : Int32)), (.int (101 : Int32)), (.int (101 : Int32)), (.int (110 : Int32)), (.int (32 : Int32)), (.int i132), (.int (32 : Int32)), (.int (97 : Int32)), (.int (110 : Int32)), (.int (100 : Int32)), (.int (32 : Int32)), (.int i133)] (.int (0 : Int32))) (PV18 : Arv Z h0 b136 k136 .byte (24 : Int32) own_ls5 (.int (0 : Int32))) (PP2 : ¬ ((255 : Int32) < i132)) (PP3 : ¬ ((255 : Int32) < i133)) (ne_b38_b136 : b38 ≠ b136) (n_b136 : n0 ≤ b136) :
    own_Met l mn35 jdk_52_method_21_code 7 (some .int) ws (oRm 0 0 0 0) #[(.ref b38), (.int (0 : Int32)), (.ref b136), (.int (0 : Int32)), (.int (24 : Int32))] Z h0 (Q40a237 Z b38 b136 k38 i132 i133 k136 h0 n0) := by
  refine own_met (own := "java/lang/StringUTF16") rfl (plainFor_of_name pn_10) ?_
  intro p e s m below meth c s₁ hx hby hml hZ hown hnm X0 e0 Br Bs
  have N0 := Fr.nil n0
  have tt := own_tt hx hby own_ok40
  rw [ef_rm40a237 m b38 b136]
  refine own_go (T' := s₁) (f' := (mkF m 31 #[oR b38, oI 0, oR b136, oI 0, oI 24, oI 0, oI 101] [vI 101, vI 0, vR b136])) (fun _ k => own_r X0 tt 0 7 rfl (own_ldC X0 hx hZ e0 PV13 (j := (0 : Int32)) (x := (101 : Int32)) ⟨by decide, by decide⟩ rfl rfl rfl (hb hby d40_12) (own_e X0 tt 13 8 k rfl))) ?_
  obtain ⟨T137, h137, X137, e137, W137, V137, st137⟩ := own_stB X0 hx hZ e0 PV18 (j := (0 : Int32)) ⟨by decide, by decide⟩ 0 rfl (Nat.le_of_ble_eq_true rfl) (g := (mkF m 31 #[oR b38, oI 0, oR b136, oI 0, oI 24, oI 0, oI 101] [vI 101, vI 0, vR b136])) rfl rfl (hb hby d40_31)
  have K137 : Keep h0 h137 [b136] := (Keep.refl h0 [b136]).wr W137 (Or.inl (List.mem_of_getElem? (i := 0) rfl))
  have V137s : Arv Z h137 b136 k136 .byte (24 : Int32) own_ls6 (.int (0 : Int32)) := V137
  have N137 := Fr.snoc X137 N0 n_b136
  refine own_go (T' := T137) (f' := (mkF m 31 #[oR b38, oI 1, oR b136, oI 1, oI 24, oI 1, oI 120] [vI 120, vI 1, vR b136])) (fun _ k => st137 _ (own_r X137 tt 32 9 rfl (own_ldC X137 hx hZ e137 (PV13.other W137 ne_b38_b136) (j := (1 : Int32)) (x := (120 : Int32)) ⟨by decide, by decide⟩ rfl rfl rfl (hb hby d40_12) (own_e X137 tt 13 8 k rfl)))) ?_
  obtain ⟨T138, h138, X138, e138, W138, V138, st138⟩ := own_stB X137 hx hZ e137 V137s (j := (1 : Int32)) ⟨by decide, by decide⟩ 1 rfl (Nat.le_of_ble_eq_true rfl) (g := (mkF m 31 #[oR b38, oI 1, oR b136, oI 1, oI 24, oI 1, oI 120] [vI 120, vI 1, vR b136])) rfl rfl (hb hby d40_31)
  have K138 : Keep h0 h138 [b136] := K137.wr W138 (Or.inl (List.mem_of_getElem? (i := 0) rfl))
  have V138s : Arv Z h138 b136 k136 .byte (24 : Int32) own_ls7 (.int (0 : Int32)) := V138
  have N138 := Fr.snoc X138 N137 n_b136
  refine own_go (T' := T138) (f' := (mkF m 31 #[oR b38, oI 2, oR b136, oI 2, oI 24, oI 2, oI 112] [vI 112, vI 2, vR b136])) (fun _ k => st138 _ (own_r X138 tt 32 9 rfl (own_ldC X138 hx hZ e138 ((PV13.other W137 ne_b38_b136).other W138 ne_b38_b136) (j := (2 : Int32)) (x := (112 : Int32)) ⟨by decide, by decide⟩ rfl rfl rfl (hb hby d40_12) (own_e X138 tt 13 8 k rfl)))) ?_
  obtain ⟨T139, h139, X139, e139, W139, V139, st139⟩ := own_stB X138 hx hZ e138 V138s (j := (2 : Int32)) ⟨by decide, by decide⟩ 2 rfl (Nat.le_of_ble_eq_true rfl) (g := (mkF m 31 #[oR b38, oI 2, oR b136, oI 2, oI 24, oI 2, oI 112] [vI 112, vI 2, vR b136])) rfl rfl (hb hby d40_31)
  have K139 : Keep h0 h139 [b136] := K138.wr W139 (Or.inl (List.mem_of_getElem? (i := 0) rfl))
  have V139s : Arv Z h139 b136 k136 .byte (24 : Int32) own_ls8 (.int (0 : Int32)) := V139
  have N139 := Fr.snoc X139 N138 n_b136
  refine own_go (T' := T139) (f' := (mkF m 31 #[oR b38, oI 3, oR b136, oI 3, oI 24, oI 3, oI 101] [vI 101, vI 3, vR b136])) (fun _ k => st139 _ (own_r X139 tt 32 9 rfl (own_ldC X139 hx hZ e139 (((PV13.other W137 ne_b38_b136).other W138 ne_b38_b136).other W139 ne_b38_b136) (j := (3 : Int32)) (x := (101 : Int32)) ⟨by decide, by decide⟩ rfl rfl rfl (hb hby d40_12) (own_e X139 tt 13 8 k rfl)))) ?_
  obtain ⟨T140, h140, X140, e140, W140, V140, st140⟩ := own_stB X139 hx hZ e139 V139s (j := (3 : Int32)) ⟨by decide, by decide⟩ 3 rfl (Nat.le_of_ble_eq_true rfl) (g := (mkF m 31 #[oR b38, oI 3, oR b136, oI 3, oI 24, oI 3, oI 101] [vI 101, vI 3, vR b136])) rfl rfl (hb hby d40_31)
  have K140 : Keep h0 h140 [b136] := K139.wr W140 (Or.inl (List.mem_of_getElem? (i := 0) rfl))
  have V140s : Arv Z h140 b136 k136 .byte (24 : Int32) own_ls9 (.int (0 : Int32)) := V140
  have N140 := Fr.snoc X140 N139 n_b136
  refine own_go (T' := T140) (f' := (mkF m 31 #[oR b38, oI 4, oR b136, oI 4, oI 24, oI 4, oI 99] [vI 99, vI 4, vR b136])) (fun _ k => st140 _ (own_r X140 tt 32 9 rfl (own_ldC X140 hx hZ e140 ((((PV13.other W137 ne_b38_b136).other W138 ne_b38_b136).other W139 ne_b38_b136).other W140 ne_b38_b136) (j := (4 : Int32)) (x := (99 : Int32)) ⟨by decide, by decide⟩ rfl rfl rfl (hb hby d40_12) (own_e X140 tt 13 8 k rfl)))) ?_
  obtain ⟨T141, h141, X141, e141, W141, V141, st141⟩ := own_stB X140 hx hZ e140 V140s (j := (4 : Int32)) ⟨by decide, by decide⟩ 4 rfl (Nat.le_of_ble_eq_true rfl) (g := (mkF m 31 #[oR b38, oI 4, oR b136, oI 4, oI 24, oI 4, oI 99] [vI 99, vI 4, vR b136])) rfl rfl (hb hby d40_31)
  have K141 : Keep h0 h141 [b136] := K140.wr W141 (Or.inl (List.mem_of_getElem? (i := 0) rfl))
  have V141s : Arv Z h141 b136 k136 .byte (24 : Int32) own_ls10 (.int (0 : Int32)) := V141
  have N141 := Fr.snoc X141 N140 n_b136
  refine own_go (T' := T141) (f' := (mkF m 12 #[oR b38, oI 5, oR b136, oI 5, oI 24, oI 5, oI 99] [vI 5, vR b38])) (fun _ k => st141 _ (own_e X141 tt 32 9 k rfl)) ?_
  have G142 := (((((PV13.other W137 ne_b38_b136).other W138 ne_b38_b136).other W139 ne_b38_b136).other W140 ne_b38_b136).other W141 ne_b38_b136)
  refine own_go (T' := T141) (f' := (mkF m 31 #[oR b38, oI 5, oR b136, oI 5, oI 24, oI 5, oI 116] [vI 116, vI 5, vR b136])) (fun _ k => own_ldC X141 hx hZ e141 G142 (j := (5 : Int32)) (x := (116 : Int32)) ⟨by decide, by decide⟩ rfl rfl rfl (hb hby d40_12) (own_e X141 tt 13 8 k rfl)) ?_
  obtain ⟨T143, h143, X143, e143, W143, V143, st143⟩ := own_stB X141 hx hZ e141 V141s (j := (5 : Int32)) ⟨by decide, by decide⟩ 5 rfl (Nat.le_of_ble_eq_true rfl) (g := (mkF m 31 #[oR b38, oI 5, oR b136, oI 5, oI 24, oI 5, oI 116] [vI 116, vI 5, vR b136])) rfl rfl (hb hby d40_31)
  have K143 : Keep h0 h143 [b136] := K141.wr W143 (Or.inl (List.mem_of_getElem? (i := 0) rfl))
  have V143s : Arv Z h143 b136 k136 .byte (24 : Int32) own_ls11 (.int (0 : Int32)) := V143
  have N143 := Fr.snoc X143 N141 n_b136
  refine own_go (T' := T143) (f' := (mkF m 31 #[oR b38, oI 6, oR b136, oI 6, oI 24, oI 6, oI 101] [vI 101, vI 6, vR b136])) (fun _ k => st143 _ (own_r X143 tt 32 9 rfl (own_ldC X143 hx hZ e143 (G142.other W143 ne_b38_b136) (j := (6 : Int32)) (x := (101 : Int32)) ⟨by decide, by decide⟩ rfl rfl rfl (hb hby d40_12) (own_e X143 tt 13 8 k rfl)))) ?_
  obtain ⟨T144, h144, X144, e144, W144, V144, st144⟩ := own_stB X143 hx hZ e143 V143s (j := (6 : Int32)) ⟨by decide, by decide⟩ 6 rfl (Nat.le_of_ble_eq_true rfl) (g := (mkF m 31 #[oR b38, oI 6, oR b136, oI 6, oI 24, oI 6, oI 101] [vI 101, vI 6, vR b136])) rfl rfl (hb hby d40_31)
  have K144 : Keep h0 h144 [b136] := K143.wr W144 (Or.inl (List.mem_of_getElem? (i := 0) rfl))
  have V144s : Arv Z h144 b136 k136 .byte (24 : Int32) own_ls12 (.int (0 : Int32)) := V144
  have N144 := Fr.snoc X144 N143 n_b136
  refine own_go (T' := T144) (f' := (mkF m 31 #[oR b38, oI 7, oR b136, oI 7, oI 24, oI 7, oI 100] [vI 100, vI 7, vR b136])) (fun _ k => st144 _ (own_r X144 tt 32 9 rfl (own_ldC X144 hx hZ e144 ((G142.other W143 ne_b38_b136).other W144 ne_b38_b136) (j := (7 : Int32)) (x := (100 : Int32)) ⟨by decide, by decide⟩ rfl rfl rfl (hb hby d40_12) (own_e X144 tt 13 8 k rfl)))) ?_
  obtain ⟨T145, h145, X145, e145, W145, V145, st145⟩ := own_stB X144 hx hZ e144 V144s (j := (7 : Int32)) ⟨by decide, by decide⟩ 7 rfl (Nat.le_of_ble_eq_true rfl) (g := (mkF m 31 #[oR b38, oI 7, oR b136, oI 7, oI 24, oI 7, oI 100] [vI 100, vI 7, vR b136])) rfl rfl (hb hby d40_31)
  have K145 : Keep h0 h145 [b136] := K144.wr W145 (Or.inl (List.mem_of_getElem? (i := 0) rfl))
  have V145s : Arv Z h145 b136 k136 .byte (24 : Int32) own_ls13 (.int (0 : Int32)) := V145
  have N145 := Fr.snoc X145 N144 n_b136
  refine own_go (T' := T145) (f' := (mkF m 31 #[oR b38, oI 8, oR b136, oI 8, oI 24, oI 8, oI 32] [vI 32, vI 8, vR b136])) (fun _ k => st145 _ (own_r X145 tt 32 9 rfl (own_ldC X145 hx hZ e145 (((G142.other W143 ne_b38_b136).other W144 ne_b38_b136).other W145 ne_b38_b136) (j := (8 : Int32)) (x := (32 : Int32)) ⟨by decide, by decide⟩ rfl rfl rfl (hb hby d40_12) (own_e X145 tt 13 8 k rfl)))) ?_
  obtain ⟨T146, h146, X146, e146, W146, V146, st146⟩ := own_stB X145 hx hZ e145 V145s (j := (8 : Int32)) ⟨by decide, by decide⟩ 8 rfl (Nat.le_of_ble_eq_true rfl) (g := (mkF m 31 #[oR b38, oI 8, oR b136, oI 8, oI 24, oI 8, oI 32] [vI 32, vI 8, vR b136])) rfl rfl (hb hby d40_31)
  have K146 : Keep h0 h146 [b136] := K145.wr W146 (Or.inl (List.mem_of_getElem? (i := 0) rfl))
  have V146s : Arv Z h146 b136 k136 .byte (24 : Int32) own_ls14 (.int (0 : Int32)) := V146
  have N146 := Fr.snoc X146 N145 n_b136
  refine own_go (T' := T146) (f' := (mkF m 31 #[oR b38, oI 9, oR b136, oI 9, oI 24, oI 9, oI 98] [vI 98, vI 9, vR b136])) (fun _ k => st146 _ (own_r X146 tt 32 9 rfl (own_ldC X146 hx hZ e146 ((((G142.other W143 ne_b38_b136).other W144 ne_b38_b136).other W145 ne_b38_b136).other W146 ne_b38_b136) (j := (9 : Int32)) (x := (98 : Int32)) ⟨by decide, by decide⟩ rfl rfl rfl (hb hby d40_12) (own_e X146 tt 13 8 k rfl)))) ?_
  obtain ⟨T147, h147, X147, e147, W147, V147, st147⟩ := own_stB X146 hx hZ e146 V146s (j := (9 : Int32)) ⟨by decide, by decide⟩ 9 rfl (Nat.le_of_ble_eq_true rfl) (g := (mkF m 31 #[oR b38, oI 9, oR b136, oI 9, oI 24, oI 9, oI 98] [vI 98, vI 9, vR b136])) rfl rfl (hb hby d40_31)
  have K147 : Keep h0 h147 [b136] := K146.wr W147 (Or.inl (List.mem_of_getElem? (i := 0) rfl))
  have V147s : Arv Z h147 b136 k136 .byte (24 : Int32) own_ls15 (.int (0 : Int32)) := V147
  have N147 := Fr.snoc X147 N146 n_b136
  refine own_go (T' := T147) (f' := (mkF m 12 #[oR b38, oI 10, oR b136, oI 10, oI 24, oI 10, oI 98] [vI 10, vR b38])) (fun _ k => st147 _ (own_e X147 tt 32 9 k rfl)) ?_
  have G148 := (((((G142.other W143 ne_b38_b136).other W144 ne_b38_b136).other W145 ne_b38_b136).other W146 ne_b38_b136).other W147 ne_b38_b136)
  refine own_go (T' := T147) (f' := (mkF m 31 #[oR b38, oI 10, oR b136, oI 10, oI 24, oI 10, oI 101] [vI 101, vI 10, vR b136])) (fun _ k => own_ldC X147 hx hZ e147 G148 (j := (10 : Int32)) (x := (101 : Int32)) ⟨by decide, by decide⟩ rfl rfl rfl (hb hby d40_12) (own_e X147 tt 13 8 k rfl)) ?_
  obtain ⟨T149, h149, X149, e149, W149, V149, st149⟩ := own_stB X147 hx hZ e147 V147s (j := (10 : Int32)) ⟨by decide, by decide⟩ 10 rfl (Nat.le_of_ble_eq_true rfl) (g := (mkF m 31 #[oR b38, oI 10, oR b136, oI 10, oI 24, oI 10, oI 101] [vI 101, vI 10, vR b136])) rfl rfl (hb hby d40_31)
  have K149 : Keep h0 h149 [b136] := K147.wr W149 (Or.inl (List.mem_of_getElem? (i := 0) rfl))
  have V149s : Arv Z h149 b136 k136 .byte (24 : Int32) own_ls16 (.int (0 : Int32)) := V149
  have N149 := Fr.snoc X149 N147 n_b136
  refine own_go (T' := T149) (f' := (mkF m 31 #[oR b38, oI 11, oR b136, oI 11, oI 24, oI 11, oI 116] [vI 116, vI 11, vR b136])) (fun _ k => st149 _ (own_r X149 tt 32 9 rfl (own_ldC X149 hx hZ e149 (G148.other W149 ne_b38_b136) (j := (11 : Int32)) (x := (116 : Int32)) ⟨by decide, by decide⟩ rfl rfl rfl (hb hby d40_12) (own_e X149 tt 13 8 k rfl)))) ?_
  obtain ⟨T150, h150, X150, e150, W150, V150, st150⟩ := own_stB X149 hx hZ e149 V149s (j := (11 : Int32)) ⟨by decide, by decide⟩ 11 rfl (Nat.le_of_ble_eq_true rfl) (g := (mkF m 31 #[oR b38, oI 11, oR b136, oI 11, oI 24, oI 11, oI 116] [vI 116, vI 11, vR b136])) rfl rfl (hb hby d40_31)
  have K150 : Keep h0 h150 [b136] := K149.wr W150 (Or.inl (List.mem_of_getElem? (i := 0) rfl))
  have V150s : Arv Z h150 b136 k136 .byte (24 : Int32) own_ls17 (.int (0 : Int32)) := V150
  have N150 := Fr.snoc X150 N149 n_b136
  refine own_go (T' := T150) (f' := (mkF m 31 #[oR b38, oI 12, oR b136, oI 12, oI 24, oI 12, oI 119] [vI 119, vI 12, vR b136])) (fun _ k => st150 _ (own_r X150 tt 32 9 rfl (own_ldC X150 hx hZ e150 ((G148.other W149 ne_b38_b136).other W150 ne_b38_b136) (j := (12 : Int32)) (x := (119 : Int32)) ⟨by decide, by decide⟩ rfl rfl rfl (hb hby d40_12) (own_e X150 tt 13 8 k rfl)))) ?_
  obtain ⟨T151, h151, X151, e151, W151, V151, st151⟩ := own_stB X150 hx hZ e150 V150s (j := (12 : Int32)) ⟨by decide, by decide⟩ 12 rfl (Nat.le_of_ble_eq_true rfl) (g := (mkF m 31 #[oR b38, oI 12, oR b136, oI 12, oI 24, oI 12, oI 119] [vI 119, vI 12, vR b136])) rfl rfl (hb hby d40_31)
  have K151 : Keep h0 h151 [b136] := K150.wr W151 (Or.inl (List.mem_of_getElem? (i := 0) rfl))
  have V151s : Arv Z h151 b136 k136 .byte (24 : Int32) own_ls18 (.int (0 : Int32)) := V151
  have N151 := Fr.snoc X151 N150 n_b136
  refine own_go (T' := T151) (f' := (mkF m 31 #[oR b38, oI 13, oR b136, oI 13, oI 24, oI 13, oI 101] [vI 101, vI 13, vR b136])) (fun _ k => st151 _ (own_r X151 tt 32 9 rfl (own_ldC X151 hx hZ e151 (((G148.other W149 ne_b38_b136).other W150 ne_b38_b136).other W151 ne_b38_b136) (j := (13 : Int32)) (x := (101 : Int32)) ⟨by decide, by decide⟩ rfl rfl rfl (hb hby d40_12) (own_e X151 tt 13 8 k rfl)))) ?_
  obtain ⟨T152, h152, X152, e152, W152, V152, st152⟩ := own_stB X151 hx hZ e151 V151s (j := (13 : Int32)) ⟨by decide, by decide⟩ 13 rfl (Nat.le_of_ble_eq_true rfl) (g := (mkF m 31 #[oR b38, oI 13, oR b136, oI 13, oI 24, oI 13, oI 101] [vI 101, vI 13, vR b136])) rfl rfl (hb hby d40_31)
  have K152 : Keep h0 h152 [b136] := K151.wr W152 (Or.inl (List.mem_of_getElem? (i := 0) rfl))
  have V152s : Arv Z h152 b136 k136 .byte (24 : Int32) own_ls19 (.int (0 : Int32)) := V152
  have N152 := Fr.snoc X152 N151 n_b136
  refine own_go (T' := T152) (f' := (mkF m 31 #[oR b38, oI 14, oR b136, oI 14, oI 24, oI 14, oI 101] [vI 101, vI 14, vR b136])) (fun _ k => st152 _ (own_r X152 tt 32 9 rfl (own_ldC X152 hx hZ e152 ((((G148.other W149 ne_b38_b136).other W150 ne_b38_b136).other W151 ne_b38_b136).other W152 ne_b38_b136) (j := (14 : Int32)) (x := (101 : Int32)) ⟨by decide, by decide⟩ rfl rfl rfl (hb hby d40_12) (own_e X152 tt 13 8 k rfl)))) ?_
  obtain ⟨T153, h153, X153, e153, W153, V153, st153⟩ := own_stB X152 hx hZ e152 V152s (j := (14 : Int32)) ⟨by decide, by decide⟩ 14 rfl (Nat.le_of_ble_eq_true rfl) (g := (mkF m 31 #[oR b38, oI 14, oR b136, oI 14, oI 24, oI 14, oI 101] [vI 101, vI 14, vR b136])) rfl rfl (hb hby d40_31)
  have K153 : Keep h0 h153 [b136] := K152.wr W153 (Or.inl (List.mem_of_getElem? (i := 0) rfl))
  have V153s : Arv Z h153 b136 k136 .byte (24 : Int32) own_ls20 (.int (0 : Int32)) := V153
  have N153 := Fr.snoc X153 N152 n_b136
  refine own_go (T' := T153) (f' := (mkF m 12 #[oR b38, oI 15, oR b136, oI 15, oI 24, oI 15, oI 101] [vI 15, vR b38])) (fun _ k => st153 _ (own_e X153 tt 32 9 k rfl)) ?_
  have G154 := (((((G148.other W149 ne_b38_b136).other W150 ne_b38_b136).other W151 ne_b38_b136).other W152 ne_b38_b136).other W153 ne_b38_b136)
  refine own_go (T' := T153) (f' := (mkF m 31 #[oR b38, oI 15, oR b136, oI 15, oI 24, oI 15, oI 110] [vI 110, vI 15, vR b136])) (fun _ k => own_ldC X153 hx hZ e153 G154 (j := (15 : Int32)) (x := (110 : Int32)) ⟨by decide, by decide⟩ rfl rfl rfl (hb hby d40_12) (own_e X153 tt 13 8 k rfl)) ?_
  obtain ⟨T155, h155, X155, e155, W155, V155, st155⟩ := own_stB X153 hx hZ e153 V153s (j := (15 : Int32)) ⟨by decide, by decide⟩ 15 rfl (Nat.le_of_ble_eq_true rfl) (g := (mkF m 31 #[oR b38, oI 15, oR b136, oI 15, oI 24, oI 15, oI 110] [vI 110, vI 15, vR b136])) rfl rfl (hb hby d40_31)
  have K155 : Keep h0 h155 [b136] := K153.wr W155 (Or.inl (List.mem_of_getElem? (i := 0) rfl))
  have V155s : Arv Z h155 b136 k136 .byte (24 : Int32) own_ls21 (.int (0 : Int32)) := V155
  have N155 := Fr.snoc X155 N153 n_b136
  refine own_go (T' := T155) (f' := (mkF m 31 #[oR b38, oI 16, oR b136, oI 16, oI 24, oI 16, oI 32] [vI 32, vI 16, vR b136])) (fun _ k => st155 _ (own_r X155 tt 32 9 rfl (own_ldC X155 hx hZ e155 (G154.other W155 ne_b38_b136) (j := (16 : Int32)) (x := (32 : Int32)) ⟨by decide, by decide⟩ rfl rfl rfl (hb hby d40_12) (own_e X155 tt 13 8 k rfl)))) ?_
  obtain ⟨T156, h156, X156, e156, W156, V156, st156⟩ := own_stB X155 hx hZ e155 V155s (j := (16 : Int32)) ⟨by decide, by decide⟩ 16 rfl (Nat.le_of_ble_eq_true rfl) (g := (mkF m 31 #[oR b38, oI 16, oR b136, oI 16, oI 24, oI 16, oI 32] [vI 32, vI 16, vR b136])) rfl rfl (hb hby d40_31)
  have K156 : Keep h0 h156 [b136] := K155.wr W156 (Or.inl (List.mem_of_getElem? (i := 0) rfl))
  have V156s : Arv Z h156 b136 k136 .byte (24 : Int32) own_ls22 (.int (0 : Int32)) := V156
  have N156 := Fr.snoc X156 N155 n_b136
  refine own_go (T' := T156) (f' := (mkF m 31 #[oR b38, oI 17, oR b136, oI 17, oI 24, oI 17, .val (.int i132)] [(.int (i132.toInt8.toInt32)), vI 17, vR b136])) (fun _ k => st156 _ (own_r X156 tt 32 9 rfl (own_ldC X156 hx hZ e156 ((G154.other W155 ne_b38_b136).other W156 ne_b38_b136) (j := (17 : Int32)) (x := i132) ⟨by decide, by decide⟩ rfl rfl rfl (hb hby d40_12) (own_r X156 tt 13 3 rfl (XS.icmpYes X156.here hx rfl (pc0 := 20) (pc' := 26) rfl (hb hby d40_20) rfl (flt PP2).2.2.2 (by decide) (by decide) (own_e X156 tt 26 4 k rfl)))))) ?_
  obtain ⟨T157, h157, X157, e157, W157, V157, st157⟩ := own_stB X156 hx hZ e156 V156s (j := (17 : Int32)) ⟨by decide, by decide⟩ 17 rfl (Nat.le_of_ble_eq_true rfl) (g := (mkF m 31 #[oR b38, oI 17, oR b136, oI 17, oI 24, oI 17, .val (.int i132)] [(.int (i132.toInt8.toInt32)), vI 17, vR b136])) rfl rfl (hb hby d40_31)
  have K157 : Keep h0 h157 [b136] := K156.wr W157 (Or.inl (List.mem_of_getElem? (i := 0) rfl))
  have V157s : Arv Z h157 b136 k136 .byte (24 : Int32) [(.int (101 : Int32)), (.int (120 : Int32)), (.int (112 : Int32)), (.int (101 : Int32)), (.int (99 : Int32)), (.int (116 : Int32)), (.int (101 : Int32)), (.int (100 : Int32)), (.int (32 : Int32)), (.int (98 : Int32)), (.int (101 : Int32)), (.int (116 : Int32)), (.int (119 : Int32)), (.int (101 : Int32)), (.int (101 : Int32)), (.int (110 : Int32)), (.int (32 : Int32)), (.int (nar .byte (i132.toInt8.toInt32))), (.int (0 : Int32)), (.int (0 : Int32)), (.int (0 : Int32)), (.int (0 : Int32)), (.int (0 : Int32)), (.int (0 : Int32))] (.int (0 : Int32)) := V157
  have N157 := Fr.snoc X157 N156 n_b136
  refine own_go (T' := T157) (f' := (mkF m 31 #[oR b38, oI 18, oR b136, oI 18, oI 24, oI 18, oI 32] [vI 32, vI 18, vR b136])) (fun _ k => st157 _ (own_r X157 tt 32 9 rfl (own_ldC X157 hx hZ e157 (((G154.other W155 ne_b38_b136).other W156 ne_b38_b136).other W157 ne_b38_b136) (j := (18 : Int32)) (x := (32 : Int32)) ⟨by decide, by decide⟩ rfl rfl rfl (hb hby d40_12) (own_e X157 tt 13 8 k rfl)))) ?_
  obtain ⟨T158, h158, X158, e158, W158, V158, st158⟩ := own_stB X157 hx hZ e157 V157s (j := (18 : Int32)) ⟨by decide, by decide⟩ 18 rfl (Nat.le_of_ble_eq_true rfl) (g := (mkF m 31 #[oR b38, oI 18, oR b136, oI 18, oI 24, oI 18, oI 32] [vI 32, vI 18, vR b136])) rfl rfl (hb hby d40_31)
  have K158 : Keep h0 h158 [b136] := K157.wr W158 (Or.inl (List.mem_of_getElem? (i := 0) rfl))
  have V158s : Arv Z h158 b136 k136 .byte (24 : Int32) [(.int (101 : Int32)), (.int (120 : Int32)), (.int (112 : Int32)), (.int (101 : Int32)), (.int (99 : Int32)), (.int (116 : Int32)), (.int (101 : Int32)), (.int (100 : Int32)), (.int (32 : Int32)), (.int (98 : Int32)), (.int (101 : Int32)), (.int (116 : Int32)), (.int (119 : Int32)), (.int (101 : Int32)), (.int (101 : Int32)), (.int (110 : Int32)), (.int (32 : Int32)), (.int (nar .byte (i132.toInt8.toInt32))), (.int (32 : Int32)), (.int (0 : Int32)), (.int (0 : Int32)), (.int (0 : Int32)), (.int (0 : Int32)), (.int (0 : Int32))] (.int (0 : Int32)) := V158
  have N158 := Fr.snoc X158 N157 n_b136
  refine own_go (T' := T158) (f' := (mkF m 31 #[oR b38, oI 19, oR b136, oI 19, oI 24, oI 19, oI 97] [vI 97, vI 19, vR b136])) (fun _ k => st158 _ (own_r X158 tt 32 9 rfl (own_ldC X158 hx hZ e158 ((((G154.other W155 ne_b38_b136).other W156 ne_b38_b136).other W157 ne_b38_b136).other W158 ne_b38_b136) (j := (19 : Int32)) (x := (97 : Int32)) ⟨by decide, by decide⟩ rfl rfl rfl (hb hby d40_12) (own_e X158 tt 13 8 k rfl)))) ?_
  obtain ⟨T159, h159, X159, e159, W159, V159, st159⟩ := own_stB X158 hx hZ e158 V158s (j := (19 : Int32)) ⟨by decide, by decide⟩ 19 rfl (Nat.le_of_ble_eq_true rfl) (g := (mkF m 31 #[oR b38, oI 19, oR b136, oI 19, oI 24, oI 19, oI 97] [vI 97, vI 19, vR b136])) rfl rfl (hb hby d40_31)
  have K159 : Keep h0 h159 [b136] := K158.wr W159 (Or.inl (List.mem_of_getElem? (i := 0) rfl))
  have V159s : Arv Z h159 b136 k136 .byte (24 : Int32) [(.int (101 : Int32)), (.int (120 : Int32)), (.int (112 : Int32)), (.int (101 : Int32)), (.int (99 : Int32)), (.int (116 : Int32)), (.int (101 : Int32)), (.int (100 : Int32)), (.int (32 : Int32)), (.int (98 : Int32)), (.int (101 : Int32)), (.int (116 : Int32)), (.int (119 : Int32)), (.int (101 : Int32)), (.int (101 : Int32)), (.int (110 : Int32)), (.int (32 : Int32)), (.int (nar .byte (i132.toInt8.toInt32))), (.int (32 : Int32)), (.int (97 : Int32)), (.int (0 : Int32)), (.int (0 : Int32)), (.int (0 : Int32)), (.int (0 : Int32))] (.int (0 : Int32)) := V159
  have N159 := Fr.snoc X159 N158 n_b136
  refine own_go (T' := T159) (f' := (mkF m 12 #[oR b38, oI 20, oR b136, oI 20, oI 24, oI 20, oI 97] [vI 20, vR b38])) (fun _ k => st159 _ (own_e X159 tt 32 9 k rfl)) ?_
  have G160 := (((((G154.other W155 ne_b38_b136).other W156 ne_b38_b136).other W157 ne_b38_b136).other W158 ne_b38_b136).other W159 ne_b38_b136)
  refine own_go (T' := T159) (f' := (mkF m 31 #[oR b38, oI 20, oR b136, oI 20, oI 24, oI 20, oI 110] [vI 110, vI 20, vR b136])) (fun _ k => own_ldC X159 hx hZ e159 G160 (j := (20 : Int32)) (x := (110 : Int32)) ⟨by decide, by decide⟩ rfl rfl rfl (hb hby d40_12) (own_e X159 tt 13 8 k rfl)) ?_
  obtain ⟨T161, h161, X161, e161, W161, V161, st161⟩ := own_stB X159 hx hZ e159 V159s (j := (20 : Int32)) ⟨by decide, by decide⟩ 20 rfl (Nat.le_of_ble_eq_true rfl) (g := (mkF m 31 #[oR b38, oI 20, oR b136, oI 20, oI 24, oI 20, oI 110] [vI 110, vI 20, vR b136])) rfl rfl (hb hby d40_31)
  have K161 : Keep h0 h161 [b136] := K159.wr W161 (Or.inl (List.mem_of_getElem? (i := 0) rfl))
  have V161s : Arv Z h161 b136 k136 .byte (24 : Int32) [(.int (101 : Int32)), (.int (120 : Int32)), (.int (112 : Int32)), (.int (101 : Int32)), (.int (99 : Int32)), (.int (116 : Int32)), (.int (101 : Int32)), (.int (100 : Int32)), (.int (32 : Int32)), (.int (98 : Int32)), (.int (101 : Int32)), (.int (116 : Int32)), (.int (119 : Int32)), (.int (101 : Int32)), (.int (101 : Int32)), (.int (110 : Int32)), (.int (32 : Int32)), (.int (nar .byte (i132.toInt8.toInt32))), (.int (32 : Int32)), (.int (97 : Int32)), (.int (110 : Int32)), (.int (0 : Int32)), (.int (0 : Int32)), (.int (0 : Int32))] (.int (0 : Int32)) := V161
  have N161 := Fr.snoc X161 N159 n_b136
  refine own_go (T' := T161) (f' := (mkF m 31 #[oR b38, oI 21, oR b136, oI 21, oI 24, oI 21, oI 100] [vI 100, vI 21, vR b136])) (fun _ k => st161 _ (own_r X161 tt 32 9 rfl (own_ldC X161 hx hZ e161 (G160.other W161 ne_b38_b136) (j := (21 : Int32)) (x := (100 : Int32)) ⟨by decide, by decide⟩ rfl rfl rfl (hb hby d40_12) (own_e X161 tt 13 8 k rfl)))) ?_
  obtain ⟨T162, h162, X162, e162, W162, V162, st162⟩ := own_stB X161 hx hZ e161 V161s (j := (21 : Int32)) ⟨by decide, by decide⟩ 21 rfl (Nat.le_of_ble_eq_true rfl) (g := (mkF m 31 #[oR b38, oI 21, oR b136, oI 21, oI 24, oI 21, oI 100] [vI 100, vI 21, vR b136])) rfl rfl (hb hby d40_31)
  have K162 : Keep h0 h162 [b136] := K161.wr W162 (Or.inl (List.mem_of_getElem? (i := 0) rfl))
  have V162s : Arv Z h162 b136 k136 .byte (24 : Int32) [(.int (101 : Int32)), (.int (120 : Int32)), (.int (112 : Int32)), (.int (101 : Int32)), (.int (99 : Int32)), (.int (116 : Int32)), (.int (101 : Int32)), (.int (100 : Int32)), (.int (32 : Int32)), (.int (98 : Int32)), (.int (101 : Int32)), (.int (116 : Int32)), (.int (119 : Int32)), (.int (101 : Int32)), (.int (101 : Int32)), (.int (110 : Int32)), (.int (32 : Int32)), (.int (nar .byte (i132.toInt8.toInt32))), (.int (32 : Int32)), (.int (97 : Int32)), (.int (110 : Int32)), (.int (100 : Int32)), (.int (0 : Int32)), (.int (0 : Int32))] (.int (0 : Int32)) := V162
  have N162 := Fr.snoc X162 N161 n_b136
  refine own_go (T' := T162) (f' := (mkF m 31 #[oR b38, oI 22, oR b136, oI 22, oI 24, oI 22, oI 32] [vI 32, vI 22, vR b136])) (fun _ k => st162 _ (own_r X162 tt 32 9 rfl (own_ldC X162 hx hZ e162 ((G160.other W161 ne_b38_b136).other W162 ne_b38_b136) (j := (22 : Int32)) (x := (32 : Int32)) ⟨by decide, by decide⟩ rfl rfl rfl (hb hby d40_12) (own_e X162 tt 13 8 k rfl)))) ?_
  obtain ⟨T163, h163, X163, e163, W163, V163, st163⟩ := own_stB X162 hx hZ e162 V162s (j := (22 : Int32)) ⟨by decide, by decide⟩ 22 rfl (Nat.le_of_ble_eq_true rfl) (g := (mkF m 31 #[oR b38, oI 22, oR b136, oI 22, oI 24, oI 22, oI 32] [vI 32, vI 22, vR b136])) rfl rfl (hb hby d40_31)
  have K163 : Keep h0 h163 [b136] := K162.wr W163 (Or.inl (List.mem_of_getElem? (i := 0) rfl))
  have V163s : Arv Z h163 b136 k136 .byte (24 : Int32) [(.int (101 : Int32)), (.int (120 : Int32)), (.int (112 : Int32)), (.int (101 : Int32)), (.int (99 : Int32)), (.int (116 : Int32)), (.int (101 : Int32)), (.int (100 : Int32)), (.int (32 : Int32)), (.int (98 : Int32)), (.int (101 : Int32)), (.int (116 : Int32)), (.int (119 : Int32)), (.int (101 : Int32)), (.int (101 : Int32)), (.int (110 : Int32)), (.int (32 : Int32)), (.int (nar .byte (i132.toInt8.toInt32))), (.int (32 : Int32)), (.int (97 : Int32)), (.int (110 : Int32)), (.int (100 : Int32)), (.int (32 : Int32)), (.int (0 : Int32))] (.int (0 : Int32)) := V163
  have N163 := Fr.snoc X163 N162 n_b136
  refine own_go (T' := T163) (f' := (mkF m 31 #[oR b38, oI 23, oR b136, oI 23, oI 24, oI 23, .val (.int i133)] [(.int (i133.toInt8.toInt32)), vI 23, vR b136])) (fun _ k => st163 _ (own_r X163 tt 32 9 rfl (own_ldC X163 hx hZ e163 (((G160.other W161 ne_b38_b136).other W162 ne_b38_b136).other W163 ne_b38_b136) (j := (23 : Int32)) (x := i133) ⟨by decide, by decide⟩ rfl rfl rfl (hb hby d40_12) (own_r X163 tt 13 3 rfl (XS.icmpYes X163.here hx rfl (pc0 := 20) (pc' := 26) rfl (hb hby d40_20) rfl (flt PP3).2.2.2 (by decide) (by decide) (own_e X163 tt 26 4 k rfl)))))) ?_
  obtain ⟨T164, h164, X164, e164, W164, V164, st164⟩ := own_stB X163 hx hZ e163 V163s (j := (23 : Int32)) ⟨by decide, by decide⟩ 23 rfl (Nat.le_of_ble_eq_true rfl) (g := (mkF m 31 #[oR b38, oI 23, oR b136, oI 23, oI 24, oI 23, .val (.int i133)] [(.int (i133.toInt8.toInt32)), vI 23, vR b136])) rfl rfl (hb hby d40_31)
  have K164 : Keep h0 h164 [b136] := K163.wr W164 (Or.inl (List.mem_of_getElem? (i := 0) rfl))
  have V164s : Arv Z h164 b136 k136 .byte (24 : Int32) [(.int (101 : Int32)), (.int (120 : Int32)), (.int (112 : Int32)), (.int (101 : Int32)), (.int (99 : Int32)), (.int (116 : Int32)), (.int (101 : Int32)), (.int (100 : Int32)), (.int (32 : Int32)), (.int (98 : Int32)), (.int (101 : Int32)), (.int (116 : Int32)), (.int (119 : Int32)), (.int (101 : Int32)), (.int (101 : Int32)), (.int (110 : Int32)), (.int (32 : Int32)), (.int (nar .byte (i132.toInt8.toInt32))), (.int (32 : Int32)), (.int (97 : Int32)), (.int (110 : Int32)), (.int (100 : Int32)), (.int (32 : Int32)), (.int (nar .byte (i133.toInt8.toInt32)))] (.int (0 : Int32)) := V164
  have N164 := Fr.snoc X164 N163 n_b136
  refine own_go (T' := T164) (f' := (mkF m 46 #[oR b38, oI 24, oR b136, oI 24, oI 24, oI 24, .val (.int i133)] [vI 24])) (fun _ k => st164 _ (own_e X164 tt 32 8 k rfl)) ?_
  refine own_ret X164 (v := some (.int (24 : Int32))) (fun h => by rw [Br] at h; cases h) Bs (fun fs hr => retI X164 hx Br (hb hby d40_46) hr) ?_ (by decide) (by decide)
  show Q40a237 Z b38 b136 k38 i132 i133 k136 h0 n0 _ T164.heap _
  rw [e164]
  exact ⟨rfl, N164, K164, V164s⟩
theorem pd34 : parseMethodDescriptor "([CI[BII)I" = some ⟨[(.array .char), .int, (.array .byte), .int, .int], some .int⟩ := by decide +kernel
def own_t39 (pc : Nat) : Option (Instr × Nat) := bif Nat.ble pc 7 then (bif Nat.ble pc 4 then (bif Nat.ble pc 0 then (bif Nat.beq pc 0 then some (.iload_n 2, 1) else none) else (bif Nat.ble pc 3 then (bif Nat.beq pc 3 then some (.astore_n 3, 1) else none) else (bif Nat.beq pc 4 then some (.aload_n 0, 1) else none))) else (bif Nat.ble pc 5 then (bif Nat.beq pc 5 then some (.iload_n 1, 1) else none) else (bif Nat.ble pc 6 then (bif Nat.beq pc 6 then some (.aload_n 3, 1) else none) else (bif Nat.beq pc 7 then some (.iconst 0, 1) else none)))) else (bif Nat.ble pc 14 then (bif Nat.ble pc 8 then (bif Nat.beq pc 8 then some (.iload_n 2, 1) else none) else (bif Nat.ble pc 12 then (bif Nat.beq pc 12 then some (.istore 4, 2) else none) else (bif Nat.beq pc 14 then some (.iload 4, 2) else none))) else (bif Nat.ble pc 16 then (bif Nat.beq pc 16 then some (.iload_n 2, 1) else none) else (bif Nat.ble pc 17 then (bif Nat.beq pc 17 then some (.if_icmp .eq 40, 3) else none) else (bif Nat.beq pc 57 then some (.aload_n 3, 1) else none))))
theorem own_ok39 : ∀ pc q, own_fetch 59 own_t39 pc = some q → decode jdk_52_method_16_code pc = .ok q := own_tab (by decide +kernel)
theorem d39_1 : decode jdk_52_method_16_code 1 = .ok (.newarray .byte, 2) := by decide +kernel
theorem d39_9 : decode jdk_52_method_16_code 9 = .ok (.invokestatic 115, 3) := by decide +kernel
theorem d39_58 : decode jdk_52_method_16_code 58 = .ok (.areturn, 1) := by decide +kernel
theorem ef_rm39a236 (m : MethodId) (b38 : Addr) : entryFrame m #[(.ref b38), (.int (0 : Int32)), (.int (24 : Int32))] 6 = mkF m 0 #[.val (.ref b38), .val (.int (0 : Int32)), .val (.int (24 : Int32)), .unset, .unset, .unset] [] := by first | (simp [entryFrame, mkF, argsToLocals, Value.category]; done) | rfl
def Q39a236 (Z : State) (b38 : Addr) (k38 : ClassId) (i132 : Int32) (i133 : Int32) (h0 : Heap) (n0 : Nat) (v : Option Value) (h : Heap) (L : List Loc) : Prop := ∃ (b136 : Addr) (k136 : ClassId), v = some (.ref b136) ∧ Fr n0 L ∧ Keep h0 h [] ∧ n0 ≤ b136 ∧ h0.size ≤ b136 ∧ Arv Z h b136 k136 .byte (24 : Int32) [(.int (101 : Int32)), (.int (120 : Int32)), (.int (112 : Int32)), (.int (101 : Int32)), (.int (99 : Int32)), (.int (116 : Int32)), (.int (101 : Int32)), (.int (100 : Int32)), (.int (32 : Int32)), (.int (98 : Int32)), (.int (101 : Int32)), (.int (116 : Int32)), (.int (119 : Int32)), (.int (101 : Int32)), (.int (101 : Int32)), (.int (110 : Int32)), (.int (32 : Int32)), (.int (nar .byte (i132.toInt8.toInt32))), (.int (32 : Int32)), (.int (97 : Int32)), (.int (110 : Int32)), (.int (100 : Int32)), (.int (32 : Int32)), (.int (nar .byte (i133.toInt8.toInt32)))] (.int (0 : Int32)) ∧ Exa Z h b136 "[B"
set_option maxRecDepth 65536 in
set_option maxHeartbeats 40000000 in
theorem rm39a236 (l : Launch) (Z : State) (a0 : Array Value) (hw : ∀ d ∈ tables_1, d.before a0 Z = true) (ws : List Jvm.Cond) (b38 : Addr) (k38 : ClassId) (i132 : Int32) (i133 : Int32) (h0 : Heap) (n0 : Nat) (Z0 : n0 ≤ h0.size) (PV13 : Arv Z h0 b38 k38 .char (24 : Int32) [(.int (101 : Int32)), (.int (120 : Int32)), (.int (112 : Int32)), (.int (101 : Int32)), (.int (99 : Int32)), (.int (116 : Int32)), (.int (101 : Int32)), (.int (100 : Int32)), (.int (32 : Int32)), (.int (98 : Int32)), (.int (101 : Int32)), (.int (116 : Int32)), (.int (119 : Int32)), (.int (101 : Int32)), (.int (101 : Int32)), (.int (110 : Int32)), (.int (32 : Int32)), (.int i132), (.int (32 : Int32)), (.int (97 : Int32)), (.int (110 : Int32)), (.int (100 : Int32)), (.int (32 : Int32)), (.int i133)] (.int (0 : Int32))) (PP2 : ¬ ((255 : Int32) < i132)) (PP3 : ¬ ((255 : Int32) < i133)) :
    own_Met l mn36 jdk_52_method_16_code 6 (some (.array .byte)) ws (oRm 1 1 24 18) #[(.ref b38), (.int (0 : Int32)), (.int (24 : Int32))] Z h0 (Q39a236 Z b38 k38 i132 i133 h0 n0) := by
  refine own_met (own := "java/lang/StringUTF16") rfl (plainFor_of_name pn_10) ?_
  intro p e s m below meth c s₁ hx hby hml hZ hown hnm X0 e0 Br Bs
  have N0 := Fr.nil n0
  have tt := own_tt hx hby own_ok39
  rw [ef_rm39a236 m b38]
  refine own_go (T' := s₁) (f' := (mkF m 1 #[oR b38, oI 0, oI 24, oU, oU, oU] [vI 24])) (fun _ k => own_e X0 tt 0 1 k rfl) ?_
  obtain ⟨T136, h136, k136, X136, e136, E136, A136, EA136, st136⟩ := newPE (aty := .byte) X0 hx hZ (ow32 hw) e0 (g := (mkF m 1 #[oR b38, oI 0, oI 24, oU, oU, oU] [vI 24])) rfl (hb hby d39_1) rfl (by decide) (cap := 24) (by decide) (by decide) (by decide) (by decide) (ad := "[B") (by decide +kernel)
  obtain ⟨b136, g_b136⟩ : ∃ z, z = h0.size := ⟨_, rfl⟩
  have sg_b136 : h0.size ≤ b136 := Nat.le_of_eq g_b136.symm
  rw [← g_b136] at A136 EA136 st136
  have n_b136 : n0 ≤ b136 := Nat.le_trans Z0 (Nat.le_of_eq g_b136.symm)
  have sz_b136 : h0.size ≤ b136 := Nat.le_trans (Keep.refl h0 []).1 (Nat.le_of_eq g_b136.symm)
  have K136 : Keep h0 h136 [] := (Keep.refl h0 []).ext E136
  have V_b136 : Arv Z h136 b136 k136 .byte (24 : Int32) own_ls5 (.int (0 : Int32)) := (Arv.new A136 (by decide)).pad (pad_rep [] (.int (0 : Int32)) 24)
  refine own_go (T' := T136) (f' := (mkF m 9 #[oR b38, oI 0, oI 24, oR b136, oU, oU] [vI 24, vI 0, vR b136, vI 0, vR b38])) (fun _ k => st136 _ (own_e X136 tt 3 6 k rfl)) ?_
  have q165 : b38 ≠ b136 := (Nat.ne_of_lt (Nat.lt_of_lt_of_le PV13.lt sz_b136))
  obtain ⟨_, T166, Lc166, X166, hQ166, st166⟩ := own_outC (Jvm.LawKit.callS X136 hx (y := mn35) hown (mvT hZ (ow213 hw)) (mvT hZ (ow214 hw)) (mvT hZ (ow211 hw)) (mvT hZ (ow215 hw)) (by decide) (backOf (W := 0) (rm40a237 l Z a0 hw [] b38 b136 k38 i132 i133 k136 h136 n0 (Nat.le_trans Z0 E136.1) (PV13.ext E136) V_b136 PP2 PP3 q165 n_b136) hZ (ow215 hw) (ow211 hw) (by decide) (by decide)) (g := (mkF m 9 #[oR b38, oI 0, oI 24, oR b136, oU, oU] [vI 24, vI 0, vR b136, vI 0, vR b38])) rfl (by rw [hml]; rfl) (argsL := [(.ref b38), (.int (0 : Int32)), (.ref b136), (.int (0 : Int32)), (.int (24 : Int32))]) (rest := []) (lenOf pd34 rfl) rfl (by show 2 * 0 + _ ≤ _; exact Nat.le_of_eq rfl) (hb hby d39_9) (fun _ _ => ⟨rfl, e136, (by decide : 1 + 0 ≤ _), (by decide : 24 + 0 ≤ _)⟩))
  obtain ⟨rfl, N166q, K166, g166_0⟩ := hQ166
  have N166 := Fr.app N0 N166q
  have eK166 : T166.heap = T166.heap := rfl
  have KK166 : Keep h0 T166.heap [] := Keep.trans K136 K166 (allS (Or.inr sz_b136) all0)
  obtain ⟨_, X166, N166⟩ := own_hide X166 N166
  refine own_go (T' := T166) (f' := (mkF m 58 #[oR b38, oI 0, oI 24, oR b136, oI 24, oU] [vR b136])) (fun _ k => st166 _ (own_e X166 tt 12 5 k rfl)) ?_
  refine own_ret X166 (v := some (.ref b136)) (fun h => by rw [Br] at h; cases h) Bs (fun fs hr => own_retA X166 hx Br rfl rfl (hb hby d39_58) hr) ?_ (by decide) (by decide)
  show Q39a236 Z b38 k38 i132 i133 h0 n0 _ T166.heap _
  rw [eK166]
  exact ⟨b136, k136, rfl, N166, KK166, n_b136, sz_b136, g166_0, (EA136.keep K166)⟩
theorem pd32 : parseMethodDescriptor "([CII)[B" = some ⟨[(.array .char), .int, .int], some (.array .byte)⟩ := by decide +kernel
def own_t41 (pc : Nat) : Option (Instr × Nat) := bif Nat.ble pc 3 then (bif Nat.ble pc 0 then (bif Nat.beq pc 0 then some (.iload_n 1, 1) else none) else (bif Nat.ble pc 1 then (bif Nat.beq pc 1 then some (.aload_n 0, 1) else none) else (bif Nat.beq pc 3 then some (.isub, 1) else none))) else (bif Nat.ble pc 4 then (bif Nat.beq pc 4 then some (.bipush 31, 2) else none) else (bif Nat.ble pc 6 then (bif Nat.beq pc 6 then some (.iushr, 1) else none) else (bif Nat.beq pc 7 then some (.i2b, 1) else none)))
theorem own_ok41 : ∀ pc q, own_fetch 9 own_t41 pc = some q → decode jdk_52_method_15_code pc = .ok q := own_tab (by decide +kernel)
theorem d41_2 : decode jdk_52_method_15_code 2 = .ok (.arraylength, 1) := by decide +kernel
theorem d41_8 : decode jdk_52_method_15_code 8 = .ok (.ireturn, 1) := by decide +kernel
theorem ef_rm41a238 (m : MethodId) (b167a : Addr) : entryFrame m #[(.ref b167a), (.int (24 : Int32))] 2 = mkF m 0 #[.val (.ref b167a), .val (.int (24 : Int32))] [] := by first | (simp [entryFrame, mkF, argsToLocals, Value.category]; done) | rfl
def Q41a238 (Z : State) (b167a : Addr) (k167b : ClassId) (i168 : Int32) (i169 : Int32) (h0 : Heap) (n0 : Nat) (v : Option Value) (h : Heap) (L : List Loc) : Prop := v = some (.int (0 : Int32)) ∧ Fr n0 L ∧ h = h0
set_option maxRecDepth 65536 in
set_option maxHeartbeats 40000000 in
theorem rm41a238 (l : Launch) (Z : State) (a0 : Array Value) (hw : ∀ d ∈ tables_1, d.before a0 Z = true) (ws : List Jvm.Cond) (b167a : Addr) (k167b : ClassId) (i168 : Int32) (i169 : Int32) (h0 : Heap) (n0 : Nat) (Z0 : n0 ≤ h0.size) (PV18 : Arv Z h0 b167a k167b .byte (24 : Int32) [(.int (101 : Int32)), (.int (120 : Int32)), (.int (112 : Int32)), (.int (101 : Int32)), (.int (99 : Int32)), (.int (116 : Int32)), (.int (101 : Int32)), (.int (100 : Int32)), (.int (32 : Int32)), (.int (98 : Int32)), (.int (101 : Int32)), (.int (116 : Int32)), (.int (119 : Int32)), (.int (101 : Int32)), (.int (101 : Int32)), (.int (110 : Int32)), (.int (32 : Int32)), (.int i168), (.int (32 : Int32)), (.int (97 : Int32)), (.int (110 : Int32)), (.int (100 : Int32)), (.int (32 : Int32)), (.int i169)] (.int (0 : Int32))) :
    own_Met l mn37 jdk_52_method_15_code 2 (some .byte) ws (oRm 0 0 0 0) #[(.ref b167a), (.int (24 : Int32))] Z h0 (Q41a238 Z b167a k167b i168 i169 h0 n0) := by
  refine own_met (own := "java/lang/StringUTF16") rfl (plainFor_of_name pn_10) ?_
  intro p e s m below meth c s₁ hx hby hml hZ hown hnm X0 e0 Br Bs
  have N0 := Fr.nil n0
  have tt := own_tt hx hby own_ok41
  rw [ef_rm41a238 m b167a]
  refine own_go (T' := s₁) (f' := (mkF m 8 #[oR b167a, oI 24] [vI 0])) (fun _ k => own_r X0 tt 0 2 rfl (own_alen X0 hx hZ e0 PV18 rfl rfl (hb hby d41_2) (own_e X0 tt 3 4 k rfl))) ?_
  refine own_ret X0 (v := some (.int (nar .byte (0 : Int32)))) (fun h => by rw [Br] at h; cases h) Bs (fun fs hr => retN X0 hx (t := .byte) Br (by simp) (hb hby d41_8) hr) ?_ (by decide) (by decide)
  show Q41a238 Z b167a k167b i168 i169 h0 n0 _ s₁.heap _
  exact ⟨rfl, N0, e0⟩
theorem pd26 : parseMethodDescriptor "([BI)B" = some ⟨[(.array .byte), .int], some .byte⟩ := by decide +kernel
def own_t38 (pc : Nat) : Option (Instr × Nat) := bif Nat.ble pc 34 then (bif Nat.ble pc 5 then (bif Nat.ble pc 0 then (bif Nat.beq pc 0 then some (.aload_n 0, 1) else none) else (bif Nat.ble pc 4 then (bif Nat.beq pc 4 then some (.iload_n 3, 1) else none) else (bif Nat.beq pc 5 then some (.ifCond .ne 22, 3) else none))) else (bif Nat.ble pc 30 then (bif Nat.beq pc 30 then some (.ifCond .eq 28, 3) else none) else (bif Nat.ble pc 33 then (bif Nat.beq pc 33 then some (.aload_n 1, 1) else none) else (bif Nat.beq pc 34 then some (.iload_n 2, 1) else none)))) else (bif Nat.ble pc 41 then (bif Nat.ble pc 35 then (bif Nat.beq pc 35 then some (.iload_n 3, 1) else none) else (bif Nat.ble pc 39 then (bif Nat.beq pc 39 then some (.astore 5, 2) else none) else (bif Nat.beq pc 41 then some (.aload_n 0, 1) else none))) else (bif Nat.ble pc 44 then (bif Nat.ble pc 42 then (bif Nat.beq pc 42 then some (.aload 5, 2) else none) else (bif Nat.beq pc 44 then some (.iload_n 3, 1) else none)) else (bif Nat.ble pc 51 then (bif Nat.beq pc 51 then some (.aload_n 0, 1) else none) else (bif Nat.beq pc 52 then some (.aload 5, 2) else none))))
theorem own_ok38 : ∀ pc q, own_fetch 74 own_t38 pc = some q → decode jdk_42_method_149_code pc = .ok q := own_tab (by decide +kernel)
theorem d38_1 : decode jdk_42_method_149_code 1 = .ok (.invokespecial 1, 3) := by decide +kernel
theorem d38_27 : decode jdk_42_method_149_code 27 = .ok (.getstatic 38, 3) := by decide +kernel
theorem d38_30 : decode jdk_42_method_149_code 30 = .ok (.ifCond .eq 28, 3) := by decide +kernel
theorem d38_36 : decode jdk_42_method_149_code 36 = .ok (.invokestatic 177, 3) := by decide +kernel
theorem d38_45 : decode jdk_42_method_149_code 45 = .ok (.invokestatic 47, 3) := by decide +kernel
theorem d38_48 : decode jdk_42_method_149_code 48 = .ok (.putfield 15, 3) := by decide +kernel
theorem d38_54 : decode jdk_42_method_149_code 54 = .ok (.putfield 9, 3) := by decide +kernel
theorem d38_57 : decode jdk_42_method_149_code 57 = .ok (.return_, 1) := by decide +kernel
theorem ef_rm38a235 (m : MethodId) (b63 : Addr) (b38 : Addr) : entryFrame m #[(.ref b63), (.ref b38), (.int (0 : Int32)), (.int (24 : Int32)), .null] 6 = mkF m 0 #[.val (.ref b63), .val (.ref b38), .val (.int (0 : Int32)), .val (.int (24 : Int32)), .val .null, .unset] [] := by first | (simp [entryFrame, mkF, argsToLocals, Value.category]; done) | rfl
def Q38a235 (Z : State) (b63 : Addr) (b38 : Addr) (cs : Int32) (k38 : ClassId) (i132 : Int32) (i133 : Int32) (h0 : Heap) (n0 : Nat) (v : Option Value) (h : Heap) (L : List Loc) : Prop := ∃ (b167a : Addr) (k167b : ClassId), v = none ∧ Fr n0 L ∧ Keep h0 h [b63] ∧ n0 ≤ b167a ∧ h0.size ≤ b167a ∧ Fld Z h b63 "java/lang/String" "value" "[B" (.ref b167a) ∧ Fld Z h b63 "java/lang/String" "coder" "B" (.int (0 : Int32)) ∧ Arv Z h b167a k167b .byte (24 : Int32) [(.int (101 : Int32)), (.int (120 : Int32)), (.int (112 : Int32)), (.int (101 : Int32)), (.int (99 : Int32)), (.int (116 : Int32)), (.int (101 : Int32)), (.int (100 : Int32)), (.int (32 : Int32)), (.int (98 : Int32)), (.int (101 : Int32)), (.int (116 : Int32)), (.int (119 : Int32)), (.int (101 : Int32)), (.int (101 : Int32)), (.int (110 : Int32)), (.int (32 : Int32)), (.int (nar .byte (i132.toInt8.toInt32))), (.int (32 : Int32)), (.int (97 : Int32)), (.int (110 : Int32)), (.int (100 : Int32)), (.int (32 : Int32)), (.int (nar .byte (i133.toInt8.toInt32)))] (.int (0 : Int32)) ∧ Exa Z h b167a "[B"
set_option maxRecDepth 65536 in
set_option maxHeartbeats 40000000 in
theorem rm38a235 (l : Launch) (Z : State) (a0 : Array Value) (hw : ∀ d ∈ tables_1, d.before a0 Z = true) (ws : List Jvm.Cond) (b63 : Addr) (b38 : Addr) (cs : Int32) (k38 : ClassId) (i132 : Int32) (i133 : Int32) (h0 : Heap) (n0 : Nat) (Z0 : n0 ≤ h0.size) (PS0 : Sta Z h0 "java/lang/String" "COMPACT_STRINGS" "Z" (.int cs)) (PV13 : Arv Z h0 b38 k38 .char (24 : Int32) [(.int (101 : Int32)), (.int (120 : Int32)), (.int (112 : Int32)), (.int (101 : Int32)), (.int (99 : Int32)), (.int (116 : Int32)), (.int (101 : Int32)), (.int (100 : Int32)), (.int (32 : Int32)), (.int (98 : Int32)), (.int (101 : Int32)), (.int (116 : Int32)), (.int (119 : Int32)), (.int (101 : Int32)), (.int (101 : Int32)), (.int (110 : Int32)), (.int (32 : Int32)), (.int i132), (.int (32 : Int32)), (.int (97 : Int32)), (.int (110 : Int32)), (.int (100 : Int32)), (.int (32 : Int32)), (.int i133)] (.int (0 : Int32))) (PE15 : Exa Z h0 b63 "java/lang/String") (PF16 : Fld Z h0 b63 "java/lang/String" "value" "[B" .null) (PF17 : Fld Z h0 b63 "java/lang/String" "coder" "B" (.int (0 : Int32))) (PP0 : ¬ (cs = (0 : Int32))) (PP2 : ¬ ((255 : Int32) < i132)) (PP3 : ¬ ((255 : Int32) < i133)) (n_b63 : n0 ≤ b63) :
    own_Met l mn38 jdk_42_method_149_code 6 none ws (oRm 2 1 24 35) #[(.ref b63), (.ref b38), (.int (0 : Int32)), (.int (24 : Int32)), .null] Z h0 (Q38a235 Z b63 b38 cs k38 i132 i133 h0 n0) := by
  refine own_met (own := "java/lang/String") rfl (plainFor_of_name pn_7) ?_
  intro p e s m below meth c s₁ hx hby hml hZ hown hnm X0 e0 Br Bs
  have N0 := Fr.nil n0
  have tt := own_tt hx hby own_ok38
  rw [ef_rm38a235 m b63 b38]
  refine own_go (T' := s₁) (f' := (mkF m 1 #[oR b63, oR b38, oI 0, oI 24, .val .null, oU] [vR b63])) (fun _ k => own_e X0 tt 0 1 k rfl) ?_
  obtain ⟨T134, X134, e134, st134⟩ := initO X0 hx hZ hown (ow147 hw) (ow28 hw) (ow29 hw) e0 (g := (mkF m 1 #[oR b63, oR b38, oI 0, oI 24, .val .null, oU] [vR b63])) rfl (by rw [hml]; rfl) rfl (hb hby d38_1) (by decide) (W := 0) (by show 2 * 0 + _ ≤ _; exact Nat.le_of_eq rfl) (by decide)
  refine own_go (T' := T134) (f' := (mkF m 27 #[oR b63, oR b38, oI 0, oI 24, .val .null, oU] [])) (fun _ k => st134 _ (own_e X134 tt 4 2 k rfl)) ?_
  obtain ⟨T135, X135, e135, st135⟩ := getS2 X134 hx hZ hown (host := "") (Or.inl (ow64 hw)) Via.refl e134 PS0 (g := (mkF m 27 #[oR b63, oR b38, oI 0, oI 24, .val .null, oU] [])) rfl (hb hby d38_27)
  refine own_go (T' := T135) (f' := (mkF m 36 #[oR b63, oR b38, oI 0, oI 24, .val .null, oU] [vI 24, vI 0, vR b38])) (fun _ k => st135 _ (XS.ifNo X135.here hx rfl (hb hby d38_30) rfl ((if0 _ _).trans (feq PP0).1) (own_e X135 tt 33 3 k rfl))) ?_
  obtain ⟨_, T167, Lc167, X167, hQ167, st167⟩ := own_outC (Jvm.LawKit.callS X135 hx (y := mn36) hown (mvT hZ (ow209 hw)) (mvT hZ (ow210 hw)) (mvT hZ (ow211 hw)) (mvT hZ (ow212 hw)) (by decide) (backOf (W := 0) (rm39a236 l Z a0 hw [] b38 k38 i132 i133 h0 n0 Z0 PV13 PP2 PP3) hZ (ow212 hw) (ow211 hw) (by decide) (by decide)) (g := (mkF m 36 #[oR b63, oR b38, oI 0, oI 24, .val .null, oU] [vI 24, vI 0, vR b38])) rfl (by rw [hml]; rfl) (argsL := [(.ref b38), (.int (0 : Int32)), (.int (24 : Int32))]) (rest := []) (lenOf pd32 rfl) rfl (by show 2 * 0 + _ ≤ _; exact Nat.le_of_eq rfl) (hb hby d38_36) (fun _ _ => ⟨rfl, e135, (by decide : 0 + 1 ≤ _), (by decide : 0 + 24 ≤ _)⟩))
  obtain ⟨b167a, k167b, rfl, N167q, K167, n_b167a, sg_b167a, g167_0, g167_1⟩ := hQ167
  have N167 := Fr.app N0 N167q
  have sz_b167a : h0.size ≤ b167a := Nat.le_trans (Keep.refl h0 [b63]).1 sg_b167a
  have eK167 : T167.heap = T167.heap := rfl
  have KK167 : Keep h0 T167.heap [b63] := Keep.trans (Keep.refl h0 [b63]) K167 all0
  obtain ⟨_, X167, N167⟩ := own_hide X167 N167
  refine own_go (T' := T167) (f' := (mkF m 45 #[oR b63, oR b38, oI 0, oI 24, .val .null, oR b167a] [vI 24, vR b167a, vR b63])) (fun _ k => st167 _ (own_e X167 tt 39 4 k rfl)) ?_
  obtain ⟨_, T170, Lc170, X170, hQ170, st170⟩ := own_outC (Jvm.LawKit.callS X167 hx (y := mn37) hown (mvT hZ (ow216 hw)) (mvT hZ (ow217 hw)) (mvT hZ (ow211 hw)) (mvT hZ (ow218 hw)) (by decide) (backOf (W := 1) (rm41a238 l Z a0 hw [] b167a k167b (nar .byte (i132.toInt8.toInt32)) (nar .byte (i133.toInt8.toInt32)) T167.heap n0 (Nat.le_trans Z0 K167.1) g167_0) hZ (ow218 hw) (ow211 hw) (by decide) (by decide)) (g := (mkF m 45 #[oR b63, oR b38, oI 0, oI 24, .val .null, oR b167a] [vI 24, vR b167a, vR b63])) rfl (by rw [hml]; rfl) (argsL := [(.ref b167a), (.int (24 : Int32))]) (rest := [(.ref b63)]) (lenOf pd26 rfl) rfl (by show 2 * 0 + _ ≤ _; exact Nat.le_of_eq rfl) (hb hby d38_45) (fun _ _ => ⟨rfl, eK167, (by decide : 1 + 0 ≤ _), (by decide : 24 + 0 ≤ _)⟩))
  obtain ⟨rfl, N170q, hh170⟩ := hQ170
  have N170 := Fr.app N167 N170q
  obtain ⟨_, X170, N170⟩ := own_hide X170 N170
  refine own_go (T' := T170) (f' := (mkF m 48 #[oR b63, oR b38, oI 0, oI 24, .val .null, oR b167a] [vI 0, vR b63])) (fun _ k => st170 _ k) ?_
  obtain ⟨T171, h171, X171, e171, W171, st171⟩ := putFN X170 hx hZ hown (ow65 hw) Via.refl hh170 (PF17.keep K167 nin0) (PE15.keep K167) (Or.inr ⟨(ow40 hw), rfl, hnm⟩) (ow38 hw) (ty := .byte) (v' := (.int (0 : Int32))) (by decide) rfl (fits_nar_byte (0 : Int32)) (g := (mkF m 48 #[oR b63, oR b38, oI 0, oI 24, .val .null, oR b167a] [vI 0, vR b63])) rfl rfl (hb hby d38_48)
  have Fw171 := Fld.same W171 (PF17.keep K167 nin0)
  have K171 : Keep h0 h171 [b63] := KK167.wr W171 (Or.inl (List.mem_of_getElem? (i := 0) rfl))
  have N171 := Fr.snoc X171 N170 n_b63
  refine own_go (T' := T171) (f' := (mkF m 54 #[oR b63, oR b38, oI 0, oI 24, .val .null, oR b167a] [vR b167a, vR b63])) (fun _ k => st171 _ (own_e X171 tt 51 2 k rfl)) ?_
  have G172 := ((PF16.keep K167 nin0).other W171 (Or.inr (slot_ne (Or.inr (ow39 hw)) (Or.inr (ow40 hw)) (by decide) (t := (.array .byte)) (t' := .byte) (by decide) (by decide))))
  obtain ⟨T173, h173, X173, e173, W173, st173⟩ := putF X171 hx hZ hown (host := "") (Or.inl (ow58 hw)) Via.refl e171 G172 ((PE15.keep K167).wr W171) (Or.inr ⟨(ow39 hw), rfl, hnm⟩) (ow38 hw) (ty := (.array .byte)) (by decide) rfl rfl (g := (mkF m 54 #[oR b63, oR b38, oI 0, oI 24, .val .null, oR b167a] [vR b167a, vR b63])) rfl rfl (hb hby d38_54)
  have Fw173 := Fld.same W173 G172
  have K173 : Keep h0 h173 [b63] := K171.wr W173 (Or.inl (List.mem_of_getElem? (i := 0) rfl))
  have N173 := Fr.snoc X173 N171 n_b63
  refine own_go (T' := T173) (f' := (mkF m 57 #[oR b63, oR b38, oI 0, oI 24, .val .null, oR b167a] [])) (fun _ k => st173 _ k) ?_
  refine own_ret X173 (v := none) (fun _ => rfl) Bs (fun fs hr => X173.returnOut hx Br (hb hby d38_57) hr) ?_ (by decide) (by decide)
  show Q38a235 Z b63 b38 cs k38 i132 i133 h0 n0 _ T173.heap _
  have G174 := (Fw171.other W173 (Or.inr (slot_ne (Or.inr (ow40 hw)) (Or.inr (ow39 hw)) (by decide) (t := .byte) (t' := (.array .byte)) (by decide) (by decide))))
  have q175 : b167a ≠ b63 := (Ne.symm (Nat.ne_of_lt (Nat.lt_of_lt_of_le PE15.lt sz_b167a)))
  rw [e173]
  exact ⟨b167a, k167b, rfl, N173, K173, n_b167a, sz_b167a, Fw173, G174, ((g167_0.other W171 q175).other W173 q175), ((g167_1.wr W171).wr W173)⟩
theorem pd33 : parseMethodDescriptor "([CIILjava/lang/Void;)V" = some ⟨[(.array .char), .int, .int, (.object "java/lang/Void")], none⟩ := by decide +kernel
def own_t37 (pc : Nat) : Option (Instr × Nat) := bif Nat.ble pc 1 then (bif Nat.ble pc 0 then (bif Nat.beq pc 0 then some (.aload_n 0, 1) else none) else (bif Nat.beq pc 1 then some (.aload_n 1, 1) else none)) else (bif Nat.ble pc 2 then (bif Nat.beq pc 2 then some (.iconst 0, 1) else none) else (bif Nat.ble pc 3 then (bif Nat.beq pc 3 then some (.aload_n 1, 1) else none) else (bif Nat.beq pc 5 then some (.aconst_null, 1) else none)))
theorem own_ok37 : ∀ pc q, own_fetch 10 own_t37 pc = some q → decode jdk_42_method_3_code pc = .ok q := own_tab (by decide +kernel)
theorem d37_4 : decode jdk_42_method_3_code 4 = .ok (.arraylength, 1) := by decide +kernel
theorem d37_6 : decode jdk_42_method_3_code 6 = .ok (.invokespecial 27, 3) := by decide +kernel
theorem d37_9 : decode jdk_42_method_3_code 9 = .ok (.return_, 1) := by decide +kernel
theorem ef_rm37a234 (m : MethodId) (b63 : Addr) (b38 : Addr) : entryFrame m #[(.ref b63), (.ref b38)] 2 = mkF m 0 #[.val (.ref b63), .val (.ref b38)] [] := by first | (simp [entryFrame, mkF, argsToLocals, Value.category]; done) | rfl
def Q37a234 (Z : State) (b63 : Addr) (b38 : Addr) (cs : Int32) (k38 : ClassId) (i132 : Int32) (i133 : Int32) (h0 : Heap) (n0 : Nat) (v : Option Value) (h : Heap) (L : List Loc) : Prop := ∃ (b176a : Addr) (k176b : ClassId), v = none ∧ Fr n0 L ∧ Keep h0 h [b63] ∧ n0 ≤ b176a ∧ h0.size ≤ b176a ∧ Fld Z h b63 "java/lang/String" "value" "[B" (.ref b176a) ∧ Fld Z h b63 "java/lang/String" "coder" "B" (.int (0 : Int32)) ∧ Arv Z h b176a k176b .byte (24 : Int32) [(.int (101 : Int32)), (.int (120 : Int32)), (.int (112 : Int32)), (.int (101 : Int32)), (.int (99 : Int32)), (.int (116 : Int32)), (.int (101 : Int32)), (.int (100 : Int32)), (.int (32 : Int32)), (.int (98 : Int32)), (.int (101 : Int32)), (.int (116 : Int32)), (.int (119 : Int32)), (.int (101 : Int32)), (.int (101 : Int32)), (.int (110 : Int32)), (.int (32 : Int32)), (.int (nar .byte (i132.toInt8.toInt32))), (.int (32 : Int32)), (.int (97 : Int32)), (.int (110 : Int32)), (.int (100 : Int32)), (.int (32 : Int32)), (.int (nar .byte (i133.toInt8.toInt32)))] (.int (0 : Int32)) ∧ Exa Z h b176a "[B"
set_option maxRecDepth 65536 in
set_option maxHeartbeats 40000000 in
theorem rm37a234 (l : Launch) (Z : State) (a0 : Array Value) (hw : ∀ d ∈ tables_1, d.before a0 Z = true) (ws : List Jvm.Cond) (b63 : Addr) (b38 : Addr) (cs : Int32) (k38 : ClassId) (i132 : Int32) (i133 : Int32) (h0 : Heap) (n0 : Nat) (Z0 : n0 ≤ h0.size) (PS0 : Sta Z h0 "java/lang/String" "COMPACT_STRINGS" "Z" (.int cs)) (PV13 : Arv Z h0 b38 k38 .char (24 : Int32) [(.int (101 : Int32)), (.int (120 : Int32)), (.int (112 : Int32)), (.int (101 : Int32)), (.int (99 : Int32)), (.int (116 : Int32)), (.int (101 : Int32)), (.int (100 : Int32)), (.int (32 : Int32)), (.int (98 : Int32)), (.int (101 : Int32)), (.int (116 : Int32)), (.int (119 : Int32)), (.int (101 : Int32)), (.int (101 : Int32)), (.int (110 : Int32)), (.int (32 : Int32)), (.int i132), (.int (32 : Int32)), (.int (97 : Int32)), (.int (110 : Int32)), (.int (100 : Int32)), (.int (32 : Int32)), (.int i133)] (.int (0 : Int32))) (PE15 : Exa Z h0 b63 "java/lang/String") (PF16 : Fld Z h0 b63 "java/lang/String" "value" "[B" .null) (PF17 : Fld Z h0 b63 "java/lang/String" "coder" "B" (.int (0 : Int32))) (PP0 : ¬ (cs = (0 : Int32))) (PP2 : ¬ ((255 : Int32) < i132)) (PP3 : ¬ ((255 : Int32) < i133)) (n_b63 : n0 ≤ b63) :
    own_Met l mn39 jdk_42_method_3_code 2 none ws (oRm 3 1 24 52) #[(.ref b63), (.ref b38)] Z h0 (Q37a234 Z b63 b38 cs k38 i132 i133 h0 n0) := by
  refine own_met (own := "java/lang/String") rfl (plainFor_of_name pn_7) ?_
  intro p e s m below meth c s₁ hx hby hml hZ hown hnm X0 e0 Br Bs
  have N0 := Fr.nil n0
  have tt := own_tt hx hby own_ok37
  rw [ef_rm37a234 m b63 b38]
  refine own_go (T' := s₁) (f' := (mkF m 6 #[oR b63, oR b38] [.null, vI 24, vI 0, vR b38, vR b63])) (fun _ k => own_r X0 tt 0 4 rfl (own_alen X0 hx hZ e0 PV13 rfl rfl (hb hby d37_4) (own_e X0 tt 5 1 k rfl))) ?_
  obtain ⟨_, T176, Lc176, X176, hQ176, st176⟩ := own_out (X0.specialBack hx (y := mn38) rfl hown (mvT hZ (ow206 hw)) (mvT hZ (ow207 hw)) (mvT hZ (ow208 hw)) (by decide) (backOf (W := 0) (rm38a235 l Z a0 hw [] b63 b38 cs k38 i132 i133 h0 n0 Z0 PS0 PV13 PE15 PF16 PF17 PP0 PP2 PP3 n_b63) hZ (ow208 hw) (ow31 hw) (by decide) (by decide)) (g := (mkF m 6 #[oR b63, oR b38] [.null, vI 24, vI 0, vR b38, vR b63])) rfl (by rw [hml]; rfl) (Steps.refl _) (a := b63) (argsL := [(.ref b38), (.int (0 : Int32)), (.int (24 : Int32)), .null]) (rest := []) (lenOf pd33 rfl) rfl (by show 2 * 0 + _ ≤ _; exact Nat.le_of_eq rfl) (hb hby d37_6) (fun _ _ => ⟨rfl, e0, (by decide : 0 + 1 ≤ _), (by decide : 0 + 24 ≤ _)⟩))
  obtain ⟨b176a, k176b, rfl, N176q, K176, n_b176a, sg_b176a, g176_0, g176_1, g176_2, g176_3⟩ := hQ176
  have N176 := Fr.app N0 N176q
  have sz_b176a : h0.size ≤ b176a := Nat.le_trans (Keep.refl h0 [b63]).1 sg_b176a
  have eK176 : T176.heap = T176.heap := rfl
  have KK176 : Keep h0 T176.heap [b63] := Keep.trans (Keep.refl h0 [b63]) K176 (allS (Or.inl (List.mem_of_getElem? (i := 0) rfl)) all0)
  obtain ⟨_, X176, N176⟩ := own_hide X176 N176
  refine own_go (T' := T176) (f' := (mkF m 9 #[oR b63, oR b38] [])) (fun _ k => st176.trans k) ?_
  refine own_ret X176 (v := none) (fun _ => rfl) Bs (fun fs hr => X176.returnOut hx Br (hb hby d37_9) hr) ?_ (by decide) (by decide)
  show Q37a234 Z b63 b38 cs k38 i132 i133 h0 n0 _ T176.heap _
  rw [eK176]
  exact ⟨b176a, k176b, rfl, N176, KK176, n_b176a, sz_b176a, g176_0, g176_1, g176_2, g176_3⟩
theorem pd31 : parseMethodDescriptor "([C)V" = some ⟨[(.array .char)], none⟩ := by decide +kernel
def own_t43 (pc : Nat) : Option (Instr × Nat) := bif Nat.ble pc 12 then (bif Nat.ble pc 7 then (bif Nat.ble pc 2 then (bif Nat.ble pc 0 then (bif Nat.beq pc 0 then some (.aload_n 0, 1) else none) else (bif Nat.beq pc 2 then some (.aload_n 1, 1) else none)) else (bif Nat.ble pc 4 then (bif Nat.beq pc 4 then some (.if_icmp .ne 30, 3) else none) else (bif Nat.beq pc 7 then some (.iconst 0, 1) else none))) else (bif Nat.ble pc 9 then (bif Nat.ble pc 8 then (bif Nat.beq pc 8 then some (.istore_n 2, 1) else none) else (bif Nat.beq pc 9 then some (.iload_n 2, 1) else none)) else (bif Nat.ble pc 10 then (bif Nat.beq pc 10 then some (.aload_n 0, 1) else none) else (bif Nat.beq pc 12 then some (.if_icmp .ge 20, 3) else none)))) else (bif Nat.ble pc 19 then (bif Nat.ble pc 16 then (bif Nat.ble pc 15 then (bif Nat.beq pc 15 then some (.aload_n 0, 1) else none) else (bif Nat.beq pc 16 then some (.iload_n 2, 1) else none)) else (bif Nat.ble pc 18 then (bif Nat.beq pc 18 then some (.aload_n 1, 1) else none) else (bif Nat.beq pc 19 then some (.iload_n 2, 1) else none))) else (bif Nat.ble pc 26 then (bif Nat.ble pc 21 then (bif Nat.beq pc 21 then some (.if_icmp .eq 5, 3) else none) else (bif Nat.beq pc 26 then some (.iinc 2 1, 3) else none)) else (bif Nat.ble pc 29 then (bif Nat.beq pc 29 then some (.goto (-20), 3) else none) else (bif Nat.beq pc 32 then some (.iconst 1, 1) else none))))
theorem own_ok43 : ∀ pc q, own_fetch 36 own_t43 pc = some q → decode jdk_43_method_13_code pc = .ok q := own_tab (by decide +kernel)
theorem d43_1 : decode jdk_43_method_13_code 1 = .ok (.arraylength, 1) := by decide +kernel
theorem d43_3 : decode jdk_43_method_13_code 3 = .ok (.arraylength, 1) := by decide +kernel
theorem d43_11 : decode jdk_43_method_13_code 11 = .ok (.arraylength, 1) := by decide +kernel
theorem d43_17 : decode jdk_43_method_13_code 17 = .ok (.baload, 1) := by decide +kernel
theorem d43_20 : decode jdk_43_method_13_code 20 = .ok (.baload, 1) := by decide +kernel
theorem d43_21 : decode jdk_43_method_13_code 21 = .ok (.if_icmp .eq 5, 3) := by decide +kernel
theorem d43_33 : decode jdk_43_method_13_code 33 = .ok (.ireturn, 1) := by decide +kernel
theorem pn_9 : plainName "java/lang/StringLatin1" = true := by first | (simp [plainName, overriddenIn]; done) | decide +kernel
theorem ef_rm43a245 (m : MethodId) (b26 : Addr) (b177a : Addr) : entryFrame m #[(.ref b26), (.ref b177a)] 3 = mkF m 0 #[.val (.ref b26), .val (.ref b177a), .unset] [] := by first | (simp [entryFrame, mkF, argsToLocals, Value.category]; done) | rfl
def Q43a245 (Z : State) (b26 : Addr) (b177a : Addr) (k26 : ClassId) (i218 : Int32) (i219 : Int32) (k177b : ClassId) (i222 : Int32) (i223 : Int32) (h0 : Heap) (n0 : Nat) (v : Option Value) (h : Heap) (L : List Loc) : Prop := v = some (.int (1 : Int32)) ∧ Fr n0 L ∧ h = h0
set_option maxRecDepth 65536 in
set_option maxHeartbeats 40000000 in
theorem rm43a245 (l : Launch) (Z : State) (a0 : Array Value) (hw : ∀ d ∈ tables_1, d.before a0 Z = true) (ws : List Jvm.Cond) (b26 : Addr) (b177a : Addr) (k26 : ClassId) (i218 : Int32) (i219 : Int32) (k177b : ClassId) (i222 : Int32) (i223 : Int32) (h0 : Heap) (n0 : Nat) (Z0 : n0 ≤ h0.size) (PV12 : Arv Z h0 b26 k26 .byte (24 : Int32) [(.int (101 : Int32)), (.int (120 : Int32)), (.int (112 : Int32)), (.int (101 : Int32)), (.int (99 : Int32)), (.int (116 : Int32)), (.int (101 : Int32)), (.int (100 : Int32)), (.int (32 : Int32)), (.int (98 : Int32)), (.int (101 : Int32)), (.int (116 : Int32)), (.int (119 : Int32)), (.int (101 : Int32)), (.int (101 : Int32)), (.int (110 : Int32)), (.int (32 : Int32)), (.int i218), (.int (32 : Int32)), (.int (97 : Int32)), (.int (110 : Int32)), (.int (100 : Int32)), (.int (32 : Int32)), (.int i219)] (.int (0 : Int32))) (PV18 : Arv Z h0 b177a k177b .byte (24 : Int32) [(.int (101 : Int32)), (.int (120 : Int32)), (.int (112 : Int32)), (.int (101 : Int32)), (.int (99 : Int32)), (.int (116 : Int32)), (.int (101 : Int32)), (.int (100 : Int32)), (.int (32 : Int32)), (.int (98 : Int32)), (.int (101 : Int32)), (.int (116 : Int32)), (.int (119 : Int32)), (.int (101 : Int32)), (.int (101 : Int32)), (.int (110 : Int32)), (.int (32 : Int32)), (.int i222), (.int (32 : Int32)), (.int (97 : Int32)), (.int (110 : Int32)), (.int (100 : Int32)), (.int (32 : Int32)), (.int i223)] (.int (0 : Int32))) (PP5 : i218 = i222) (PP6 : i219 = i223) :
    own_Met l mn40 jdk_43_method_13_code 3 (some .boolean) ws (oRm 0 0 0 0) #[(.ref b26), (.ref b177a)] Z h0 (Q43a245 Z b26 b177a k26 i218 i219 k177b i222 i223 h0 n0) := by
  refine own_met (own := "java/lang/StringLatin1") rfl (plainFor_of_name pn_9) ?_
  intro p e s m below meth c s₁ hx hby hml hZ hown hnm X0 e0 Br Bs
  have N0 := Fr.nil n0
  have tt := own_tt hx hby own_ok43
  rw [ef_rm43a245 m b26 b177a]
  refine own_go (T' := s₁) (f' := (mkF m 18 #[oR b26, oR b177a, oI 2] [vI 112])) (fun _ k => own_r X0 tt 0 1 rfl (own_alen X0 hx hZ e0 PV12 rfl rfl (hb hby d43_1) (own_r X0 tt 2 1 rfl (own_alen X0 hx hZ e0 PV18 rfl rfl (hb hby d43_3) (own_r X0 tt 4 5 rfl (own_alen X0 hx hZ e0 PV12 rfl rfl (hb hby d43_11) (own_r X0 tt 12 3 rfl (own_ldB X0 hx hZ e0 PV12 (j := (0 : Int32)) (x := (101 : Int32)) ⟨by decide, by decide⟩ rfl rfl rfl (hb hby d43_17) (own_r X0 tt 18 2 rfl (own_ldB X0 hx hZ e0 PV18 (j := (0 : Int32)) (x := (101 : Int32)) ⟨by decide, by decide⟩ rfl rfl rfl (hb hby d43_20) (own_r X0 tt 21 5 rfl (own_alen X0 hx hZ e0 PV12 rfl rfl (hb hby d43_11) (own_r X0 tt 12 3 rfl (own_ldB X0 hx hZ e0 PV12 (j := (1 : Int32)) (x := (120 : Int32)) ⟨by decide, by decide⟩ rfl rfl rfl (hb hby d43_17) (own_r X0 tt 18 2 rfl (own_ldB X0 hx hZ e0 PV18 (j := (1 : Int32)) (x := (120 : Int32)) ⟨by decide, by decide⟩ rfl rfl rfl (hb hby d43_20) (own_r X0 tt 21 5 rfl (own_alen X0 hx hZ e0 PV12 rfl rfl (hb hby d43_11) (own_r X0 tt 12 3 rfl (own_ldB X0 hx hZ e0 PV12 (j := (2 : Int32)) (x := (112 : Int32)) ⟨by decide, by decide⟩ rfl rfl rfl (hb hby d43_17) k)))))))))))))))))))) ?_
  refine own_go (T' := s₁) (f' := (mkF m 19 #[oR b26, oR b177a, oI 5] [vR b177a, vI 116])) (fun _ k => own_r X0 tt 18 2 rfl (own_ldB X0 hx hZ e0 PV18 (j := (2 : Int32)) (x := (112 : Int32)) ⟨by decide, by decide⟩ rfl rfl rfl (hb hby d43_20) (own_r X0 tt 21 5 rfl (own_alen X0 hx hZ e0 PV12 rfl rfl (hb hby d43_11) (own_r X0 tt 12 3 rfl (own_ldB X0 hx hZ e0 PV12 (j := (3 : Int32)) (x := (101 : Int32)) ⟨by decide, by decide⟩ rfl rfl rfl (hb hby d43_17) (own_r X0 tt 18 2 rfl (own_ldB X0 hx hZ e0 PV18 (j := (3 : Int32)) (x := (101 : Int32)) ⟨by decide, by decide⟩ rfl rfl rfl (hb hby d43_20) (own_r X0 tt 21 5 rfl (own_alen X0 hx hZ e0 PV12 rfl rfl (hb hby d43_11) (own_r X0 tt 12 3 rfl (own_ldB X0 hx hZ e0 PV12 (j := (4 : Int32)) (x := (99 : Int32)) ⟨by decide, by decide⟩ rfl rfl rfl (hb hby d43_17) (own_r X0 tt 18 2 rfl (own_ldB X0 hx hZ e0 PV18 (j := (4 : Int32)) (x := (99 : Int32)) ⟨by decide, by decide⟩ rfl rfl rfl (hb hby d43_20) (own_r X0 tt 21 5 rfl (own_alen X0 hx hZ e0 PV12 rfl rfl (hb hby d43_11) (own_r X0 tt 12 3 rfl (own_ldB X0 hx hZ e0 PV12 (j := (5 : Int32)) (x := (116 : Int32)) ⟨by decide, by decide⟩ rfl rfl rfl (hb hby d43_17) (own_e X0 tt 18 1 k rfl))))))))))))))))))) ?_
  refine own_go (T' := s₁) (f' := (mkF m 20 #[oR b26, oR b177a, oI 8] [vI 8, vR b177a, vI 32])) (fun _ k => own_r X0 tt 19 1 rfl (own_ldB X0 hx hZ e0 PV18 (j := (5 : Int32)) (x := (116 : Int32)) ⟨by decide, by decide⟩ rfl rfl rfl (hb hby d43_20) (own_r X0 tt 21 5 rfl (own_alen X0 hx hZ e0 PV12 rfl rfl (hb hby d43_11) (own_r X0 tt 12 3 rfl (own_ldB X0 hx hZ e0 PV12 (j := (6 : Int32)) (x := (101 : Int32)) ⟨by decide, by decide⟩ rfl rfl rfl (hb hby d43_17) (own_r X0 tt 18 2 rfl (own_ldB X0 hx hZ e0 PV18 (j := (6 : Int32)) (x := (101 : Int32)) ⟨by decide, by decide⟩ rfl rfl rfl (hb hby d43_20) (own_r X0 tt 21 5 rfl (own_alen X0 hx hZ e0 PV12 rfl rfl (hb hby d43_11) (own_r X0 tt 12 3 rfl (own_ldB X0 hx hZ e0 PV12 (j := (7 : Int32)) (x := (100 : Int32)) ⟨by decide, by decide⟩ rfl rfl rfl (hb hby d43_17) (own_r X0 tt 18 2 rfl (own_ldB X0 hx hZ e0 PV18 (j := (7 : Int32)) (x := (100 : Int32)) ⟨by decide, by decide⟩ rfl rfl rfl (hb hby d43_20) (own_r X0 tt 21 5 rfl (own_alen X0 hx hZ e0 PV12 rfl rfl (hb hby d43_11) (own_r X0 tt 12 3 rfl (own_ldB X0 hx hZ e0 PV12 (j := (8 : Int32)) (x := (32 : Int32)) ⟨by decide, by decide⟩ rfl rfl rfl (hb hby d43_17) (own_e X0 tt 18 2 k rfl))))))))))))))))))) ?_
  refine own_go (T' := s₁) (f' := (mkF m 21 #[oR b26, oR b177a, oI 11] [vI 116, vI 116])) (fun _ k => own_ldB X0 hx hZ e0 PV18 (j := (8 : Int32)) (x := (32 : Int32)) ⟨by decide, by decide⟩ rfl rfl rfl (hb hby d43_20) (own_r X0 tt 21 5 rfl (own_alen X0 hx hZ e0 PV12 rfl rfl (hb hby d43_11) (own_r X0 tt 12 3 rfl (own_ldB X0 hx hZ e0 PV12 (j := (9 : Int32)) (x := (98 : Int32)) ⟨by decide, by decide⟩ rfl rfl rfl (hb hby d43_17) (own_r X0 tt 18 2 rfl (own_ldB X0 hx hZ e0 PV18 (j := (9 : Int32)) (x := (98 : Int32)) ⟨by decide, by decide⟩ rfl rfl rfl (hb hby d43_20) (own_r X0 tt 21 5 rfl (own_alen X0 hx hZ e0 PV12 rfl rfl (hb hby d43_11) (own_r X0 tt 12 3 rfl (own_ldB X0 hx hZ e0 PV12 (j := (10 : Int32)) (x := (101 : Int32)) ⟨by decide, by decide⟩ rfl rfl rfl (hb hby d43_17) (own_r X0 tt 18 2 rfl (own_ldB X0 hx hZ e0 PV18 (j := (10 : Int32)) (x := (101 : Int32)) ⟨by decide, by decide⟩ rfl rfl rfl (hb hby d43_20) (own_r X0 tt 21 5 rfl (own_alen X0 hx hZ e0 PV12 rfl rfl (hb hby d43_11) (own_r X0 tt 12 3 rfl (own_ldB X0 hx hZ e0 PV12 (j := (11 : Int32)) (x := (116 : Int32)) ⟨by decide, by decide⟩ rfl rfl rfl (hb hby d43_17) (own_r X0 tt 18 2 rfl (own_ldB X0 hx hZ e0 PV18 (j := (11 : Int32)) (x := (116 : Int32)) ⟨by decide, by decide⟩ rfl rfl rfl (hb hby d43_20) k))))))))))))))))))) ?_
  refine own_go (T' := s₁) (f' := (mkF m 26 #[oR b26, oR b177a, oI 14] [])) (fun _ k => own_r X0 tt 21 5 rfl (own_alen X0 hx hZ e0 PV12 rfl rfl (hb hby d43_11) (own_r X0 tt 12 3 rfl (own_ldB X0 hx hZ e0 PV12 (j := (12 : Int32)) (x := (119 : Int32)) ⟨by decide, by decide⟩ rfl rfl rfl (hb hby d43_17) (own_r X0 tt 18 2 rfl (own_ldB X0 hx hZ e0 PV18 (j := (12 : Int32)) (x := (119 : Int32)) ⟨by decide, by decide⟩ rfl rfl rfl (hb hby d43_20) (own_r X0 tt 21 5 rfl (own_alen X0 hx hZ e0 PV12 rfl rfl (hb hby d43_11) (own_r X0 tt 12 3 rfl (own_ldB X0 hx hZ e0 PV12 (j := (13 : Int32)) (x := (101 : Int32)) ⟨by decide, by decide⟩ rfl rfl rfl (hb hby d43_17) (own_r X0 tt 18 2 rfl (own_ldB X0 hx hZ e0 PV18 (j := (13 : Int32)) (x := (101 : Int32)) ⟨by decide, by decide⟩ rfl rfl rfl (hb hby d43_20) (own_r X0 tt 21 5 rfl (own_alen X0 hx hZ e0 PV12 rfl rfl (hb hby d43_11) (own_r X0 tt 12 3 rfl (own_ldB X0 hx hZ e0 PV12 (j := (14 : Int32)) (x := (101 : Int32)) ⟨by decide, by decide⟩ rfl rfl rfl (hb hby d43_17) (own_r X0 tt 18 2 rfl (own_ldB X0 hx hZ e0 PV18 (j := (14 : Int32)) (x := (101 : Int32)) ⟨by decide, by decide⟩ rfl rfl rfl (hb hby d43_20) (own_e X0 tt 21 1 k rfl))))))))))))))))))) ?_
  refine own_go (T' := s₁) (f' := (mkF m 29 #[oR b26, oR b177a, oI 18] [])) (fun _ k => own_r X0 tt 26 4 rfl (own_alen X0 hx hZ e0 PV12 rfl rfl (hb hby d43_11) (own_r X0 tt 12 3 rfl (own_ldB X0 hx hZ e0 PV12 (j := (15 : Int32)) (x := (110 : Int32)) ⟨by decide, by decide⟩ rfl rfl rfl (hb hby d43_17) (own_r X0 tt 18 2 rfl (own_ldB X0 hx hZ e0 PV18 (j := (15 : Int32)) (x := (110 : Int32)) ⟨by decide, by decide⟩ rfl rfl rfl (hb hby d43_20) (own_r X0 tt 21 5 rfl (own_alen X0 hx hZ e0 PV12 rfl rfl (hb hby d43_11) (own_r X0 tt 12 3 rfl (own_ldB X0 hx hZ e0 PV12 (j := (16 : Int32)) (x := (32 : Int32)) ⟨by decide, by decide⟩ rfl rfl rfl (hb hby d43_17) (own_r X0 tt 18 2 rfl (own_ldB X0 hx hZ e0 PV18 (j := (16 : Int32)) (x := (32 : Int32)) ⟨by decide, by decide⟩ rfl rfl rfl (hb hby d43_20) (own_r X0 tt 21 5 rfl (own_alen X0 hx hZ e0 PV12 rfl rfl (hb hby d43_11) (own_r X0 tt 12 3 rfl (own_ldB X0 hx hZ e0 PV12 (j := (17 : Int32)) (x := i218) ⟨by decide, by decide⟩ rfl rfl rfl (hb hby d43_17) (own_r X0 tt 18 2 rfl (own_ldB X0 hx hZ e0 PV18 (j := (17 : Int32)) (x := i222) ⟨by decide, by decide⟩ rfl rfl rfl (hb hby d43_20) (XS.icmpYes X0.here hx rfl (pc0 := 21) (pc' := 26) rfl (hb hby d43_21) rfl (teq PP5).1 (by decide) (by decide) (own_e X0 tt 26 1 k rfl)))))))))))))))))))) ?_
  refine own_go (T' := s₁) (f' := (mkF m 9 #[oR b26, oR b177a, oI 21] [])) (fun _ k => own_r X0 tt 29 3 rfl (own_alen X0 hx hZ e0 PV12 rfl rfl (hb hby d43_11) (own_r X0 tt 12 3 rfl (own_ldB X0 hx hZ e0 PV12 (j := (18 : Int32)) (x := (32 : Int32)) ⟨by decide, by decide⟩ rfl rfl rfl (hb hby d43_17) (own_r X0 tt 18 2 rfl (own_ldB X0 hx hZ e0 PV18 (j := (18 : Int32)) (x := (32 : Int32)) ⟨by decide, by decide⟩ rfl rfl rfl (hb hby d43_20) (own_r X0 tt 21 5 rfl (own_alen X0 hx hZ e0 PV12 rfl rfl (hb hby d43_11) (own_r X0 tt 12 3 rfl (own_ldB X0 hx hZ e0 PV12 (j := (19 : Int32)) (x := (97 : Int32)) ⟨by decide, by decide⟩ rfl rfl rfl (hb hby d43_17) (own_r X0 tt 18 2 rfl (own_ldB X0 hx hZ e0 PV18 (j := (19 : Int32)) (x := (97 : Int32)) ⟨by decide, by decide⟩ rfl rfl rfl (hb hby d43_20) (own_r X0 tt 21 5 rfl (own_alen X0 hx hZ e0 PV12 rfl rfl (hb hby d43_11) (own_r X0 tt 12 3 rfl (own_ldB X0 hx hZ e0 PV12 (j := (20 : Int32)) (x := (110 : Int32)) ⟨by decide, by decide⟩ rfl rfl rfl (hb hby d43_17) (own_r X0 tt 18 2 rfl (own_ldB X0 hx hZ e0 PV18 (j := (20 : Int32)) (x := (110 : Int32)) ⟨by decide, by decide⟩ rfl rfl rfl (hb hby d43_20) (own_e X0 tt 21 3 k rfl))))))))))))))))))) ?_
  refine own_go (T' := s₁) (f' := (mkF m 10 #[oR b26, oR b177a, oI 24] [vI 24])) (fun _ k => own_r X0 tt 9 2 rfl (own_alen X0 hx hZ e0 PV12 rfl rfl (hb hby d43_11) (own_r X0 tt 12 3 rfl (own_ldB X0 hx hZ e0 PV12 (j := (21 : Int32)) (x := (100 : Int32)) ⟨by decide, by decide⟩ rfl rfl rfl (hb hby d43_17) (own_r X0 tt 18 2 rfl (own_ldB X0 hx hZ e0 PV18 (j := (21 : Int32)) (x := (100 : Int32)) ⟨by decide, by decide⟩ rfl rfl rfl (hb hby d43_20) (own_r X0 tt 21 5 rfl (own_alen X0 hx hZ e0 PV12 rfl rfl (hb hby d43_11) (own_r X0 tt 12 3 rfl (own_ldB X0 hx hZ e0 PV12 (j := (22 : Int32)) (x := (32 : Int32)) ⟨by decide, by decide⟩ rfl rfl rfl (hb hby d43_17) (own_r X0 tt 18 2 rfl (own_ldB X0 hx hZ e0 PV18 (j := (22 : Int32)) (x := (32 : Int32)) ⟨by decide, by decide⟩ rfl rfl rfl (hb hby d43_20) (own_r X0 tt 21 5 rfl (own_alen X0 hx hZ e0 PV12 rfl rfl (hb hby d43_11) (own_r X0 tt 12 3 rfl (own_ldB X0 hx hZ e0 PV12 (j := (23 : Int32)) (x := i219) ⟨by decide, by decide⟩ rfl rfl rfl (hb hby d43_17) (own_r X0 tt 18 2 rfl (own_ldB X0 hx hZ e0 PV18 (j := (23 : Int32)) (x := i223) ⟨by decide, by decide⟩ rfl rfl rfl (hb hby d43_20) (XS.icmpYes X0.here hx rfl (pc0 := 21) (pc' := 26) rfl (hb hby d43_21) rfl (teq PP6).1 (by decide) (by decide) (own_e X0 tt 26 3 k rfl)))))))))))))))))))) ?_
  refine own_go (T' := s₁) (f' := (mkF m 33 #[oR b26, oR b177a, oI 24] [vI 1])) (fun _ k => own_r X0 tt 10 1 rfl (own_alen X0 hx hZ e0 PV12 rfl rfl (hb hby d43_11) (own_e X0 tt 12 2 k rfl))) ?_
  refine own_ret X0 (v := some (.int (1 : Int32))) (fun h => by rw [Br] at h; cases h) Bs (fun fs hr => retN X0 hx (t := .boolean) Br (by simp) (hb hby d43_33) hr) ?_ (by decide) (by decide)
  show Q43a245 Z b26 b177a k26 i218 i219 k177b i222 i223 h0 n0 _ s₁.heap _
  exact ⟨rfl, N0, e0⟩
theorem pd30 : parseMethodDescriptor "([B[B)Z" = some ⟨[(.array .byte), (.array .byte)], some .boolean⟩ := by decide +kernel
def own_t42 (pc : Nat) : Option (Instr × Nat) := bif Nat.ble pc 22 then (bif Nat.ble pc 7 then (bif Nat.ble pc 0 then (bif Nat.beq pc 0 then some (.aload_n 0, 1) else none) else (bif Nat.ble pc 1 then (bif Nat.beq pc 1 then some (.aload_n 1, 1) else none) else (bif Nat.beq pc 7 then some (.aload_n 1, 1) else none))) else (bif Nat.ble pc 14 then (bif Nat.ble pc 11 then (bif Nat.beq pc 11 then some (.ifCond .eq 43, 3) else none) else (bif Nat.beq pc 14 then some (.aload_n 1, 1) else none)) else (bif Nat.ble pc 18 then (bif Nat.beq pc 18 then some (.astore_n 2, 1) else none) else (bif Nat.beq pc 22 then some (.ifCond .eq 14, 3) else none)))) else (bif Nat.ble pc 36 then (bif Nat.ble pc 29 then (bif Nat.ble pc 25 then (bif Nat.beq pc 25 then some (.aload_n 0, 1) else none) else (bif Nat.beq pc 29 then some (.aload_n 2, 1) else none)) else (bif Nat.ble pc 33 then (bif Nat.beq pc 33 then some (.if_icmp .ne 21, 3) else none) else (bif Nat.beq pc 36 then some (.aload_n 0, 1) else none))) else (bif Nat.ble pc 47 then (bif Nat.ble pc 40 then (bif Nat.beq pc 40 then some (.aload_n 2, 1) else none) else (bif Nat.beq pc 47 then some (.ifCond .eq 7, 3) else none)) else (bif Nat.ble pc 50 then (bif Nat.beq pc 50 then some (.iconst 1, 1) else none) else (bif Nat.beq pc 51 then some (.goto 4, 3) else none))))
theorem own_ok42 : ∀ pc q, own_fetch 56 own_t42 pc = some q → decode jdk_42_method_66_code pc = .ok q := own_tab (by decide +kernel)
theorem d42_2 : decode jdk_42_method_66_code 2 = .ok (.if_acmp .ne 5, 3) := by decide +kernel
theorem d42_8 : decode jdk_42_method_66_code 8 = .ok (.instanceof 10, 3) := by decide +kernel
theorem d42_15 : decode jdk_42_method_66_code 15 = .ok (.checkcast 10, 3) := by decide +kernel
theorem d42_19 : decode jdk_42_method_66_code 19 = .ok (.getstatic 38, 3) := by decide +kernel
theorem d42_22 : decode jdk_42_method_66_code 22 = .ok (.ifCond .eq 14, 3) := by decide +kernel
theorem d42_26 : decode jdk_42_method_66_code 26 = .ok (.getfield 15, 3) := by decide +kernel
theorem d42_30 : decode jdk_42_method_66_code 30 = .ok (.getfield 15, 3) := by decide +kernel
theorem d42_37 : decode jdk_42_method_66_code 37 = .ok (.getfield 9, 3) := by decide +kernel
theorem d42_41 : decode jdk_42_method_66_code 41 = .ok (.getfield 9, 3) := by decide +kernel
theorem d42_44 : decode jdk_42_method_66_code 44 = .ok (.invokestatic 541, 3) := by decide +kernel
theorem d42_55 : decode jdk_42_method_66_code 55 = .ok (.ireturn, 1) := by decide +kernel
theorem ef_rm42a244 (m : MethodId) (a26 : Addr) (b63 : Addr) : entryFrame m #[(.ref a26), (.ref b63)] 3 = mkF m 0 #[.val (.ref a26), .val (.ref b63), .unset] [] := by first | (simp [entryFrame, mkF, argsToLocals, Value.category]; done) | rfl
def Q42a244 (Z : State) (a26 : Addr) (b63 : Addr) (cs : Int32) (b26 : Addr) (k26 : ClassId) (i218 : Int32) (i219 : Int32) (b177a : Addr) (k177b : ClassId) (i222 : Int32) (i223 : Int32) (h0 : Heap) (n0 : Nat) (v : Option Value) (h : Heap) (L : List Loc) : Prop := v = some (.int (1 : Int32)) ∧ Fr n0 L ∧ h = h0
set_option maxRecDepth 65536 in
set_option maxHeartbeats 40000000 in
theorem rm42a244 (l : Launch) (Z : State) (a0 : Array Value) (hw : ∀ d ∈ tables_1, d.before a0 Z = true) (ws : List Jvm.Cond) (a26 : Addr) (b63 : Addr) (cs : Int32) (b26 : Addr) (k26 : ClassId) (i218 : Int32) (i219 : Int32) (b177a : Addr) (k177b : ClassId) (i222 : Int32) (i223 : Int32) (h0 : Heap) (n0 : Nat) (Z0 : n0 ≤ h0.size) (PS0 : Sta Z h0 "java/lang/String" "COMPACT_STRINGS" "Z" (.int cs)) (PF10 : Fld Z h0 a26 "java/lang/String" "coder" "B" (.int (0 : Int32))) (PF11 : Fld Z h0 a26 "java/lang/String" "value" "[B" (.ref b26)) (PV12 : Arv Z h0 b26 k26 .byte (24 : Int32) [(.int (101 : Int32)), (.int (120 : Int32)), (.int (112 : Int32)), (.int (101 : Int32)), (.int (99 : Int32)), (.int (116 : Int32)), (.int (101 : Int32)), (.int (100 : Int32)), (.int (32 : Int32)), (.int (98 : Int32)), (.int (101 : Int32)), (.int (116 : Int32)), (.int (119 : Int32)), (.int (101 : Int32)), (.int (101 : Int32)), (.int (110 : Int32)), (.int (32 : Int32)), (.int i218), (.int (32 : Int32)), (.int (97 : Int32)), (.int (110 : Int32)), (.int (100 : Int32)), (.int (32 : Int32)), (.int i219)] (.int (0 : Int32))) (PE15 : Exa Z h0 b63 "java/lang/String") (PF16 : Fld Z h0 b63 "java/lang/String" "value" "[B" (.ref b177a)) (PF17 : Fld Z h0 b63 "java/lang/String" "coder" "B" (.int (0 : Int32))) (PV18 : Arv Z h0 b177a k177b .byte (24 : Int32) [(.int (101 : Int32)), (.int (120 : Int32)), (.int (112 : Int32)), (.int (101 : Int32)), (.int (99 : Int32)), (.int (116 : Int32)), (.int (101 : Int32)), (.int (100 : Int32)), (.int (32 : Int32)), (.int (98 : Int32)), (.int (101 : Int32)), (.int (116 : Int32)), (.int (119 : Int32)), (.int (101 : Int32)), (.int (101 : Int32)), (.int (110 : Int32)), (.int (32 : Int32)), (.int i222), (.int (32 : Int32)), (.int (97 : Int32)), (.int (110 : Int32)), (.int (100 : Int32)), (.int (32 : Int32)), (.int i223)] (.int (0 : Int32))) (PP0 : ¬ (cs = (0 : Int32))) (PP4 : ¬ (a26 = b63)) (PP5 : i218 = i222) (PP6 : i219 = i223) :
    own_Met l mn41 jdk_42_method_66_code 3 (some .boolean) ws (oRm 1 0 0 14) #[(.ref a26), (.ref b63)] Z h0 (Q42a244 Z a26 b63 cs b26 k26 i218 i219 b177a k177b i222 i223 h0 n0) := by
  refine own_met (own := "java/lang/String") rfl (plainFor_of_name pn_7) ?_
  intro p e s m below meth c s₁ hx hby hml hZ hown hnm X0 e0 Br Bs
  have N0 := Fr.nil n0
  have tt := own_tt hx hby own_ok42
  rw [ef_rm42a244 m a26 b63]
  refine own_go (T' := s₁) (f' := (mkF m 8 #[oR a26, oR b63, oU] [vR b63])) (fun _ k => own_r X0 tt 0 2 rfl (Jvm.RoadKit.acmp (g := (mkF m 2 #[oR a26, oR b63, oU] [vR b63, vR a26])) X0 hx rfl rfl rfl (pc0 := 2) (pc' := 7) (same := false) rfl (hb hby d42_2) rfl (decide_eq_false fun q => PP4 (Value.ref.inj q)) (by decide) (by decide) (own_e X0 tt 7 1 k rfl))) ?_
  obtain ⟨T224, X224, e224, st224⟩ := instY X0 hx hZ hown (ow224 hw) e0 (Ins.self PE15) (g := (mkF m 8 #[oR a26, oR b63, oU] [vR b63])) rfl rfl (hb hby d42_8)
  refine own_go (T' := T224) (f' := (mkF m 15 #[oR a26, oR b63, oU] [vR b63])) (fun _ k => st224 _ (own_e X224 tt 11 2 k rfl)) ?_
  obtain ⟨T225, X225, e225, st225⟩ := castY X224 hx hZ hown (ow224 hw) e224 (Ins.self PE15) (g := (mkF m 15 #[oR a26, oR b63, oU] [vR b63])) rfl rfl (hb hby d42_15)
  refine own_go (T' := T225) (f' := (mkF m 19 #[oR a26, oR b63, oR b63] [])) (fun _ k => st225 _ (own_e X225 tt 18 1 k rfl)) ?_
  obtain ⟨T226, X226, e226, st226⟩ := getS2 X225 hx hZ hown (host := "") (Or.inl (ow64 hw)) Via.refl e225 PS0 (g := (mkF m 19 #[oR a26, oR b63, oR b63] [])) rfl (hb hby d42_19)
  refine own_go (T' := T226) (f' := (mkF m 26 #[oR a26, oR b63, oR b63] [vR a26])) (fun _ k => st226 _ (XS.ifNo X226.here hx rfl (hb hby d42_22) rfl ((if0 _ _).trans (feq PP0).1) (own_e X226 tt 25 1 k rfl))) ?_
  obtain ⟨T227, X227, e227, st227⟩ := getF X226 hx hZ hown (host := "") (Or.inl (ow65 hw)) Via.refl e226 PF10 (g := (mkF m 26 #[oR a26, oR b63, oR b63] [vR a26])) rfl rfl (hb hby d42_26)
  refine own_go (T' := T227) (f' := (mkF m 30 #[oR a26, oR b63, oR b63] [vR b63, vI 0])) (fun _ k => st227 _ (own_e X227 tt 29 1 k rfl)) ?_
  obtain ⟨T228, X228, e228, st228⟩ := getF X227 hx hZ hown (host := "") (Or.inl (ow65 hw)) Via.refl e227 PF17 (g := (mkF m 30 #[oR a26, oR b63, oR b63] [vR b63, vI 0])) rfl rfl (hb hby d42_30)
  refine own_go (T' := T228) (f' := (mkF m 37 #[oR a26, oR b63, oR b63] [vR a26])) (fun _ k => st228 _ (own_e X228 tt 33 2 k rfl)) ?_
  obtain ⟨T229, X229, e229, st229⟩ := getF X228 hx hZ hown (host := "") (Or.inl (ow58 hw)) Via.refl e228 PF11 (g := (mkF m 37 #[oR a26, oR b63, oR b63] [vR a26])) rfl rfl (hb hby d42_37)
  refine own_go (T' := T229) (f' := (mkF m 41 #[oR a26, oR b63, oR b63] [vR b63, vR b26])) (fun _ k => st229 _ (own_e X229 tt 40 1 k rfl)) ?_
  obtain ⟨T230, X230, e230, st230⟩ := getF X229 hx hZ hown (host := "") (Or.inl (ow58 hw)) Via.refl e229 PF16 (g := (mkF m 41 #[oR a26, oR b63, oR b63] [vR b63, vR b26])) rfl rfl (hb hby d42_41)
  refine own_go (T' := T230) (f' := (mkF m 44 #[oR a26, oR b63, oR b63] [vR b177a, vR b26])) (fun _ k => st230 _ k) ?_
  obtain ⟨_, T231, Lc231, X231, hQ231, st231⟩ := own_outC (Jvm.LawKit.callS X230 hx (y := mn40) hown (mvT hZ (ow225 hw)) (mvT hZ (ow226 hw)) (mvT hZ (ow227 hw)) (mvT hZ (ow228 hw)) (by decide) (backOf (W := 0) (rm43a245 l Z a0 hw [] b26 b177a k26 i218 i219 k177b i222 i223 h0 n0 Z0 PV12 PV18 PP5 PP6) hZ (ow228 hw) (ow227 hw) (by decide) (by decide)) (g := (mkF m 44 #[oR a26, oR b63, oR b63] [vR b177a, vR b26])) rfl (by rw [hml]; rfl) (argsL := [(.ref b26), (.ref b177a)]) (rest := []) (lenOf pd30 rfl) rfl (by show 2 * 0 + _ ≤ _; exact Nat.le_of_eq rfl) (hb hby d42_44) (fun _ _ => ⟨rfl, e230, (by decide : 0 + 0 ≤ _), (by decide : 0 + 0 ≤ _)⟩))
  obtain ⟨rfl, N231q, hh231⟩ := hQ231
  have N231 := Fr.app N0 N231q
  obtain ⟨_, X231, N231⟩ := own_hide X231 N231
  refine own_go (T' := T231) (f' := (mkF m 55 #[oR a26, oR b63, oR b63] [vI 1])) (fun _ k => st231 _ (own_e X231 tt 47 3 k rfl)) ?_
  refine own_ret X231 (v := some (.int (1 : Int32))) (fun h => by rw [Br] at h; cases h) Bs (fun fs hr => retN X231 hx (t := .boolean) Br (by simp) (hb hby d42_55) hr) ?_ (by decide) (by decide)
  show Q42a244 Z a26 b63 cs b26 k26 i218 i219 b177a k177b i222 i223 h0 n0 _ T231.heap _
  exact ⟨rfl, N231, hh231⟩
theorem pd20 : parseMethodDescriptor "(Ljava/lang/Object;)Z" = some ⟨[(.object "java/lang/Object")], some .boolean⟩ := by decide +kernel
def own_t0 (pc : Nat) : Option (Instr × Nat) := bif Nat.ble pc 172 then (bif Nat.ble pc 84 then (bif Nat.ble pc 30 then (bif Nat.ble pc 12 then (bif Nat.ble pc 3 then (bif Nat.ble pc 1 then (bif Nat.ble pc 0 then (bif Nat.beq pc 0 then some (.iload_n 2, 1) else none) else (bif Nat.beq pc 1 then some (.iconst 1, 1) else none)) else (bif Nat.ble pc 2 then (bif Nat.beq pc 2 then some (.iand, 1) else none) else (bif Nat.beq pc 3 then some (.ifCond .eq 7, 3) else none))) else (bif Nat.ble pc 7 then (bif Nat.ble pc 6 then (bif Nat.beq pc 6 then some (.iconst 1, 1) else none) else (bif Nat.beq pc 7 then some (.goto 4, 3) else none)) else (bif Nat.ble pc 10 then (bif Nat.beq pc 10 then some (.iconst 0, 1) else none) else (bif Nat.ble pc 11 then (bif Nat.beq pc 11 then some (.istore_n 3, 1) else none) else (bif Nat.beq pc 12 then some (.iload_n 0, 1) else none))))) else (bif Nat.ble pc 21 then (bif Nat.ble pc 16 then (bif Nat.ble pc 15 then (bif Nat.beq pc 15 then some (.iand, 1) else none) else (bif Nat.beq pc 16 then some (.istore 4, 2) else none)) else (bif Nat.ble pc 18 then (bif Nat.beq pc 18 then some (.iload_n 1, 1) else none) else (bif Nat.beq pc 21 then some (.iand, 1) else none))) else (bif Nat.ble pc 24 then (bif Nat.ble pc 22 then (bif Nat.beq pc 22 then some (.istore 5, 2) else none) else (bif Nat.beq pc 24 then some (.iload_n 3, 1) else none)) else (bif Nat.ble pc 25 then (bif Nat.beq pc 25 then some (.ifCond .eq 17, 3) else none) else (bif Nat.ble pc 28 then (bif Nat.beq pc 28 then some (.iload 4, 2) else none) else (bif Nat.beq pc 30 then some (.bipush 10, 2) else none)))))) else (bif Nat.ble pc 53 then (bif Nat.ble pc 40 then (bif Nat.ble pc 35 then (bif Nat.ble pc 33 then (bif Nat.beq pc 33 then some (.istore 4, 2) else none) else (bif Nat.beq pc 35 then some (.iload 5, 2) else none)) else (bif Nat.ble pc 37 then (bif Nat.beq pc 37 then some (.bipush 10, 2) else none) else (bif Nat.beq pc 40 then some (.istore 5, 2) else none))) else (bif Nat.ble pc 44 then (bif Nat.ble pc 42 then (bif Nat.beq pc 42 then some (.iload 4, 2) else none) else (bif Nat.beq pc 44 then some (.iload 5, 2) else none)) else (bif Nat.ble pc 49 then (bif Nat.beq pc 49 then some (.istore 6, 2) else none) else (bif Nat.ble pc 51 then (bif Nat.beq pc 51 then some (.iload 4, 2) else none) else (bif Nat.beq pc 53 then some (.iload 5, 2) else none))))) else (bif Nat.ble pc 67 then (bif Nat.ble pc 60 then (bif Nat.ble pc 58 then (bif Nat.beq pc 58 then some (.istore 7, 2) else none) else (bif Nat.beq pc 60 then some (.iload 6, 2) else none)) else (bif Nat.ble pc 62 then (bif Nat.beq pc 62 then some (.iload 7, 2) else none) else (bif Nat.beq pc 67 then some (.astore 8, 2) else none))) else (bif Nat.ble pc 74 then (bif Nat.ble pc 69 then (bif Nat.beq pc 69 then some (.aload 8, 2) else none) else (bif Nat.beq pc 74 then some (.iload 6, 2) else none)) else (bif Nat.ble pc 76 then (bif Nat.beq pc 76 then some (.if_icmp .ne 19, 3) else none) else (bif Nat.ble pc 79 then (bif Nat.beq pc 79 then some (.aload 8, 2) else none) else (bif Nat.beq pc 84 then some (.iload 7, 2) else none))))))) else (bif Nat.ble pc 133 then (bif Nat.ble pc 105 then (bif Nat.ble pc 91 then (bif Nat.ble pc 87 then (bif Nat.ble pc 86 then (bif Nat.beq pc 86 then some (.i2l, 1) else none) else (bif Nat.beq pc 87 then some (.lcmp, 1) else none)) else (bif Nat.ble pc 88 then (bif Nat.beq pc 88 then some (.ifCond .ne 7, 3) else none) else (bif Nat.beq pc 91 then some (.iconst 1, 1) else none))) else (bif Nat.ble pc 96 then (bif Nat.ble pc 92 then (bif Nat.beq pc 92 then some (.goto 4, 3) else none) else (bif Nat.beq pc 96 then some (.istore 9, 2) else none)) else (bif Nat.ble pc 98 then (bif Nat.beq pc 98 then some (.aload 8, 2) else none) else (bif Nat.ble pc 103 then (bif Nat.beq pc 103 then some (.astore 10, 2) else none) else (bif Nat.beq pc 105 then some (.iload 9, 2) else none))))) else (bif Nat.ble pc 115 then (bif Nat.ble pc 110 then (bif Nat.ble pc 107 then (bif Nat.beq pc 107 then some (.ifCond .eq 34, 3) else none) else (bif Nat.beq pc 110 then some (.aload 10, 2) else none)) else (bif Nat.ble pc 112 then (bif Nat.beq pc 112 then some (.ifnull 29, 3) else none) else (bif Nat.beq pc 115 then some (.aload 10, 2) else none))) else (bif Nat.ble pc 122 then (bif Nat.ble pc 120 then (bif Nat.beq pc 120 then some (.bipush 22, 2) else none) else (bif Nat.beq pc 122 then some (.iload 6, 2) else none)) else (bif Nat.ble pc 127 then (bif Nat.beq pc 127 then some (.iadd, 1) else none) else (bif Nat.ble pc 128 then (bif Nat.beq pc 128 then some (.iload 7, 2) else none) else (bif Nat.beq pc 133 then some (.iadd, 1) else none)))))) else (bif Nat.ble pc 153 then (bif Nat.ble pc 142 then (bif Nat.ble pc 137 then (bif Nat.ble pc 134 then (bif Nat.beq pc 134 then some (.if_icmp .ne 7, 3) else none) else (bif Nat.beq pc 137 then some (.iconst 1, 1) else none)) else (bif Nat.ble pc 138 then (bif Nat.beq pc 138 then some (.goto 4, 3) else none) else (bif Nat.beq pc 142 then some (.istore 9, 2) else none))) else (bif Nat.ble pc 146 then (bif Nat.ble pc 144 then (bif Nat.beq pc 144 then some (.iload 9, 2) else none) else (bif Nat.beq pc 146 then some (.ifCond .eq 175, 3) else none)) else (bif Nat.ble pc 149 then (bif Nat.beq pc 149 then some (.iload_n 3, 1) else none) else (bif Nat.ble pc 150 then (bif Nat.beq pc 150 then some (.ifCond .eq 171, 3) else none) else (bif Nat.beq pc 153 then some (.bipush 24, 2) else none))))) else (bif Nat.ble pc 163 then (bif Nat.ble pc 158 then (bif Nat.ble pc 157 then (bif Nat.beq pc 157 then some (.dup, 1) else none) else (bif Nat.beq pc 158 then some (.iconst 0, 1) else none)) else (bif Nat.ble pc 159 then (bif Nat.beq pc 159 then some (.bipush 101, 2) else none) else (bif Nat.ble pc 162 then (bif Nat.beq pc 162 then some (.dup, 1) else none) else (bif Nat.beq pc 163 then some (.iconst 1, 1) else none)))) else (bif Nat.ble pc 167 then (bif Nat.ble pc 164 then (bif Nat.beq pc 164 then some (.bipush 120, 2) else none) else (bif Nat.beq pc 167 then some (.dup, 1) else none)) else (bif Nat.ble pc 168 then (bif Nat.beq pc 168 then some (.iconst 2, 1) else none) else (bif Nat.ble pc 169 then (bif Nat.beq pc 169 then some (.bipush 112, 2) else none) else (bif Nat.beq pc 172 then some (.dup, 1) else none)))))))) else (bif Nat.ble pc 242 then (bif Nat.ble pc 205 then (bif Nat.ble pc 187 then (bif Nat.ble pc 178 then (bif Nat.ble pc 174 then (bif Nat.ble pc 173 then (bif Nat.beq pc 173 then some (.iconst 3, 1) else none) else (bif Nat.beq pc 174 then some (.bipush 101, 2) else none)) else (bif Nat.ble pc 177 then (bif Nat.beq pc 177 then some (.dup, 1) else none) else (bif Nat.beq pc 178 then some (.iconst 4, 1) else none))) else (bif Nat.ble pc 182 then (bif Nat.ble pc 179 then (bif Nat.beq pc 179 then some (.bipush 99, 2) else none) else (bif Nat.beq pc 182 then some (.dup, 1) else none)) else (bif Nat.ble pc 183 then (bif Nat.beq pc 183 then some (.iconst 5, 1) else none) else (bif Nat.ble pc 184 then (bif Nat.beq pc 184 then some (.bipush 116, 2) else none) else (bif Nat.beq pc 187 then some (.dup, 1) else none))))) else (bif Nat.ble pc 194 then (bif Nat.ble pc 190 then (bif Nat.ble pc 188 then (bif Nat.beq pc 188 then some (.bipush 6, 2) else none) else (bif Nat.beq pc 190 then some (.bipush 101, 2) else none)) else (bif Nat.ble pc 193 then (bif Nat.beq pc 193 then some (.dup, 1) else none) else (bif Nat.beq pc 194 then some (.bipush 7, 2) else none))) else (bif Nat.ble pc 199 then (bif Nat.ble pc 196 then (bif Nat.beq pc 196 then some (.bipush 100, 2) else none) else (bif Nat.beq pc 199 then some (.dup, 1) else none)) else (bif Nat.ble pc 200 then (bif Nat.beq pc 200 then some (.bipush 8, 2) else none) else (bif Nat.ble pc 202 then (bif Nat.beq pc 202 then some (.bipush 32, 2) else none) else (bif Nat.beq pc 205 then some (.dup, 1) else none)))))) else (bif Nat.ble pc 223 then (bif Nat.ble pc 212 then (bif Nat.ble pc 208 then (bif Nat.ble pc 206 then (bif Nat.beq pc 206 then some (.bipush 9, 2) else none) else (bif Nat.beq pc 208 then some (.bipush 98, 2) else none)) else (bif Nat.ble pc 211 then (bif Nat.beq pc 211 then some (.dup, 1) else none) else (bif Nat.beq pc 212 then some (.bipush 10, 2) else none))) else (bif Nat.ble pc 217 then (bif Nat.ble pc 214 then (bif Nat.beq pc 214 then some (.bipush 101, 2) else none) else (bif Nat.beq pc 217 then some (.dup, 1) else none)) else (bif Nat.ble pc 218 then (bif Nat.beq pc 218 then some (.bipush 11, 2) else none) else (bif Nat.ble pc 220 then (bif Nat.beq pc 220 then some (.bipush 116, 2) else none) else (bif Nat.beq pc 223 then some (.dup, 1) else none))))) else (bif Nat.ble pc 232 then (bif Nat.ble pc 226 then (bif Nat.ble pc 224 then (bif Nat.beq pc 224 then some (.bipush 12, 2) else none) else (bif Nat.beq pc 226 then some (.bipush 119, 2) else none)) else (bif Nat.ble pc 229 then (bif Nat.beq pc 229 then some (.dup, 1) else none) else (bif Nat.ble pc 230 then (bif Nat.beq pc 230 then some (.bipush 13, 2) else none) else (bif Nat.beq pc 232 then some (.bipush 101, 2) else none)))) else (bif Nat.ble pc 236 then (bif Nat.ble pc 235 then (bif Nat.beq pc 235 then some (.dup, 1) else none) else (bif Nat.beq pc 236 then some (.bipush 14, 2) else none)) else (bif Nat.ble pc 238 then (bif Nat.beq pc 238 then some (.bipush 101, 2) else none) else (bif Nat.ble pc 241 then (bif Nat.beq pc 241 then some (.dup, 1) else none) else (bif Nat.beq pc 242 then some (.bipush 15, 2) else none))))))) else (bif Nat.ble pc 276 then (bif Nat.ble pc 260 then (bif Nat.ble pc 250 then (bif Nat.ble pc 247 then (bif Nat.ble pc 244 then (bif Nat.beq pc 244 then some (.bipush 110, 2) else none) else (bif Nat.beq pc 247 then some (.dup, 1) else none)) else (bif Nat.ble pc 248 then (bif Nat.beq pc 248 then some (.bipush 16, 2) else none) else (bif Nat.beq pc 250 then some (.bipush 32, 2) else none))) else (bif Nat.ble pc 254 then (bif Nat.ble pc 253 then (bif Nat.beq pc 253 then some (.dup, 1) else none) else (bif Nat.beq pc 254 then some (.bipush 17, 2) else none)) else (bif Nat.ble pc 256 then (bif Nat.beq pc 256 then some (.bipush 48, 2) else none) else (bif Nat.ble pc 258 then (bif Nat.beq pc 258 then some (.iload 6, 2) else none) else (bif Nat.beq pc 260 then some (.iadd, 1) else none))))) else (bif Nat.ble pc 266 then (bif Nat.ble pc 263 then (bif Nat.ble pc 261 then (bif Nat.beq pc 261 then some (.i2c, 1) else none) else (bif Nat.beq pc 263 then some (.dup, 1) else none)) else (bif Nat.ble pc 264 then (bif Nat.beq pc 264 then some (.bipush 18, 2) else none) else (bif Nat.beq pc 266 then some (.bipush 32, 2) else none))) else (bif Nat.ble pc 270 then (bif Nat.ble pc 269 then (bif Nat.beq pc 269 then some (.dup, 1) else none) else (bif Nat.beq pc 270 then some (.bipush 19, 2) else none)) else (bif Nat.ble pc 272 then (bif Nat.beq pc 272 then some (.bipush 97, 2) else none) else (bif Nat.ble pc 275 then (bif Nat.beq pc 275 then some (.dup, 1) else none) else (bif Nat.beq pc 276 then some (.bipush 20, 2) else none)))))) else (bif Nat.ble pc 294 then (bif Nat.ble pc 284 then (bif Nat.ble pc 281 then (bif Nat.ble pc 278 then (bif Nat.beq pc 278 then some (.bipush 110, 2) else none) else (bif Nat.beq pc 281 then some (.dup, 1) else none)) else (bif Nat.ble pc 282 then (bif Nat.beq pc 282 then some (.bipush 21, 2) else none) else (bif Nat.beq pc 284 then some (.bipush 100, 2) else none))) else (bif Nat.ble pc 288 then (bif Nat.ble pc 287 then (bif Nat.beq pc 287 then some (.dup, 1) else none) else (bif Nat.beq pc 288 then some (.bipush 22, 2) else none)) else (bif Nat.ble pc 290 then (bif Nat.beq pc 290 then some (.bipush 32, 2) else none) else (bif Nat.ble pc 293 then (bif Nat.beq pc 293 then some (.dup, 1) else none) else (bif Nat.beq pc 294 then some (.bipush 23, 2) else none))))) else (bif Nat.ble pc 303 then (bif Nat.ble pc 298 then (bif Nat.ble pc 296 then (bif Nat.beq pc 296 then some (.bipush 48, 2) else none) else (bif Nat.beq pc 298 then some (.iload 7, 2) else none)) else (bif Nat.ble pc 300 then (bif Nat.beq pc 300 then some (.iadd, 1) else none) else (bif Nat.ble pc 301 then (bif Nat.beq pc 301 then some (.i2c, 1) else none) else (bif Nat.beq pc 303 then some (.astore 11, 2) else none)))) else (bif Nat.ble pc 310 then (bif Nat.ble pc 305 then (bif Nat.beq pc 305 then some (.aload 10, 2) else none) else (bif Nat.beq pc 310 then some (.dup, 1) else none)) else (bif Nat.ble pc 311 then (bif Nat.beq pc 311 then some (.aload 11, 2) else none) else (bif Nat.ble pc 319 then (bif Nat.beq pc 319 then some (.istore 9, 2) else none) else (bif Nat.beq pc 321 then some (.iload 9, 2) else none))))))))
theorem own_ok0 : ∀ pc q, own_fetch 324 own_t0 pc = some q → decode code pc = .ok q := own_tab (by decide +kernel)
theorem ef_rm0 (m : MethodId) (p0 : Int32) (p1 : Int32) (p2 : Int32) : entryFrame m #[(.int p0), (.int p1), (.int p2)] maxLocals = mkF m 0 #[.val (.int p0), .val (.int p1), .val (.int p2), .unset, .unset, .unset, .unset, .unset, .unset, .unset, .unset, .unset] [] := by first | (simp [entryFrame, mkF, argsToLocals, Value.category, maxLocals]; done) | rfl
def Q0 (Z : State) (B : State) (p0 : Int32) (p1 : Int32) (p2 : Int32) (cs : Int32) (wd : Addr) (kd : ClassId) (vd : List Value) (wt : Addr) (kt : ClassId) (vt : List Value) (h0 : Heap) (n0 : Nat) (v : Option Value) (h : Heap) (vm : Vm) (L : List Loc) : Prop := v = some (.int (1 : Int32)) ∧ Fr n0 L
set_option maxRecDepth 65536 in
set_option maxHeartbeats 40000000 in
theorem rm0 (l : Launch) (Z : State) (a0 : Array Value) (hw : ∀ d ∈ tables_1, d.before a0 Z = true) (ws : List Jvm.Cond) (B : State) (p0 : Int32) (p1 : Int32) (p2 : Int32) (cs : Int32) (wd : Addr) (kd : ClassId) (vd : List Value) (wt : Addr) (kt : ClassId) (vt : List Value) (h0 : Heap) (n0 : Nat) (Z0 : n0 ≤ h0.size) (S_cs : Sta Z h0 "java/lang/String" "COMPACT_STRINGS" "Z" (.int cs)) (hcs : ¬ (cs = (0 : Int32))) (S_do : Sta Z h0 "java/lang/Integer" "DigitOnes" "[B" (.ref wd)) (V_do : Arv Z h0 wd kd .byte (100 : Int32) vd (.int (0 : Int32))) (S_dt : Sta Z h0 "java/lang/Integer" "DigitTens" "[B" (.ref wt)) (V_dt : Arv Z h0 wt kt .byte (100 : Int32) vt (.int (0 : Int32))) (hst : own_SameSt Z) (hd10 : own_D10 vd) (hcw : Jvm.Lit.compactW.before a0 Z = true) (hcA : Jvm.Lit.constHeld Z "com/example/tally_of_calls/tallyofcalls/Counts" 65) (hcB : Jvm.Lit.constHeld Z "com/example/tally_of_calls/tallyofcalls/Counts" 67) (hZB : Z = B) (hZh : h0 = Z.heap) :
    MetFree l x (head1 (Jvm.Cond.code x code maxLocals ret :: ws) room_1) (fun a U => a = #[(.int p0), (.int p1), (.int p2)] ∧ Z.Warmed39 U.vm ∧ B.WarmedH U.vm ∧ U.heap = h0) (fun _ _ _ _ _ => True) (fun _ U o U' => ∃ v L, o = .returned v ∧ Q0 Z B p0 p1 p2 cs wd kd vd wt kt vt h0 n0 v U'.heap U'.vm L ∧ ReturnedEndW U o U' L room_1.cells room_1.slots) := by
  refine MetFree.of_bodySF (plainFor_of_name pn_2) hisR ?_
  intro p e s m args below meth c s₁ Bd hml0 hP hK
  obtain ⟨rfl, hZ, hB, hh⟩ := hP
  have hx := Bd.exec
  have hby := Bd.bytes
  have hml : c.maxLocals = 12 := hml0
  have hown : s.vm.findClass "com/example/tally_of_calls/tallyofcalls/CountsBetweenPinLaw" = some m.cls := findClass_of_methodNamed Bd.named
  have hnm := (name_of_methodNamed Bd.named Bd.method).1
  have X0 : Stand p l e room_1 (s.setVm s.vm) m #[(.int p0), (.int p1), (.int p2)] below meth c s₁ [] 0 0 := Stand.of_body Bd
  have e0 : s₁.heap = h0 := by rw [← hh, Bd.state]; rfl
  have N0 := Fr.nil n0
  have tt := own_tt hx hby own_ok0
  have hS : s.Since s.vm h0.size := (State.WarmedH.refl s).since _
  show own_EndsW p e below s (Q0 Z B p0 p1 p2 cs wd kd vd wt kt vt h0 n0) _ _ s₁ _
  rw [ef_rm0 m p0 p1 p2]
  have I1 : IB Z s.vm [] := own_ib (B := Z) IB.start (hZB.symm ▸ hB)
  refine own_goW (T' := s₁) (f' := (mkF m 3 #[.val (.int p0), .val (.int p1), .val (.int p2), oU, oU, oU, oU, oU, oU, oU, oU, oU] [(.int (p2 &&& (1 : Int32)))])) (fun _ k => own_e X0 tt 0 3 k rfl) ?_
  by_cases hc1 : (p2 &&& (1 : Int32)) = (0 : Int32)
  · refine own_goW (T' := s₁) (f' := (mkF m 18 #[.val (.int p0), .val (.int p1), .val (.int p2), oI 0, .val (.int (p0 &&& (2147483647 : Int32))), oU, oU, oU, oU, oU, oU, oU] [])) (fun _ k => XS.ifYes X0.here hx rfl (pc0 := 3) (pc' := 10) rfl (hb hby at_3) rfl ((if0 _ _).trans (teq hc1).1) (by decide) (by decide) (own_r X0 tt 10 3 rfl (X0.ldcInt hx hown (mvT hZ (ow0 hw)) (g := (mkF m 13 #[.val (.int p0), .val (.int p1), .val (.int p2), oI 0, oU, oU, oU, oU, oU, oU, oU, oU] [(.int p0)])) rfl (hb hby at_13) _ (own_e X0 tt 15 2 k rfl)))) ?_
    generalize hzx0 : (p0 &&& (2147483647 : Int32)) = zx0
    refine own_goW (T' := s₁) (f' := (mkF m 24 #[.val (.int p0), .val (.int p1), .val (.int p2), oI 0, .val (.int zx0), .val (.int (p1 &&& (2147483647 : Int32))), oU, oU, oU, oU, oU, oU] [])) (fun _ k => own_r X0 tt 18 1 rfl (X0.ldcInt hx hown (mvT hZ (ow0 hw)) (g := (mkF m 19 #[.val (.int p0), .val (.int p1), .val (.int p2), oI 0, .val (.int zx0), oU, oU, oU, oU, oU, oU, oU] [(.int p1)])) rfl (hb hby at_19) _ (own_e X0 tt 21 2 k rfl))) ?_
    generalize hzy0 : (p1 &&& (2147483647 : Int32)) = zy0
    refine own_goW (T' := s₁) (f' := (mkF m 46 #[.val (.int p0), .val (.int p1), .val (.int p2), oI 0, .val (.int zx0), .val (.int zy0), oU, oU, oU, oU, oU, oU] [(.int zy0), (.int zx0)])) (fun _ k => own_e X0 tt 24 4 k rfl) ?_
    obtain ⟨_, T2, Lc2, X2, hQ2, st2⟩ := own_outC (Jvm.LawKit.callS X0 hx (y := mn0) hown (mvT hZ (ow1 hw)) (mvT hZ (ow2 hw)) (mvT hZ (ow3 hw)) (mvT hZ (ow4 hw)) (by decide) (backOf (W := 0) (rm1 l Z a0 hw [] zx0 zy0 h0 n0 Z0) hZ (ow4 hw) (ow3 hw) (by decide) (by decide)) (g := (mkF m 46 #[.val (.int p0), .val (.int p1), .val (.int p2), oI 0, .val (.int zx0), .val (.int zy0), oU, oU, oU, oU, oU, oU] [(.int zy0), (.int zx0)])) rfl (by rw [hml]; rfl) (argsL := [(.int zx0), (.int zy0)]) (rest := []) (lenOf pd12 rfl) rfl (by show 2 * 0 + _ ≤ _; exact Nat.le_of_eq rfl) (hb hby at_46) (fun _ _ => ⟨rfl, e0, (by decide : 0 + 0 ≤ _), (by decide : 0 + 0 ≤ _)⟩))
    obtain ⟨rfl, N2q, hh2⟩ := hQ2
    have N2 := Fr.app N0 N2q
    obtain ⟨_, X2, N2⟩ := own_hide X2 N2
    refine own_goW (T' := T2) (f' := (mkF m 51 #[.val (.int p0), .val (.int p1), .val (.int p2), oI 0, .val (.int zx0), .val (.int zy0), .val (.int (own_min zx0 zy0)), oU, oU, oU, oU, oU] [])) (fun _ k => st2 _ (own_e X2 tt 49 1 k rfl)) ?_
    generalize hzl : (own_min zx0 zy0) = zl
    refine own_goW (T' := T2) (f' := (mkF m 55 #[.val (.int p0), .val (.int p1), .val (.int p2), oI 0, .val (.int zx0), .val (.int zy0), .val (.int zl), oU, oU, oU, oU, oU] [(.int zy0), (.int zx0)])) (fun _ k => own_e X2 tt 51 2 k rfl) ?_
    obtain ⟨_, T3, Lc3, X3, hQ3, st3⟩ := own_outC (Jvm.LawKit.callS X2 hx (y := mn1) hown (mvT hZ (ow5 hw)) (mvT hZ (ow6 hw)) (mvT hZ (ow3 hw)) (mvT hZ (ow7 hw)) (by decide) (backOf (W := 0) (rm2 l Z a0 hw [] zx0 zy0 h0 n0 Z0) hZ (ow7 hw) (ow3 hw) (by decide) (by decide)) (g := (mkF m 55 #[.val (.int p0), .val (.int p1), .val (.int p2), oI 0, .val (.int zx0), .val (.int zy0), .val (.int zl), oU, oU, oU, oU, oU] [(.int zy0), (.int zx0)])) rfl (by rw [hml]; rfl) (argsL := [(.int zx0), (.int zy0)]) (rest := []) (lenOf pd12 rfl) rfl (by show 2 * 0 + _ ≤ _; exact Nat.le_of_eq rfl) (hb hby at_55) (fun _ _ => ⟨rfl, hh2, (by decide : 0 + 0 ≤ _), (by decide : 0 + 0 ≤ _)⟩))
    obtain ⟨rfl, N3q, hh3⟩ := hQ3
    have N3 := Fr.app N2 N3q
    obtain ⟨_, X3, N3⟩ := own_hide X3 N3
    refine own_goW (T' := T3) (f' := (mkF m 60 #[.val (.int p0), .val (.int p1), .val (.int p2), oI 0, .val (.int zx0), .val (.int zy0), .val (.int zl), .val (.int (own_max zx0 zy0)), oU, oU, oU, oU] [])) (fun _ k => st3 _ (own_e X3 tt 58 1 k rfl)) ?_
    generalize hzh : (own_max zx0 zy0) = zh
    have hx0 : ¬ zx0 < (0 : Int32) := by rw [← hzx0]; exact own_mk p0
    have hy0 : ¬ zy0 < (0 : Int32) := by rw [← hzy0]; exact own_mk p1
    have hmm := own_mm hx0 hy0
    rw [hzl, hzh] at hmm
    obtain ⟨hl0, hle⟩ := hmm
    refine own_goW (T' := T3) (f' := (mkF m 64 #[.val (.int p0), .val (.int p1), .val (.int p2), oI 0, .val (.int zx0), .val (.int zy0), .val (.int zl), .val (.int zh), oU, oU, oU, oU] [(.int zh), (.int zl)])) (fun _ k => own_e X3 tt 60 2 k rfl) ?_
    obtain ⟨_, T4, Lc4, X4, hS4, hgr4, hQ4, st4⟩ := own_outS (callSS X3 hx (y := mn31) hown (mvT hZ (ow8 hw)) (mvT hZ (ow9 hw)) (mvT hZ (ow10 hw)) (mvT hZ (ow11 hw)) (by decide) (own_backS (W := 0) (rm3g l Z a0 hw [] (s.setVm s.vm) zl zh cs wd kd vd wt kt vt h0 h0.size (Nat.le_refl _) S_cs hcs S_do V_do S_dt V_dt hst hd10 I1 (fun b cl q => (Keep.refl h0 []).2.1 b cl (by rw [hZh]; exact q) nin0) hcw hcA hcB rfl hl0 hle) hZ (ow11 hw) (ow10 hw) (by decide) (by decide)) (g := (mkF m 64 #[.val (.int p0), .val (.int p1), .val (.int p2), oI 0, .val (.int zx0), .val (.int zy0), .val (.int zl), .val (.int zh), oU, oU, oU, oU] [(.int zh), (.int zl)])) rfl (by rw [hml]; rfl) (argsL := [(.int zl), (.int zh)]) (rest := []) (lenOf pd13 rfl) rfl (by show 2 * 0 + _ ≤ _; exact Nat.le_of_eq rfl) (hb hby at_64) (fun _ _ => ⟨rfl, hh3, (by decide : 0 + 11 ≤ _), (by decide : 0 + 269 ≤ _)⟩))
    have hM4 := hS4
    obtain ⟨X4, hS, hZ, hown⟩ := rebS hS (by rw [hh3]; exact (Nat.le_refl _) : _ ≤ T3.heap.size) X4 hM4 hgr4 hZ hown
    obtain ⟨c4, a4, b4, k4, us4, rfl, N4q, K4, hn4, sg_c4, g4_0, g4_1, g4_2, g4_3, g4_4, g4_5, g4_6, g4_7⟩ := hQ4
    have n_c4 : n0 ≤ c4 := Nat.le_trans Z0 hn4
    have N4 := Fr.app N3 (own_fr N4q Z0)
    have sz_c4 : h0.size ≤ c4 := Nat.le_trans (Keep.refl h0 []).1 sg_c4
    have eK4 : T4.heap = T4.heap := rfl
    have KK4 : Keep h0 T4.heap [] := Keep.trans (Keep.refl h0 []) K4 all0
    obtain ⟨_, X4, N4⟩ := own_hide X4 N4
    refine own_goW (T' := T4) (f' := (mkF m 71 #[.val (.int p0), .val (.int p1), .val (.int p2), oI 0, .val (.int zx0), .val (.int zy0), .val (.int zl), .val (.int zh), oR c4, oU, oU, oU] [vR c4])) (fun _ k => st4.trans (own_e X4 tt 67 2 k rfl)) ?_
    obtain ⟨cq8, kq8, q8a, q8b, q8c⟩ := isOf hZ eK4 g4_0
    obtain ⟨_, T8, Lc8, X8, hQ8, st8⟩ := own_out (X4.virtualBack hx (y := mn32) (z := mn32) hown (mvT hZ (ow181 hw)) (mvT hZ (ow182 hw)) (notFace_of_selects (args := #[]) (mvT hZ (ow184 hw))) (mvT hZ (ow184 hw)) (mvT hZ (ow183 hw)) (by decide) (backOf (W := 0) (rm33a221 l Z a0 hw [] c4 zl T4.heap n0 (Nat.le_trans Z0 K4.1) g4_1) hZ (ow185 hw) (ow14 hw) (by decide) (by decide)) q8a q8c (g := (mkF m 71 #[.val (.int p0), .val (.int p1), .val (.int p2), oI 0, .val (.int zx0), .val (.int zy0), .val (.int zl), .val (.int zh), oR c4, oU, oU, oU] [vR c4])) rfl (by rw [hml]; rfl) (Steps.refl _) (argsL := []) (rest := []) (lenOf pd1 rfl) rfl (by show 2 * 0 + _ ≤ _; exact Nat.le_of_eq rfl) (hb hby at_71) (fun _ _ => ⟨rfl, eK4, (by decide : 11 + 0 ≤ _), (by decide : 269 + 0 ≤ _)⟩))
    obtain ⟨rfl, N8q, hh8⟩ := hQ8
    have N8 := Fr.app N4 N8q
    obtain ⟨_, X8, N8⟩ := own_hide X8 N8
    refine own_goW (T' := T8) (f' := (mkF m 81 #[.val (.int p0), .val (.int p1), .val (.int p2), oI 0, .val (.int zx0), .val (.int zy0), .val (.int zl), .val (.int zh), oR c4, oU, oU, oU] [vR c4])) (fun _ k => st8.trans (own_r X8 tt 74 1 rfl (XS.icmpNo X8.here hx rfl (hb hby at_76) rfl (teq (rfl : zl = zl)).2 (own_e X8 tt 79 1 k rfl)))) ?_
    obtain ⟨cq12, kq12, q12a, q12b, q12c⟩ := isOf hZ hh8 g4_0
    obtain ⟨_, T12, Lc12, X12, hQ12, st12⟩ := own_out (X8.virtualBack hx (y := mn33) (z := mn33) hown (mvT hZ (ow186 hw)) (mvT hZ (ow187 hw)) (notFace_of_selects (args := #[]) (mvT hZ (ow189 hw))) (mvT hZ (ow189 hw)) (mvT hZ (ow188 hw)) (by decide) (backOf (W := 0) (rm34a222 l Z a0 hw [] c4 (zh.toInt64) T4.heap n0 (Nat.le_trans Z0 K4.1) g4_2) hZ (ow190 hw) (ow14 hw) (by decide) (by decide)) q12a q12c (g := (mkF m 81 #[.val (.int p0), .val (.int p1), .val (.int p2), oI 0, .val (.int zx0), .val (.int zy0), .val (.int zl), .val (.int zh), oR c4, oU, oU, oU] [vR c4])) rfl (by rw [hml]; rfl) (Steps.refl _) (argsL := []) (rest := []) (lenOf pd2 rfl) rfl (by show 2 * 0 + _ ≤ _; exact Nat.le_of_eq rfl) (hb hby at_81) (fun _ _ => ⟨rfl, hh8, (by decide : 11 + 0 ≤ _), (by decide : 269 + 0 ≤ _)⟩))
    obtain ⟨rfl, N12q, hh12⟩ := hQ12
    have N12 := Fr.app N8 N12q
    obtain ⟨_, X12, N12⟩ := own_hide X12 N12
    refine own_goW (T' := T12) (f' := (mkF m 100 #[.val (.int p0), .val (.int p1), .val (.int p2), oI 0, .val (.int zx0), .val (.int zy0), .val (.int zl), .val (.int zh), oR c4, oI 1, oU, oU] [vR c4])) (fun _ k => st12.trans (own_r X12 tt 84 3 rfl (XS.ifNo X12.here hx rfl (hb hby at_88) rfl ((if0 _ _).trans (teq ((own_lc_eq (a := (zh.toInt64)) (b := (zh.toInt64))).mpr (rfl : (zh.toInt64) = (zh.toInt64)))).2) (own_e X12 tt 91 4 k rfl)))) ?_
    obtain ⟨cq16, kq16, q16a, q16b, q16c⟩ := isOf hZ hh12 g4_0
    obtain ⟨_, T16, Lc16, X16, hQ16, st16⟩ := own_out (X12.virtualBack hx (y := mn34) (z := mn34) hown (mvT hZ (ow191 hw)) (mvT hZ (ow192 hw)) (notFace_of_selects (args := #[]) (mvT hZ (ow194 hw))) (mvT hZ (ow194 hw)) (mvT hZ (ow193 hw)) (by decide) (backOf (W := 0) (rm35a223 l Z a0 hw [] c4 a4 T4.heap n0 (Nat.le_trans Z0 K4.1) g4_3) hZ (ow195 hw) (ow14 hw) (by decide) (by decide)) q16a q16c (g := (mkF m 100 #[.val (.int p0), .val (.int p1), .val (.int p2), oI 0, .val (.int zx0), .val (.int zy0), .val (.int zl), .val (.int zh), oR c4, oI 1, oU, oU] [vR c4])) rfl (by rw [hml]; rfl) (Steps.refl _) (argsL := []) (rest := []) (lenOf pd4 rfl) rfl (by show 2 * 0 + _ ≤ _; exact Nat.le_of_eq rfl) (hb hby at_100) (fun _ _ => ⟨rfl, hh12, (by decide : 11 + 0 ≤ _), (by decide : 269 + 0 ≤ _)⟩))
    obtain ⟨rfl, N16q, hh16⟩ := hQ16
    have N16 := Fr.app N12 N16q
    obtain ⟨_, X16, N16⟩ := own_hide X16 N16
    refine own_goW (T' := T16) (f' := (mkF m 117 #[.val (.int p0), .val (.int p1), .val (.int p2), oI 0, .val (.int zx0), .val (.int zy0), .val (.int zl), .val (.int zh), oR c4, oI 1, oR a4, oU] [vR a4])) (fun _ k => st16.trans (own_e X16 tt 103 6 k rfl)) ?_
    obtain ⟨cq21, kq21, q21a, q21b, q21c⟩ := isOf hZ hh16 g4_4
    obtain ⟨_, T21, Lc21, X21, hQ21, st21⟩ := own_out (X16.virtualBack hx (y := mn7) (z := mn7) hown (mvT hZ (ow196 hw)) (mvT hZ (ow54 hw)) (notFace_of_selects (args := #[]) (mvT hZ (ow56 hw))) (mvT hZ (ow56 hw)) (mvT hZ (ow55 hw)) (by decide) (backOf (W := 0) (rm9a224 l Z a0 hw [] a4 cs b4 k4 ((((17 : Int32) + (own_dg zl)) + (5 : Int32)) + (own_dg zh)) us4 T4.heap n0 (Nat.le_trans Z0 K4.1) (own_sta_keep S_cs K4 own_ws0) g4_4 g4_5 g4_6 g4_7 hcs) hZ (ow57 hw) (ow31 hw) (by decide) (by decide)) q21a q21c (g := (mkF m 117 #[.val (.int p0), .val (.int p1), .val (.int p2), oI 0, .val (.int zx0), .val (.int zy0), .val (.int zl), .val (.int zh), oR c4, oI 1, oR a4, oU] [vR a4])) rfl (by rw [hml]; rfl) (Steps.refl _) (argsL := []) (rest := []) (lenOf pd1 rfl) rfl (by show 2 * 0 + _ ≤ _; exact Nat.le_of_eq rfl) (hb hby at_117) (fun _ _ => ⟨rfl, hh16, (by decide : 11 + 0 ≤ _), (by decide : 269 + 0 ≤ _)⟩))
    obtain ⟨rfl, N21q, hh21⟩ := hQ21
    have N21 := Fr.app N16 N21q
    obtain ⟨_, X21, N21⟩ := own_hide X21 N21
    refine own_goW (T' := T21) (f' := (mkF m 124 #[.val (.int p0), .val (.int p1), .val (.int p2), oI 0, .val (.int zx0), .val (.int zy0), .val (.int zl), .val (.int zh), oR c4, oI 1, oR a4, oU] [(.int zl), vI 22, (.int (((((17 : Int32) + (own_dg zl)) + (5 : Int32)) + (own_dg zh)) >>> ((0 : Int32) &&& 31)))])) (fun _ k => st21.trans (own_e X21 tt 120 2 k rfl)) ?_
    obtain ⟨_, T22, Lc22, X22, hQ22, st22⟩ := own_outC (Jvm.LawKit.callS X21 hx (y := mn2) hown (mvT hZ (ow197 hw)) (mvT hZ (ow198 hw)) (mvT hZ (ow199 hw)) (mvT hZ (ow200 hw)) (by decide) (backOf (W := 2) (rm36 l Z a0 hw [] zl T4.heap n0 (Nat.le_trans Z0 K4.1)) hZ (ow200 hw) (ow199 hw) (by decide) (by decide)) (g := (mkF m 124 #[.val (.int p0), .val (.int p1), .val (.int p2), oI 0, .val (.int zx0), .val (.int zy0), .val (.int zl), .val (.int zh), oR c4, oI 1, oR a4, oU] [(.int zl), vI 22, (.int (((((17 : Int32) + (own_dg zl)) + (5 : Int32)) + (own_dg zh)) >>> ((0 : Int32) &&& 31)))])) rfl (by rw [hml]; rfl) (argsL := [(.int zl)]) (rest := [(.int (22 : Int32)), (.int (((((17 : Int32) + (own_dg zl)) + (5 : Int32)) + (own_dg zh)) >>> ((0 : Int32) &&& 31)))]) (lenOf pd8 rfl) rfl (by show 2 * 0 + _ ≤ _; exact Nat.le_of_eq rfl) (hb hby at_124) (fun _ _ => ⟨rfl, hh21, (by decide : 11 + 0 ≤ _), (by decide : 269 + 0 ≤ _)⟩))
    obtain ⟨rfl, N22q, hh22⟩ := hQ22
    have N22 := Fr.app N21 N22q
    obtain ⟨_, X22, N22⟩ := own_hide X22 N22
    refine own_goW (T' := T22) (f' := (mkF m 130 #[.val (.int p0), .val (.int p1), .val (.int p2), oI 0, .val (.int zx0), .val (.int zy0), .val (.int zl), .val (.int zh), oR c4, oI 1, oR a4, oU] [(.int zh), (.int ((22 : Int32) + (own_dg zl))), (.int (((((17 : Int32) + (own_dg zl)) + (5 : Int32)) + (own_dg zh)) >>> ((0 : Int32) &&& 31)))])) (fun _ k => st22 _ (own_e X22 tt 127 2 k rfl)) ?_
    obtain ⟨_, T23, Lc23, X23, hQ23, st23⟩ := own_outC (Jvm.LawKit.callS X22 hx (y := mn2) hown (mvT hZ (ow197 hw)) (mvT hZ (ow198 hw)) (mvT hZ (ow199 hw)) (mvT hZ (ow200 hw)) (by decide) (backOf (W := 2) (rm36 l Z a0 hw [] zh T4.heap n0 (Nat.le_trans Z0 K4.1)) hZ (ow200 hw) (ow199 hw) (by decide) (by decide)) (g := (mkF m 130 #[.val (.int p0), .val (.int p1), .val (.int p2), oI 0, .val (.int zx0), .val (.int zy0), .val (.int zl), .val (.int zh), oR c4, oI 1, oR a4, oU] [(.int zh), (.int ((22 : Int32) + (own_dg zl))), (.int (((((17 : Int32) + (own_dg zl)) + (5 : Int32)) + (own_dg zh)) >>> ((0 : Int32) &&& 31)))])) rfl (by rw [hml]; rfl) (argsL := [(.int zh)]) (rest := [(.int ((22 : Int32) + (own_dg zl))), (.int (((((17 : Int32) + (own_dg zl)) + (5 : Int32)) + (own_dg zh)) >>> ((0 : Int32) &&& 31)))]) (lenOf pd8 rfl) rfl (by show 2 * 0 + _ ≤ _; exact Nat.le_of_eq rfl) (hb hby at_130) (fun _ _ => ⟨rfl, hh22, (by decide : 11 + 0 ≤ _), (by decide : 269 + 0 ≤ _)⟩))
    obtain ⟨rfl, N23q, hh23⟩ := hQ23
    have N23 := Fr.app N22 N23q
    obtain ⟨_, X23, N23⟩ := own_hide X23 N23
    refine own_goW (T' := T23) (f' := (mkF m 323 #[.val (.int p0), .val (.int p1), .val (.int p2), oI 0, .val (.int zx0), .val (.int zy0), .val (.int zl), .val (.int zh), oR c4, oI 1, oR a4, oU] [vI 1])) (fun _ k => st23 _ (own_r X23 tt 133 1 rfl (XS.icmpNo X23.here hx rfl (hb hby at_134) rfl (teq (own_lg zl zh)).2 (own_e X23 tt 137 8 k rfl)))) ?_
    refine own_retW X23 hS (by rw [hh23]; exact (Nat.le_refl _)) (v := some (.int (1 : Int32))) (fun h => by rw [Bd.returns] at h; cases h) Bd.notSynchronized (fun fs hr => retN X23 hx (t := .boolean) Bd.returns (by simp) (hb hby at_323) hr) ?_ (by decide) (by decide)
    show Q0 Z B p0 p1 p2 cs wd kd vd wt kt vt h0 n0 _ T23.heap T23.vm _
    exact ⟨rfl, N23⟩
  · refine own_goW (T' := s₁) (f' := (mkF m 18 #[.val (.int p0), .val (.int p1), .val (.int p2), oI 1, .val (.int (p0 &&& (2147483647 : Int32))), oU, oU, oU, oU, oU, oU, oU] [])) (fun _ k => XS.ifNo X0.here hx rfl (hb hby at_3) rfl ((if0 _ _).trans (feq hc1).1) (own_r X0 tt 6 4 rfl (X0.ldcInt hx hown (mvT hZ (ow0 hw)) (g := (mkF m 13 #[.val (.int p0), .val (.int p1), .val (.int p2), oI 1, oU, oU, oU, oU, oU, oU, oU, oU] [(.int p0)])) rfl (hb hby at_13) _ (own_e X0 tt 15 2 k rfl)))) ?_
    generalize hzx0 : (p0 &&& (2147483647 : Int32)) = zx0
    refine own_goW (T' := s₁) (f' := (mkF m 24 #[.val (.int p0), .val (.int p1), .val (.int p2), oI 1, .val (.int zx0), .val (.int (p1 &&& (2147483647 : Int32))), oU, oU, oU, oU, oU, oU] [])) (fun _ k => own_r X0 tt 18 1 rfl (X0.ldcInt hx hown (mvT hZ (ow0 hw)) (g := (mkF m 19 #[.val (.int p0), .val (.int p1), .val (.int p2), oI 1, .val (.int zx0), oU, oU, oU, oU, oU, oU, oU] [(.int p1)])) rfl (hb hby at_19) _ (own_e X0 tt 21 2 k rfl))) ?_
    generalize hzy0 : (p1 &&& (2147483647 : Int32)) = zy0
    refine own_goW (T' := s₁) (f' := (mkF m 35 #[.val (.int p0), .val (.int p1), .val (.int p2), oI 1, .val (.int (zx0 % (10 : Int32))), .val (.int zy0), oU, oU, oU, oU, oU, oU] [])) (fun _ k => own_r X0 tt 24 4 rfl (iremM X0 hx rfl (hb hby at_32) rfl (by decide) (own_e X0 tt 33 1 k rfl))) ?_
    generalize hzx : (zx0 % (10 : Int32)) = zx
    refine own_goW (T' := s₁) (f' := (mkF m 42 #[.val (.int p0), .val (.int p1), .val (.int p2), oI 1, .val (.int zx), .val (.int (zy0 % (10 : Int32))), oU, oU, oU, oU, oU, oU] [])) (fun _ k => own_r X0 tt 35 2 rfl (iremM X0 hx rfl (hb hby at_39) rfl (by decide) (own_e X0 tt 40 1 k rfl))) ?_
    generalize hzy : (zy0 % (10 : Int32)) = zy
    refine own_goW (T' := s₁) (f' := (mkF m 46 #[.val (.int p0), .val (.int p1), .val (.int p2), oI 1, .val (.int zx), .val (.int zy), oU, oU, oU, oU, oU, oU] [(.int zy), (.int zx)])) (fun _ k => own_e X0 tt 42 2 k rfl) ?_
    obtain ⟨_, T24, Lc24, X24, hQ24, st24⟩ := own_outC (Jvm.LawKit.callS X0 hx (y := mn0) hown (mvT hZ (ow1 hw)) (mvT hZ (ow2 hw)) (mvT hZ (ow3 hw)) (mvT hZ (ow4 hw)) (by decide) (backOf (W := 0) (rm1 l Z a0 hw [] zx zy h0 n0 Z0) hZ (ow4 hw) (ow3 hw) (by decide) (by decide)) (g := (mkF m 46 #[.val (.int p0), .val (.int p1), .val (.int p2), oI 1, .val (.int zx), .val (.int zy), oU, oU, oU, oU, oU, oU] [(.int zy), (.int zx)])) rfl (by rw [hml]; rfl) (argsL := [(.int zx), (.int zy)]) (rest := []) (lenOf pd12 rfl) rfl (by show 2 * 0 + _ ≤ _; exact Nat.le_of_eq rfl) (hb hby at_46) (fun _ _ => ⟨rfl, e0, (by decide : 0 + 0 ≤ _), (by decide : 0 + 0 ≤ _)⟩))
    obtain ⟨rfl, N24q, hh24⟩ := hQ24
    have N24 := Fr.app N0 N24q
    obtain ⟨_, X24, N24⟩ := own_hide X24 N24
    refine own_goW (T' := T24) (f' := (mkF m 51 #[.val (.int p0), .val (.int p1), .val (.int p2), oI 1, .val (.int zx), .val (.int zy), .val (.int (own_min zx zy)), oU, oU, oU, oU, oU] [])) (fun _ k => st24 _ (own_e X24 tt 49 1 k rfl)) ?_
    generalize hzl : (own_min zx zy) = zl
    refine own_goW (T' := T24) (f' := (mkF m 55 #[.val (.int p0), .val (.int p1), .val (.int p2), oI 1, .val (.int zx), .val (.int zy), .val (.int zl), oU, oU, oU, oU, oU] [(.int zy), (.int zx)])) (fun _ k => own_e X24 tt 51 2 k rfl) ?_
    obtain ⟨_, T25, Lc25, X25, hQ25, st25⟩ := own_outC (Jvm.LawKit.callS X24 hx (y := mn1) hown (mvT hZ (ow5 hw)) (mvT hZ (ow6 hw)) (mvT hZ (ow3 hw)) (mvT hZ (ow7 hw)) (by decide) (backOf (W := 0) (rm2 l Z a0 hw [] zx zy h0 n0 Z0) hZ (ow7 hw) (ow3 hw) (by decide) (by decide)) (g := (mkF m 55 #[.val (.int p0), .val (.int p1), .val (.int p2), oI 1, .val (.int zx), .val (.int zy), .val (.int zl), oU, oU, oU, oU, oU] [(.int zy), (.int zx)])) rfl (by rw [hml]; rfl) (argsL := [(.int zx), (.int zy)]) (rest := []) (lenOf pd12 rfl) rfl (by show 2 * 0 + _ ≤ _; exact Nat.le_of_eq rfl) (hb hby at_55) (fun _ _ => ⟨rfl, hh24, (by decide : 0 + 0 ≤ _), (by decide : 0 + 0 ≤ _)⟩))
    obtain ⟨rfl, N25q, hh25⟩ := hQ25
    have N25 := Fr.app N24 N25q
    obtain ⟨_, X25, N25⟩ := own_hide X25 N25
    refine own_goW (T' := T25) (f' := (mkF m 60 #[.val (.int p0), .val (.int p1), .val (.int p2), oI 1, .val (.int zx), .val (.int zy), .val (.int zl), .val (.int (own_max zx zy)), oU, oU, oU, oU] [])) (fun _ k => st25 _ (own_e X25 tt 58 1 k rfl)) ?_
    generalize hzh : (own_max zx zy) = zh
    have hx0 : ¬ zx0 < (0 : Int32) := by rw [← hzx0]; exact own_mk p0
    have hy0 : ¬ zy0 < (0 : Int32) := by rw [← hzy0]; exact own_mk p1
    have hmx := own_m10 hx0
    have hmy := own_m10 hy0
    rw [hzx] at hmx
    rw [hzy] at hmy
    have hmm := own_mm hmx.1 hmy.1
    rw [hzl, hzh] at hmm
    have hh10 : zh < (10 : Int32) := by rw [← hzh]; exact own_mx10 hmx.2 hmy.2
    obtain ⟨hl0, hle⟩ := hmm
    refine own_goW (T' := T25) (f' := (mkF m 64 #[.val (.int p0), .val (.int p1), .val (.int p2), oI 1, .val (.int zx), .val (.int zy), .val (.int zl), .val (.int zh), oU, oU, oU, oU] [(.int zh), (.int zl)])) (fun _ k => own_e X25 tt 60 2 k rfl) ?_
    obtain ⟨_, T26, Lc26, X26, hS26, hgr26, hQ26, st26⟩ := own_outS (callSS X25 hx (y := mn31) hown (mvT hZ (ow8 hw)) (mvT hZ (ow9 hw)) (mvT hZ (ow10 hw)) (mvT hZ (ow11 hw)) (by decide) (own_backS (W := 0) (rm3s l Z a0 hw [] (s.setVm s.vm) zl zh cs wd kd vd wt kt vt h0 h0.size (Nat.le_refl _) S_cs hcs S_do V_do S_dt V_dt hst hd10 I1 (fun b cl q => (Keep.refl h0 []).2.1 b cl (by rw [hZh]; exact q) nin0) hcw hcA hcB rfl hl0 hle hh10) hZ (ow11 hw) (ow10 hw) (by decide) (by decide)) (g := (mkF m 64 #[.val (.int p0), .val (.int p1), .val (.int p2), oI 1, .val (.int zx), .val (.int zy), .val (.int zl), .val (.int zh), oU, oU, oU, oU] [(.int zh), (.int zl)])) rfl (by rw [hml]; rfl) (argsL := [(.int zl), (.int zh)]) (rest := []) (lenOf pd13 rfl) rfl (by show 2 * 0 + _ ≤ _; exact Nat.le_of_eq rfl) (hb hby at_64) (fun _ _ => ⟨rfl, hh25, (by decide : 0 + 10 ≤ _), (by decide : 0 + 181 ≤ _)⟩))
    have hM26 := hS26
    obtain ⟨X26, hS, hZ, hown⟩ := rebS hS (by rw [hh25]; exact (Nat.le_refl _) : _ ≤ T25.heap.size) X26 hM26 hgr26 hZ hown
    obtain ⟨c26, a26, b26, k26, rfl, N26q, K26, hn26, sg_c26, g26_0, g26_1, g26_2, g26_3, g26_4, g26_5, g26_6, g26_7⟩ := hQ26
    have n_c26 : n0 ≤ c26 := Nat.le_trans Z0 hn26
    have N26 := Fr.app N25 (own_fr N26q Z0)
    have sz_c26 : h0.size ≤ c26 := Nat.le_trans (Keep.refl h0 []).1 sg_c26
    have eK26 : T26.heap = T26.heap := rfl
    have KK26 : Keep h0 T26.heap [] := Keep.trans (Keep.refl h0 []) K26 all0
    obtain ⟨_, X26, N26⟩ := own_hide X26 N26
    refine own_goW (T' := T26) (f' := (mkF m 71 #[.val (.int p0), .val (.int p1), .val (.int p2), oI 1, .val (.int zx), .val (.int zy), .val (.int zl), .val (.int zh), oR c26, oU, oU, oU] [vR c26])) (fun _ k => st26.trans (own_e X26 tt 67 2 k rfl)) ?_
    obtain ⟨cq27, kq27, q27a, q27b, q27c⟩ := isOf hZ eK26 g26_0
    obtain ⟨_, T27, Lc27, X27, hQ27, st27⟩ := own_out (X26.virtualBack hx (y := mn32) (z := mn32) hown (mvT hZ (ow181 hw)) (mvT hZ (ow182 hw)) (notFace_of_selects (args := #[]) (mvT hZ (ow184 hw))) (mvT hZ (ow184 hw)) (mvT hZ (ow183 hw)) (by decide) (backOf (W := 0) (rm33a221 l Z a0 hw [] c26 zl T26.heap n0 (Nat.le_trans Z0 K26.1) g26_1) hZ (ow185 hw) (ow14 hw) (by decide) (by decide)) q27a q27c (g := (mkF m 71 #[.val (.int p0), .val (.int p1), .val (.int p2), oI 1, .val (.int zx), .val (.int zy), .val (.int zl), .val (.int zh), oR c26, oU, oU, oU] [vR c26])) rfl (by rw [hml]; rfl) (Steps.refl _) (argsL := []) (rest := []) (lenOf pd1 rfl) rfl (by show 2 * 0 + _ ≤ _; exact Nat.le_of_eq rfl) (hb hby at_71) (fun _ _ => ⟨rfl, eK26, (by decide : 10 + 0 ≤ _), (by decide : 181 + 0 ≤ _)⟩))
    obtain ⟨rfl, N27q, hh27⟩ := hQ27
    have N27 := Fr.app N26 N27q
    obtain ⟨_, X27, N27⟩ := own_hide X27 N27
    refine own_goW (T' := T27) (f' := (mkF m 81 #[.val (.int p0), .val (.int p1), .val (.int p2), oI 1, .val (.int zx), .val (.int zy), .val (.int zl), .val (.int zh), oR c26, oU, oU, oU] [vR c26])) (fun _ k => st27.trans (own_r X27 tt 74 1 rfl (XS.icmpNo X27.here hx rfl (hb hby at_76) rfl (teq (rfl : zl = zl)).2 (own_e X27 tt 79 1 k rfl)))) ?_
    obtain ⟨cq28, kq28, q28a, q28b, q28c⟩ := isOf hZ hh27 g26_0
    obtain ⟨_, T28, Lc28, X28, hQ28, st28⟩ := own_out (X27.virtualBack hx (y := mn33) (z := mn33) hown (mvT hZ (ow186 hw)) (mvT hZ (ow187 hw)) (notFace_of_selects (args := #[]) (mvT hZ (ow189 hw))) (mvT hZ (ow189 hw)) (mvT hZ (ow188 hw)) (by decide) (backOf (W := 0) (rm34a222 l Z a0 hw [] c26 (zh.toInt64) T26.heap n0 (Nat.le_trans Z0 K26.1) g26_2) hZ (ow190 hw) (ow14 hw) (by decide) (by decide)) q28a q28c (g := (mkF m 81 #[.val (.int p0), .val (.int p1), .val (.int p2), oI 1, .val (.int zx), .val (.int zy), .val (.int zl), .val (.int zh), oR c26, oU, oU, oU] [vR c26])) rfl (by rw [hml]; rfl) (Steps.refl _) (argsL := []) (rest := []) (lenOf pd2 rfl) rfl (by show 2 * 0 + _ ≤ _; exact Nat.le_of_eq rfl) (hb hby at_81) (fun _ _ => ⟨rfl, hh27, (by decide : 10 + 0 ≤ _), (by decide : 181 + 0 ≤ _)⟩))
    obtain ⟨rfl, N28q, hh28⟩ := hQ28
    have N28 := Fr.app N27 N28q
    obtain ⟨_, X28, N28⟩ := own_hide X28 N28
    refine own_goW (T' := T28) (f' := (mkF m 100 #[.val (.int p0), .val (.int p1), .val (.int p2), oI 1, .val (.int zx), .val (.int zy), .val (.int zl), .val (.int zh), oR c26, oI 1, oU, oU] [vR c26])) (fun _ k => st28.trans (own_r X28 tt 84 3 rfl (XS.ifNo X28.here hx rfl (hb hby at_88) rfl ((if0 _ _).trans (teq ((own_lc_eq (a := (zh.toInt64)) (b := (zh.toInt64))).mpr (rfl : (zh.toInt64) = (zh.toInt64)))).2) (own_e X28 tt 91 4 k rfl)))) ?_
    obtain ⟨cq29, kq29, q29a, q29b, q29c⟩ := isOf hZ hh28 g26_0
    obtain ⟨_, T29, Lc29, X29, hQ29, st29⟩ := own_out (X28.virtualBack hx (y := mn34) (z := mn34) hown (mvT hZ (ow191 hw)) (mvT hZ (ow192 hw)) (notFace_of_selects (args := #[]) (mvT hZ (ow194 hw))) (mvT hZ (ow194 hw)) (mvT hZ (ow193 hw)) (by decide) (backOf (W := 0) (rm35a223 l Z a0 hw [] c26 a26 T26.heap n0 (Nat.le_trans Z0 K26.1) g26_3) hZ (ow195 hw) (ow14 hw) (by decide) (by decide)) q29a q29c (g := (mkF m 100 #[.val (.int p0), .val (.int p1), .val (.int p2), oI 1, .val (.int zx), .val (.int zy), .val (.int zl), .val (.int zh), oR c26, oI 1, oU, oU] [vR c26])) rfl (by rw [hml]; rfl) (Steps.refl _) (argsL := []) (rest := []) (lenOf pd4 rfl) rfl (by show 2 * 0 + _ ≤ _; exact Nat.le_of_eq rfl) (hb hby at_100) (fun _ _ => ⟨rfl, hh28, (by decide : 10 + 0 ≤ _), (by decide : 181 + 0 ≤ _)⟩))
    obtain ⟨rfl, N29q, hh29⟩ := hQ29
    have N29 := Fr.app N28 N29q
    obtain ⟨_, X29, N29⟩ := own_hide X29 N29
    refine own_goW (T' := T29) (f' := (mkF m 117 #[.val (.int p0), .val (.int p1), .val (.int p2), oI 1, .val (.int zx), .val (.int zy), .val (.int zl), .val (.int zh), oR c26, oI 1, oR a26, oU] [vR a26])) (fun _ k => st29.trans (own_e X29 tt 103 6 k rfl)) ?_
    obtain ⟨cq35, kq35, q35a, q35b, q35c⟩ := isOf hZ hh29 g26_4
    obtain ⟨_, T35, Lc35, X35, hQ35, st35⟩ := own_out (X29.virtualBack hx (y := mn7) (z := mn7) hown (mvT hZ (ow196 hw)) (mvT hZ (ow54 hw)) (notFace_of_selects (args := #[]) (mvT hZ (ow56 hw))) (mvT hZ (ow56 hw)) (mvT hZ (ow55 hw)) (by decide) (backOf (W := 0) (rm9a225 l Z a0 hw [] a26 cs b26 k26 (nar .byte ((48 : Int32) + zl)) (nar .byte ((48 : Int32) + zh)) T26.heap n0 (Nat.le_trans Z0 K26.1) (own_sta_keep S_cs K26 own_ws0) g26_4 g26_5 g26_6 g26_7 hcs) hZ (ow57 hw) (ow31 hw) (by decide) (by decide)) q35a q35c (g := (mkF m 117 #[.val (.int p0), .val (.int p1), .val (.int p2), oI 1, .val (.int zx), .val (.int zy), .val (.int zl), .val (.int zh), oR c26, oI 1, oR a26, oU] [vR a26])) rfl (by rw [hml]; rfl) (Steps.refl _) (argsL := []) (rest := []) (lenOf pd1 rfl) rfl (by show 2 * 0 + _ ≤ _; exact Nat.le_of_eq rfl) (hb hby at_117) (fun _ _ => ⟨rfl, hh29, (by decide : 10 + 0 ≤ _), (by decide : 181 + 0 ≤ _)⟩))
    obtain ⟨rfl, N35q, hh35⟩ := hQ35
    have N35 := Fr.app N29 N35q
    obtain ⟨_, X35, N35⟩ := own_hide X35 N35
    refine own_goW (T' := T35) (f' := (mkF m 124 #[.val (.int p0), .val (.int p1), .val (.int p2), oI 1, .val (.int zx), .val (.int zy), .val (.int zl), .val (.int zh), oR c26, oI 1, oR a26, oU] [(.int zl), vI 22, vI 24])) (fun _ k => st35.trans (own_e X35 tt 120 2 k rfl)) ?_
    obtain ⟨_, T36, Lc36, X36, hQ36, st36⟩ := own_outC (Jvm.LawKit.callS X35 hx (y := mn2) hown (mvT hZ (ow197 hw)) (mvT hZ (ow198 hw)) (mvT hZ (ow199 hw)) (mvT hZ (ow200 hw)) (by decide) (backOf (W := 2) (rm36 l Z a0 hw [] zl T26.heap n0 (Nat.le_trans Z0 K26.1)) hZ (ow200 hw) (ow199 hw) (by decide) (by decide)) (g := (mkF m 124 #[.val (.int p0), .val (.int p1), .val (.int p2), oI 1, .val (.int zx), .val (.int zy), .val (.int zl), .val (.int zh), oR c26, oI 1, oR a26, oU] [(.int zl), vI 22, vI 24])) rfl (by rw [hml]; rfl) (argsL := [(.int zl)]) (rest := [(.int (22 : Int32)), (.int (24 : Int32))]) (lenOf pd8 rfl) rfl (by show 2 * 0 + _ ≤ _; exact Nat.le_of_eq rfl) (hb hby at_124) (fun _ _ => ⟨rfl, hh35, (by decide : 10 + 0 ≤ _), (by decide : 181 + 0 ≤ _)⟩))
    obtain ⟨rfl, N36q, hh36⟩ := hQ36
    have N36 := Fr.app N35 N36q
    obtain ⟨_, X36, N36⟩ := own_hide X36 N36
    refine own_goW (T' := T36) (f' := (mkF m 130 #[.val (.int p0), .val (.int p1), .val (.int p2), oI 1, .val (.int zx), .val (.int zy), .val (.int zl), .val (.int zh), oR c26, oI 1, oR a26, oU] [(.int zh), (.int ((22 : Int32) + (own_dg zl))), vI 24])) (fun _ k => st36 _ (own_e X36 tt 127 2 k rfl)) ?_
    obtain ⟨_, T37, Lc37, X37, hQ37, st37⟩ := own_outC (Jvm.LawKit.callS X36 hx (y := mn2) hown (mvT hZ (ow197 hw)) (mvT hZ (ow198 hw)) (mvT hZ (ow199 hw)) (mvT hZ (ow200 hw)) (by decide) (backOf (W := 2) (rm36 l Z a0 hw [] zh T26.heap n0 (Nat.le_trans Z0 K26.1)) hZ (ow200 hw) (ow199 hw) (by decide) (by decide)) (g := (mkF m 130 #[.val (.int p0), .val (.int p1), .val (.int p2), oI 1, .val (.int zx), .val (.int zy), .val (.int zl), .val (.int zh), oR c26, oI 1, oR a26, oU] [(.int zh), (.int ((22 : Int32) + (own_dg zl))), vI 24])) rfl (by rw [hml]; rfl) (argsL := [(.int zh)]) (rest := [(.int ((22 : Int32) + (own_dg zl))), (.int (24 : Int32))]) (lenOf pd8 rfl) rfl (by show 2 * 0 + _ ≤ _; exact Nat.le_of_eq rfl) (hb hby at_130) (fun _ _ => ⟨rfl, hh36, (by decide : 10 + 0 ≤ _), (by decide : 181 + 0 ≤ _)⟩))
    obtain ⟨rfl, N37q, hh37⟩ := hQ37
    have N37 := Fr.app N36 N37q
    obtain ⟨_, X37, N37⟩ := own_hide X37 N37
    refine own_goW (T' := T37) (f' := (mkF m 155 #[.val (.int p0), .val (.int p1), .val (.int p2), oI 1, .val (.int zx), .val (.int zy), .val (.int zl), .val (.int zh), oR c26, oI 1, oR a26, oU] [vI 24])) (fun _ k => st37 _ (own_r X37 tt 133 1 rfl (XS.icmpNo X37.here hx rfl (hb hby at_134) rfl (teq (own_l24 hl0 hle hh10)).2 (own_e X37 tt 137 8 k rfl)))) ?_
    obtain ⟨T38, h38, k38, X38, e38, E38, A38, EA38, st38⟩ := newPE (aty := .char) X37 hx hZ (ow201 hw) hh37 (g := (mkF m 155 #[.val (.int p0), .val (.int p1), .val (.int p2), oI 1, .val (.int zx), .val (.int zy), .val (.int zl), .val (.int zh), oR c26, oI 1, oR a26, oU] [vI 24])) rfl (hb hby at_155) rfl (by decide) (cap := 24) (by decide) (by decide) (by decide) (by decide) (ad := "[C") (by decide +kernel)
    obtain ⟨b38, g_b38⟩ : ∃ z, z = T26.heap.size := ⟨_, rfl⟩
    have sg_b38 : T26.heap.size ≤ b38 := Nat.le_of_eq g_b38.symm
    rw [← g_b38] at A38 EA38 st38
    have n_b38 : n0 ≤ b38 := Nat.le_trans (Nat.le_trans Z0 K26.1) (Nat.le_of_eq g_b38.symm)
    have sz_b38 : h0.size ≤ b38 := Nat.le_trans KK26.1 (Nat.le_of_eq g_b38.symm)
    have K38 : Keep h0 h38 [] := KK26.ext E38
    have V_b38 : Arv Z h38 b38 k38 .char (24 : Int32) own_ls5 (.int (0 : Int32)) := (Arv.new A38 (by decide)).pad (pad_rep [] (.int (0 : Int32)) 24)
    refine own_goW (T' := T38) (f' := (mkF m 161 #[.val (.int p0), .val (.int p1), .val (.int p2), oI 1, .val (.int zx), .val (.int zy), .val (.int zl), .val (.int zh), oR c26, oI 1, oR a26, oU] [vI 101, vI 0, vR b38, vR b38])) (fun _ k => st38 _ (own_e X38 tt 157 3 k rfl)) ?_
    obtain ⟨T39, h39, X39, e39, W39, V39, st39⟩ := own_stC X38 hx hZ e38 V_b38 (j := (0 : Int32)) ⟨by decide, by decide⟩ 0 rfl (Nat.le_of_ble_eq_true rfl) (g := (mkF m 161 #[.val (.int p0), .val (.int p1), .val (.int p2), oI 1, .val (.int zx), .val (.int zy), .val (.int zl), .val (.int zh), oR c26, oI 1, oR a26, oU] [vI 101, vI 0, vR b38, vR b38])) rfl rfl (hb hby at_161)
    have K39 : Keep h0 h39 [] := K38.wr W39 (Or.inr sz_b38)
    have V39s : Arv Z h39 b38 k38 .char (24 : Int32) own_ls6 (.int (0 : Int32)) := V39
    have N39 := Fr.snoc X39 N37 n_b38
    refine own_goW (T' := T39) (f' := (mkF m 166 #[.val (.int p0), .val (.int p1), .val (.int p2), oI 1, .val (.int zx), .val (.int zy), .val (.int zl), .val (.int zh), oR c26, oI 1, oR a26, oU] [vI 120, vI 1, vR b38, vR b38])) (fun _ k => st39 _ (own_e X39 tt 162 3 k rfl)) ?_
    obtain ⟨T40, h40, X40, e40, W40, V40, st40⟩ := own_stC X39 hx hZ e39 V39s (j := (1 : Int32)) ⟨by decide, by decide⟩ 1 rfl (Nat.le_of_ble_eq_true rfl) (g := (mkF m 166 #[.val (.int p0), .val (.int p1), .val (.int p2), oI 1, .val (.int zx), .val (.int zy), .val (.int zl), .val (.int zh), oR c26, oI 1, oR a26, oU] [vI 120, vI 1, vR b38, vR b38])) rfl rfl (hb hby at_166)
    have K40 : Keep h0 h40 [] := K39.wr W40 (Or.inr sz_b38)
    have V40s : Arv Z h40 b38 k38 .char (24 : Int32) own_ls7 (.int (0 : Int32)) := V40
    have N40 := Fr.snoc X40 N39 n_b38
    refine own_goW (T' := T40) (f' := (mkF m 171 #[.val (.int p0), .val (.int p1), .val (.int p2), oI 1, .val (.int zx), .val (.int zy), .val (.int zl), .val (.int zh), oR c26, oI 1, oR a26, oU] [vI 112, vI 2, vR b38, vR b38])) (fun _ k => st40 _ (own_e X40 tt 167 3 k rfl)) ?_
    obtain ⟨T41, h41, X41, e41, W41, V41, st41⟩ := own_stC X40 hx hZ e40 V40s (j := (2 : Int32)) ⟨by decide, by decide⟩ 2 rfl (Nat.le_of_ble_eq_true rfl) (g := (mkF m 171 #[.val (.int p0), .val (.int p1), .val (.int p2), oI 1, .val (.int zx), .val (.int zy), .val (.int zl), .val (.int zh), oR c26, oI 1, oR a26, oU] [vI 112, vI 2, vR b38, vR b38])) rfl rfl (hb hby at_171)
    have K41 : Keep h0 h41 [] := K40.wr W41 (Or.inr sz_b38)
    have V41s : Arv Z h41 b38 k38 .char (24 : Int32) own_ls8 (.int (0 : Int32)) := V41
    have N41 := Fr.snoc X41 N40 n_b38
    refine own_goW (T' := T41) (f' := (mkF m 176 #[.val (.int p0), .val (.int p1), .val (.int p2), oI 1, .val (.int zx), .val (.int zy), .val (.int zl), .val (.int zh), oR c26, oI 1, oR a26, oU] [vI 101, vI 3, vR b38, vR b38])) (fun _ k => st41 _ (own_e X41 tt 172 3 k rfl)) ?_
    obtain ⟨T42, h42, X42, e42, W42, V42, st42⟩ := own_stC X41 hx hZ e41 V41s (j := (3 : Int32)) ⟨by decide, by decide⟩ 3 rfl (Nat.le_of_ble_eq_true rfl) (g := (mkF m 176 #[.val (.int p0), .val (.int p1), .val (.int p2), oI 1, .val (.int zx), .val (.int zy), .val (.int zl), .val (.int zh), oR c26, oI 1, oR a26, oU] [vI 101, vI 3, vR b38, vR b38])) rfl rfl (hb hby at_176)
    have K42 : Keep h0 h42 [] := K41.wr W42 (Or.inr sz_b38)
    have V42s : Arv Z h42 b38 k38 .char (24 : Int32) own_ls9 (.int (0 : Int32)) := V42
    have N42 := Fr.snoc X42 N41 n_b38
    refine own_goW (T' := T42) (f' := (mkF m 181 #[.val (.int p0), .val (.int p1), .val (.int p2), oI 1, .val (.int zx), .val (.int zy), .val (.int zl), .val (.int zh), oR c26, oI 1, oR a26, oU] [vI 99, vI 4, vR b38, vR b38])) (fun _ k => st42 _ (own_e X42 tt 177 3 k rfl)) ?_
    obtain ⟨T43, h43, X43, e43, W43, V43, st43⟩ := own_stC X42 hx hZ e42 V42s (j := (4 : Int32)) ⟨by decide, by decide⟩ 4 rfl (Nat.le_of_ble_eq_true rfl) (g := (mkF m 181 #[.val (.int p0), .val (.int p1), .val (.int p2), oI 1, .val (.int zx), .val (.int zy), .val (.int zl), .val (.int zh), oR c26, oI 1, oR a26, oU] [vI 99, vI 4, vR b38, vR b38])) rfl rfl (hb hby at_181)
    have K43 : Keep h0 h43 [] := K42.wr W43 (Or.inr sz_b38)
    have V43s : Arv Z h43 b38 k38 .char (24 : Int32) own_ls10 (.int (0 : Int32)) := V43
    have N43 := Fr.snoc X43 N42 n_b38
    refine own_goW (T' := T43) (f' := (mkF m 186 #[.val (.int p0), .val (.int p1), .val (.int p2), oI 1, .val (.int zx), .val (.int zy), .val (.int zl), .val (.int zh), oR c26, oI 1, oR a26, oU] [vI 116, vI 5, vR b38, vR b38])) (fun _ k => st43 _ (own_e X43 tt 182 3 k rfl)) ?_
    obtain ⟨T44, h44, X44, e44, W44, V44, st44⟩ := own_stC X43 hx hZ e43 V43s (j := (5 : Int32)) ⟨by decide, by decide⟩ 5 rfl (Nat.le_of_ble_eq_true rfl) (g := (mkF m 186 #[.val (.int p0), .val (.int p1), .val (.int p2), oI 1, .val (.int zx), .val (.int zy), .val (.int zl), .val (.int zh), oR c26, oI 1, oR a26, oU] [vI 116, vI 5, vR b38, vR b38])) rfl rfl (hb hby at_186)
    have K44 : Keep h0 h44 [] := K43.wr W44 (Or.inr sz_b38)
    have V44s : Arv Z h44 b38 k38 .char (24 : Int32) own_ls11 (.int (0 : Int32)) := V44
    have N44 := Fr.snoc X44 N43 n_b38
    refine own_goW (T' := T44) (f' := (mkF m 192 #[.val (.int p0), .val (.int p1), .val (.int p2), oI 1, .val (.int zx), .val (.int zy), .val (.int zl), .val (.int zh), oR c26, oI 1, oR a26, oU] [vI 101, vI 6, vR b38, vR b38])) (fun _ k => st44 _ (own_e X44 tt 187 3 k rfl)) ?_
    obtain ⟨T45, h45, X45, e45, W45, V45, st45⟩ := own_stC X44 hx hZ e44 V44s (j := (6 : Int32)) ⟨by decide, by decide⟩ 6 rfl (Nat.le_of_ble_eq_true rfl) (g := (mkF m 192 #[.val (.int p0), .val (.int p1), .val (.int p2), oI 1, .val (.int zx), .val (.int zy), .val (.int zl), .val (.int zh), oR c26, oI 1, oR a26, oU] [vI 101, vI 6, vR b38, vR b38])) rfl rfl (hb hby at_192)
    have K45 : Keep h0 h45 [] := K44.wr W45 (Or.inr sz_b38)
    have V45s : Arv Z h45 b38 k38 .char (24 : Int32) own_ls12 (.int (0 : Int32)) := V45
    have N45 := Fr.snoc X45 N44 n_b38
    refine own_goW (T' := T45) (f' := (mkF m 198 #[.val (.int p0), .val (.int p1), .val (.int p2), oI 1, .val (.int zx), .val (.int zy), .val (.int zl), .val (.int zh), oR c26, oI 1, oR a26, oU] [vI 100, vI 7, vR b38, vR b38])) (fun _ k => st45 _ (own_e X45 tt 193 3 k rfl)) ?_
    obtain ⟨T46, h46, X46, e46, W46, V46, st46⟩ := own_stC X45 hx hZ e45 V45s (j := (7 : Int32)) ⟨by decide, by decide⟩ 7 rfl (Nat.le_of_ble_eq_true rfl) (g := (mkF m 198 #[.val (.int p0), .val (.int p1), .val (.int p2), oI 1, .val (.int zx), .val (.int zy), .val (.int zl), .val (.int zh), oR c26, oI 1, oR a26, oU] [vI 100, vI 7, vR b38, vR b38])) rfl rfl (hb hby at_198)
    have K46 : Keep h0 h46 [] := K45.wr W46 (Or.inr sz_b38)
    have V46s : Arv Z h46 b38 k38 .char (24 : Int32) own_ls13 (.int (0 : Int32)) := V46
    have N46 := Fr.snoc X46 N45 n_b38
    refine own_goW (T' := T46) (f' := (mkF m 204 #[.val (.int p0), .val (.int p1), .val (.int p2), oI 1, .val (.int zx), .val (.int zy), .val (.int zl), .val (.int zh), oR c26, oI 1, oR a26, oU] [vI 32, vI 8, vR b38, vR b38])) (fun _ k => st46 _ (own_e X46 tt 199 3 k rfl)) ?_
    obtain ⟨T47, h47, X47, e47, W47, V47, st47⟩ := own_stC X46 hx hZ e46 V46s (j := (8 : Int32)) ⟨by decide, by decide⟩ 8 rfl (Nat.le_of_ble_eq_true rfl) (g := (mkF m 204 #[.val (.int p0), .val (.int p1), .val (.int p2), oI 1, .val (.int zx), .val (.int zy), .val (.int zl), .val (.int zh), oR c26, oI 1, oR a26, oU] [vI 32, vI 8, vR b38, vR b38])) rfl rfl (hb hby at_204)
    have K47 : Keep h0 h47 [] := K46.wr W47 (Or.inr sz_b38)
    have V47s : Arv Z h47 b38 k38 .char (24 : Int32) own_ls14 (.int (0 : Int32)) := V47
    have N47 := Fr.snoc X47 N46 n_b38
    refine own_goW (T' := T47) (f' := (mkF m 210 #[.val (.int p0), .val (.int p1), .val (.int p2), oI 1, .val (.int zx), .val (.int zy), .val (.int zl), .val (.int zh), oR c26, oI 1, oR a26, oU] [vI 98, vI 9, vR b38, vR b38])) (fun _ k => st47 _ (own_e X47 tt 205 3 k rfl)) ?_
    obtain ⟨T48, h48, X48, e48, W48, V48, st48⟩ := own_stC X47 hx hZ e47 V47s (j := (9 : Int32)) ⟨by decide, by decide⟩ 9 rfl (Nat.le_of_ble_eq_true rfl) (g := (mkF m 210 #[.val (.int p0), .val (.int p1), .val (.int p2), oI 1, .val (.int zx), .val (.int zy), .val (.int zl), .val (.int zh), oR c26, oI 1, oR a26, oU] [vI 98, vI 9, vR b38, vR b38])) rfl rfl (hb hby at_210)
    have K48 : Keep h0 h48 [] := K47.wr W48 (Or.inr sz_b38)
    have V48s : Arv Z h48 b38 k38 .char (24 : Int32) own_ls15 (.int (0 : Int32)) := V48
    have N48 := Fr.snoc X48 N47 n_b38
    refine own_goW (T' := T48) (f' := (mkF m 216 #[.val (.int p0), .val (.int p1), .val (.int p2), oI 1, .val (.int zx), .val (.int zy), .val (.int zl), .val (.int zh), oR c26, oI 1, oR a26, oU] [vI 101, vI 10, vR b38, vR b38])) (fun _ k => st48 _ (own_e X48 tt 211 3 k rfl)) ?_
    obtain ⟨T49, h49, X49, e49, W49, V49, st49⟩ := own_stC X48 hx hZ e48 V48s (j := (10 : Int32)) ⟨by decide, by decide⟩ 10 rfl (Nat.le_of_ble_eq_true rfl) (g := (mkF m 216 #[.val (.int p0), .val (.int p1), .val (.int p2), oI 1, .val (.int zx), .val (.int zy), .val (.int zl), .val (.int zh), oR c26, oI 1, oR a26, oU] [vI 101, vI 10, vR b38, vR b38])) rfl rfl (hb hby at_216)
    have K49 : Keep h0 h49 [] := K48.wr W49 (Or.inr sz_b38)
    have V49s : Arv Z h49 b38 k38 .char (24 : Int32) own_ls16 (.int (0 : Int32)) := V49
    have N49 := Fr.snoc X49 N48 n_b38
    refine own_goW (T' := T49) (f' := (mkF m 222 #[.val (.int p0), .val (.int p1), .val (.int p2), oI 1, .val (.int zx), .val (.int zy), .val (.int zl), .val (.int zh), oR c26, oI 1, oR a26, oU] [vI 116, vI 11, vR b38, vR b38])) (fun _ k => st49 _ (own_e X49 tt 217 3 k rfl)) ?_
    obtain ⟨T50, h50, X50, e50, W50, V50, st50⟩ := own_stC X49 hx hZ e49 V49s (j := (11 : Int32)) ⟨by decide, by decide⟩ 11 rfl (Nat.le_of_ble_eq_true rfl) (g := (mkF m 222 #[.val (.int p0), .val (.int p1), .val (.int p2), oI 1, .val (.int zx), .val (.int zy), .val (.int zl), .val (.int zh), oR c26, oI 1, oR a26, oU] [vI 116, vI 11, vR b38, vR b38])) rfl rfl (hb hby at_222)
    have K50 : Keep h0 h50 [] := K49.wr W50 (Or.inr sz_b38)
    have V50s : Arv Z h50 b38 k38 .char (24 : Int32) own_ls17 (.int (0 : Int32)) := V50
    have N50 := Fr.snoc X50 N49 n_b38
    refine own_goW (T' := T50) (f' := (mkF m 228 #[.val (.int p0), .val (.int p1), .val (.int p2), oI 1, .val (.int zx), .val (.int zy), .val (.int zl), .val (.int zh), oR c26, oI 1, oR a26, oU] [vI 119, vI 12, vR b38, vR b38])) (fun _ k => st50 _ (own_e X50 tt 223 3 k rfl)) ?_
    obtain ⟨T51, h51, X51, e51, W51, V51, st51⟩ := own_stC X50 hx hZ e50 V50s (j := (12 : Int32)) ⟨by decide, by decide⟩ 12 rfl (Nat.le_of_ble_eq_true rfl) (g := (mkF m 228 #[.val (.int p0), .val (.int p1), .val (.int p2), oI 1, .val (.int zx), .val (.int zy), .val (.int zl), .val (.int zh), oR c26, oI 1, oR a26, oU] [vI 119, vI 12, vR b38, vR b38])) rfl rfl (hb hby at_228)
    have K51 : Keep h0 h51 [] := K50.wr W51 (Or.inr sz_b38)
    have V51s : Arv Z h51 b38 k38 .char (24 : Int32) own_ls18 (.int (0 : Int32)) := V51
    have N51 := Fr.snoc X51 N50 n_b38
    refine own_goW (T' := T51) (f' := (mkF m 234 #[.val (.int p0), .val (.int p1), .val (.int p2), oI 1, .val (.int zx), .val (.int zy), .val (.int zl), .val (.int zh), oR c26, oI 1, oR a26, oU] [vI 101, vI 13, vR b38, vR b38])) (fun _ k => st51 _ (own_e X51 tt 229 3 k rfl)) ?_
    obtain ⟨T52, h52, X52, e52, W52, V52, st52⟩ := own_stC X51 hx hZ e51 V51s (j := (13 : Int32)) ⟨by decide, by decide⟩ 13 rfl (Nat.le_of_ble_eq_true rfl) (g := (mkF m 234 #[.val (.int p0), .val (.int p1), .val (.int p2), oI 1, .val (.int zx), .val (.int zy), .val (.int zl), .val (.int zh), oR c26, oI 1, oR a26, oU] [vI 101, vI 13, vR b38, vR b38])) rfl rfl (hb hby at_234)
    have K52 : Keep h0 h52 [] := K51.wr W52 (Or.inr sz_b38)
    have V52s : Arv Z h52 b38 k38 .char (24 : Int32) own_ls19 (.int (0 : Int32)) := V52
    have N52 := Fr.snoc X52 N51 n_b38
    refine own_goW (T' := T52) (f' := (mkF m 240 #[.val (.int p0), .val (.int p1), .val (.int p2), oI 1, .val (.int zx), .val (.int zy), .val (.int zl), .val (.int zh), oR c26, oI 1, oR a26, oU] [vI 101, vI 14, vR b38, vR b38])) (fun _ k => st52 _ (own_e X52 tt 235 3 k rfl)) ?_
    obtain ⟨T53, h53, X53, e53, W53, V53, st53⟩ := own_stC X52 hx hZ e52 V52s (j := (14 : Int32)) ⟨by decide, by decide⟩ 14 rfl (Nat.le_of_ble_eq_true rfl) (g := (mkF m 240 #[.val (.int p0), .val (.int p1), .val (.int p2), oI 1, .val (.int zx), .val (.int zy), .val (.int zl), .val (.int zh), oR c26, oI 1, oR a26, oU] [vI 101, vI 14, vR b38, vR b38])) rfl rfl (hb hby at_240)
    have K53 : Keep h0 h53 [] := K52.wr W53 (Or.inr sz_b38)
    have V53s : Arv Z h53 b38 k38 .char (24 : Int32) own_ls20 (.int (0 : Int32)) := V53
    have N53 := Fr.snoc X53 N52 n_b38
    refine own_goW (T' := T53) (f' := (mkF m 246 #[.val (.int p0), .val (.int p1), .val (.int p2), oI 1, .val (.int zx), .val (.int zy), .val (.int zl), .val (.int zh), oR c26, oI 1, oR a26, oU] [vI 110, vI 15, vR b38, vR b38])) (fun _ k => st53 _ (own_e X53 tt 241 3 k rfl)) ?_
    obtain ⟨T54, h54, X54, e54, W54, V54, st54⟩ := own_stC X53 hx hZ e53 V53s (j := (15 : Int32)) ⟨by decide, by decide⟩ 15 rfl (Nat.le_of_ble_eq_true rfl) (g := (mkF m 246 #[.val (.int p0), .val (.int p1), .val (.int p2), oI 1, .val (.int zx), .val (.int zy), .val (.int zl), .val (.int zh), oR c26, oI 1, oR a26, oU] [vI 110, vI 15, vR b38, vR b38])) rfl rfl (hb hby at_246)
    have K54 : Keep h0 h54 [] := K53.wr W54 (Or.inr sz_b38)
    have V54s : Arv Z h54 b38 k38 .char (24 : Int32) own_ls21 (.int (0 : Int32)) := V54
    have N54 := Fr.snoc X54 N53 n_b38
    refine own_goW (T' := T54) (f' := (mkF m 252 #[.val (.int p0), .val (.int p1), .val (.int p2), oI 1, .val (.int zx), .val (.int zy), .val (.int zl), .val (.int zh), oR c26, oI 1, oR a26, oU] [vI 32, vI 16, vR b38, vR b38])) (fun _ k => st54 _ (own_e X54 tt 247 3 k rfl)) ?_
    obtain ⟨T55, h55, X55, e55, W55, V55, st55⟩ := own_stC X54 hx hZ e54 V54s (j := (16 : Int32)) ⟨by decide, by decide⟩ 16 rfl (Nat.le_of_ble_eq_true rfl) (g := (mkF m 252 #[.val (.int p0), .val (.int p1), .val (.int p2), oI 1, .val (.int zx), .val (.int zy), .val (.int zl), .val (.int zh), oR c26, oI 1, oR a26, oU] [vI 32, vI 16, vR b38, vR b38])) rfl rfl (hb hby at_252)
    have K55 : Keep h0 h55 [] := K54.wr W55 (Or.inr sz_b38)
    have V55s : Arv Z h55 b38 k38 .char (24 : Int32) own_ls22 (.int (0 : Int32)) := V55
    have N55 := Fr.snoc X55 N54 n_b38
    refine own_goW (T' := T55) (f' := (mkF m 262 #[.val (.int p0), .val (.int p1), .val (.int p2), oI 1, .val (.int zx), .val (.int zy), .val (.int zl), .val (.int zh), oR c26, oI 1, oR a26, oU] [(.int (((48 : Int32) + zl).toUInt32.toUInt16.toUInt32.toInt32)), vI 17, vR b38, vR b38])) (fun _ k => st55 _ (own_e X55 tt 253 6 k rfl)) ?_
    obtain ⟨T56, h56, X56, e56, W56, V56, st56⟩ := own_stC X55 hx hZ e55 V55s (j := (17 : Int32)) ⟨by decide, by decide⟩ 17 rfl (Nat.le_of_ble_eq_true rfl) (g := (mkF m 262 #[.val (.int p0), .val (.int p1), .val (.int p2), oI 1, .val (.int zx), .val (.int zy), .val (.int zl), .val (.int zh), oR c26, oI 1, oR a26, oU] [(.int (((48 : Int32) + zl).toUInt32.toUInt16.toUInt32.toInt32)), vI 17, vR b38, vR b38])) rfl rfl (hb hby at_262)
    have K56 : Keep h0 h56 [] := K55.wr W56 (Or.inr sz_b38)
    have V56s : Arv Z h56 b38 k38 .char (24 : Int32) [(.int (101 : Int32)), (.int (120 : Int32)), (.int (112 : Int32)), (.int (101 : Int32)), (.int (99 : Int32)), (.int (116 : Int32)), (.int (101 : Int32)), (.int (100 : Int32)), (.int (32 : Int32)), (.int (98 : Int32)), (.int (101 : Int32)), (.int (116 : Int32)), (.int (119 : Int32)), (.int (101 : Int32)), (.int (101 : Int32)), (.int (110 : Int32)), (.int (32 : Int32)), (.int (nar .char (((48 : Int32) + zl).toUInt32.toUInt16.toUInt32.toInt32))), (.int (0 : Int32)), (.int (0 : Int32)), (.int (0 : Int32)), (.int (0 : Int32)), (.int (0 : Int32)), (.int (0 : Int32))] (.int (0 : Int32)) := V56
    have N56 := Fr.snoc X56 N55 n_b38
    refine own_goW (T' := T56) (f' := (mkF m 268 #[.val (.int p0), .val (.int p1), .val (.int p2), oI 1, .val (.int zx), .val (.int zy), .val (.int zl), .val (.int zh), oR c26, oI 1, oR a26, oU] [vI 32, vI 18, vR b38, vR b38])) (fun _ k => st56 _ (own_e X56 tt 263 3 k rfl)) ?_
    obtain ⟨T57, h57, X57, e57, W57, V57, st57⟩ := own_stC X56 hx hZ e56 V56s (j := (18 : Int32)) ⟨by decide, by decide⟩ 18 rfl (Nat.le_of_ble_eq_true rfl) (g := (mkF m 268 #[.val (.int p0), .val (.int p1), .val (.int p2), oI 1, .val (.int zx), .val (.int zy), .val (.int zl), .val (.int zh), oR c26, oI 1, oR a26, oU] [vI 32, vI 18, vR b38, vR b38])) rfl rfl (hb hby at_268)
    have K57 : Keep h0 h57 [] := K56.wr W57 (Or.inr sz_b38)
    have V57s : Arv Z h57 b38 k38 .char (24 : Int32) [(.int (101 : Int32)), (.int (120 : Int32)), (.int (112 : Int32)), (.int (101 : Int32)), (.int (99 : Int32)), (.int (116 : Int32)), (.int (101 : Int32)), (.int (100 : Int32)), (.int (32 : Int32)), (.int (98 : Int32)), (.int (101 : Int32)), (.int (116 : Int32)), (.int (119 : Int32)), (.int (101 : Int32)), (.int (101 : Int32)), (.int (110 : Int32)), (.int (32 : Int32)), (.int (nar .char (((48 : Int32) + zl).toUInt32.toUInt16.toUInt32.toInt32))), (.int (32 : Int32)), (.int (0 : Int32)), (.int (0 : Int32)), (.int (0 : Int32)), (.int (0 : Int32)), (.int (0 : Int32))] (.int (0 : Int32)) := V57
    have N57 := Fr.snoc X57 N56 n_b38
    refine own_goW (T' := T57) (f' := (mkF m 274 #[.val (.int p0), .val (.int p1), .val (.int p2), oI 1, .val (.int zx), .val (.int zy), .val (.int zl), .val (.int zh), oR c26, oI 1, oR a26, oU] [vI 97, vI 19, vR b38, vR b38])) (fun _ k => st57 _ (own_e X57 tt 269 3 k rfl)) ?_
    obtain ⟨T58, h58, X58, e58, W58, V58, st58⟩ := own_stC X57 hx hZ e57 V57s (j := (19 : Int32)) ⟨by decide, by decide⟩ 19 rfl (Nat.le_of_ble_eq_true rfl) (g := (mkF m 274 #[.val (.int p0), .val (.int p1), .val (.int p2), oI 1, .val (.int zx), .val (.int zy), .val (.int zl), .val (.int zh), oR c26, oI 1, oR a26, oU] [vI 97, vI 19, vR b38, vR b38])) rfl rfl (hb hby at_274)
    have K58 : Keep h0 h58 [] := K57.wr W58 (Or.inr sz_b38)
    have V58s : Arv Z h58 b38 k38 .char (24 : Int32) [(.int (101 : Int32)), (.int (120 : Int32)), (.int (112 : Int32)), (.int (101 : Int32)), (.int (99 : Int32)), (.int (116 : Int32)), (.int (101 : Int32)), (.int (100 : Int32)), (.int (32 : Int32)), (.int (98 : Int32)), (.int (101 : Int32)), (.int (116 : Int32)), (.int (119 : Int32)), (.int (101 : Int32)), (.int (101 : Int32)), (.int (110 : Int32)), (.int (32 : Int32)), (.int (nar .char (((48 : Int32) + zl).toUInt32.toUInt16.toUInt32.toInt32))), (.int (32 : Int32)), (.int (97 : Int32)), (.int (0 : Int32)), (.int (0 : Int32)), (.int (0 : Int32)), (.int (0 : Int32))] (.int (0 : Int32)) := V58
    have N58 := Fr.snoc X58 N57 n_b38
    refine own_goW (T' := T58) (f' := (mkF m 280 #[.val (.int p0), .val (.int p1), .val (.int p2), oI 1, .val (.int zx), .val (.int zy), .val (.int zl), .val (.int zh), oR c26, oI 1, oR a26, oU] [vI 110, vI 20, vR b38, vR b38])) (fun _ k => st58 _ (own_e X58 tt 275 3 k rfl)) ?_
    obtain ⟨T59, h59, X59, e59, W59, V59, st59⟩ := own_stC X58 hx hZ e58 V58s (j := (20 : Int32)) ⟨by decide, by decide⟩ 20 rfl (Nat.le_of_ble_eq_true rfl) (g := (mkF m 280 #[.val (.int p0), .val (.int p1), .val (.int p2), oI 1, .val (.int zx), .val (.int zy), .val (.int zl), .val (.int zh), oR c26, oI 1, oR a26, oU] [vI 110, vI 20, vR b38, vR b38])) rfl rfl (hb hby at_280)
    have K59 : Keep h0 h59 [] := K58.wr W59 (Or.inr sz_b38)
    have V59s : Arv Z h59 b38 k38 .char (24 : Int32) [(.int (101 : Int32)), (.int (120 : Int32)), (.int (112 : Int32)), (.int (101 : Int32)), (.int (99 : Int32)), (.int (116 : Int32)), (.int (101 : Int32)), (.int (100 : Int32)), (.int (32 : Int32)), (.int (98 : Int32)), (.int (101 : Int32)), (.int (116 : Int32)), (.int (119 : Int32)), (.int (101 : Int32)), (.int (101 : Int32)), (.int (110 : Int32)), (.int (32 : Int32)), (.int (nar .char (((48 : Int32) + zl).toUInt32.toUInt16.toUInt32.toInt32))), (.int (32 : Int32)), (.int (97 : Int32)), (.int (110 : Int32)), (.int (0 : Int32)), (.int (0 : Int32)), (.int (0 : Int32))] (.int (0 : Int32)) := V59
    have N59 := Fr.snoc X59 N58 n_b38
    refine own_goW (T' := T59) (f' := (mkF m 286 #[.val (.int p0), .val (.int p1), .val (.int p2), oI 1, .val (.int zx), .val (.int zy), .val (.int zl), .val (.int zh), oR c26, oI 1, oR a26, oU] [vI 100, vI 21, vR b38, vR b38])) (fun _ k => st59 _ (own_e X59 tt 281 3 k rfl)) ?_
    obtain ⟨T60, h60, X60, e60, W60, V60, st60⟩ := own_stC X59 hx hZ e59 V59s (j := (21 : Int32)) ⟨by decide, by decide⟩ 21 rfl (Nat.le_of_ble_eq_true rfl) (g := (mkF m 286 #[.val (.int p0), .val (.int p1), .val (.int p2), oI 1, .val (.int zx), .val (.int zy), .val (.int zl), .val (.int zh), oR c26, oI 1, oR a26, oU] [vI 100, vI 21, vR b38, vR b38])) rfl rfl (hb hby at_286)
    have K60 : Keep h0 h60 [] := K59.wr W60 (Or.inr sz_b38)
    have V60s : Arv Z h60 b38 k38 .char (24 : Int32) [(.int (101 : Int32)), (.int (120 : Int32)), (.int (112 : Int32)), (.int (101 : Int32)), (.int (99 : Int32)), (.int (116 : Int32)), (.int (101 : Int32)), (.int (100 : Int32)), (.int (32 : Int32)), (.int (98 : Int32)), (.int (101 : Int32)), (.int (116 : Int32)), (.int (119 : Int32)), (.int (101 : Int32)), (.int (101 : Int32)), (.int (110 : Int32)), (.int (32 : Int32)), (.int (nar .char (((48 : Int32) + zl).toUInt32.toUInt16.toUInt32.toInt32))), (.int (32 : Int32)), (.int (97 : Int32)), (.int (110 : Int32)), (.int (100 : Int32)), (.int (0 : Int32)), (.int (0 : Int32))] (.int (0 : Int32)) := V60
    have N60 := Fr.snoc X60 N59 n_b38
    refine own_goW (T' := T60) (f' := (mkF m 292 #[.val (.int p0), .val (.int p1), .val (.int p2), oI 1, .val (.int zx), .val (.int zy), .val (.int zl), .val (.int zh), oR c26, oI 1, oR a26, oU] [vI 32, vI 22, vR b38, vR b38])) (fun _ k => st60 _ (own_e X60 tt 287 3 k rfl)) ?_
    obtain ⟨T61, h61, X61, e61, W61, V61, st61⟩ := own_stC X60 hx hZ e60 V60s (j := (22 : Int32)) ⟨by decide, by decide⟩ 22 rfl (Nat.le_of_ble_eq_true rfl) (g := (mkF m 292 #[.val (.int p0), .val (.int p1), .val (.int p2), oI 1, .val (.int zx), .val (.int zy), .val (.int zl), .val (.int zh), oR c26, oI 1, oR a26, oU] [vI 32, vI 22, vR b38, vR b38])) rfl rfl (hb hby at_292)
    have K61 : Keep h0 h61 [] := K60.wr W61 (Or.inr sz_b38)
    have V61s : Arv Z h61 b38 k38 .char (24 : Int32) [(.int (101 : Int32)), (.int (120 : Int32)), (.int (112 : Int32)), (.int (101 : Int32)), (.int (99 : Int32)), (.int (116 : Int32)), (.int (101 : Int32)), (.int (100 : Int32)), (.int (32 : Int32)), (.int (98 : Int32)), (.int (101 : Int32)), (.int (116 : Int32)), (.int (119 : Int32)), (.int (101 : Int32)), (.int (101 : Int32)), (.int (110 : Int32)), (.int (32 : Int32)), (.int (nar .char (((48 : Int32) + zl).toUInt32.toUInt16.toUInt32.toInt32))), (.int (32 : Int32)), (.int (97 : Int32)), (.int (110 : Int32)), (.int (100 : Int32)), (.int (32 : Int32)), (.int (0 : Int32))] (.int (0 : Int32)) := V61
    have N61 := Fr.snoc X61 N60 n_b38
    refine own_goW (T' := T61) (f' := (mkF m 302 #[.val (.int p0), .val (.int p1), .val (.int p2), oI 1, .val (.int zx), .val (.int zy), .val (.int zl), .val (.int zh), oR c26, oI 1, oR a26, oU] [(.int (((48 : Int32) + zh).toUInt32.toUInt16.toUInt32.toInt32)), vI 23, vR b38, vR b38])) (fun _ k => st61 _ (own_e X61 tt 293 6 k rfl)) ?_
    obtain ⟨T62, h62, X62, e62, W62, V62, st62⟩ := own_stC X61 hx hZ e61 V61s (j := (23 : Int32)) ⟨by decide, by decide⟩ 23 rfl (Nat.le_of_ble_eq_true rfl) (g := (mkF m 302 #[.val (.int p0), .val (.int p1), .val (.int p2), oI 1, .val (.int zx), .val (.int zy), .val (.int zl), .val (.int zh), oR c26, oI 1, oR a26, oU] [(.int (((48 : Int32) + zh).toUInt32.toUInt16.toUInt32.toInt32)), vI 23, vR b38, vR b38])) rfl rfl (hb hby at_302)
    have K62 : Keep h0 h62 [] := K61.wr W62 (Or.inr sz_b38)
    have V62s : Arv Z h62 b38 k38 .char (24 : Int32) [(.int (101 : Int32)), (.int (120 : Int32)), (.int (112 : Int32)), (.int (101 : Int32)), (.int (99 : Int32)), (.int (116 : Int32)), (.int (101 : Int32)), (.int (100 : Int32)), (.int (32 : Int32)), (.int (98 : Int32)), (.int (101 : Int32)), (.int (116 : Int32)), (.int (119 : Int32)), (.int (101 : Int32)), (.int (101 : Int32)), (.int (110 : Int32)), (.int (32 : Int32)), (.int (nar .char (((48 : Int32) + zl).toUInt32.toUInt16.toUInt32.toInt32))), (.int (32 : Int32)), (.int (97 : Int32)), (.int (110 : Int32)), (.int (100 : Int32)), (.int (32 : Int32)), (.int (nar .char (((48 : Int32) + zh).toUInt32.toUInt16.toUInt32.toInt32)))] (.int (0 : Int32)) := V62
    have N62 := Fr.snoc X62 N61 n_b38
    refine own_goW (T' := T62) (f' := (mkF m 307 #[.val (.int p0), .val (.int p1), .val (.int p2), oI 1, .val (.int zx), .val (.int zy), .val (.int zl), .val (.int zh), oR c26, oI 1, oR a26, oR b38] [vR a26])) (fun _ k => st62 _ (own_e X62 tt 303 2 k rfl)) ?_
    obtain ⟨T63, h63, X63, e63, E63, A63, D63, -, st63⟩ := newO X62 hx hZ hown (ow202 hw) (ow38 hw) (ow31 hw) e62 (g := (mkF m 307 #[.val (.int p0), .val (.int p1), .val (.int p2), oI 1, .val (.int zx), .val (.int zy), .val (.int zl), .val (.int zh), oR c26, oI 1, oR a26, oR b38] [vR a26])) rfl (hb hby at_307) (by decide) (by decide)
    have Zs64 : n0 ≤ h62.size := (Nat.le_trans (Nat.le_trans (Nat.le_trans (Nat.le_trans (Nat.le_trans (Nat.le_trans (Nat.le_trans (Nat.le_trans (Nat.le_trans (Nat.le_trans (Nat.le_trans (Nat.le_trans (Nat.le_trans (Nat.le_trans (Nat.le_trans (Nat.le_trans (Nat.le_trans (Nat.le_trans (Nat.le_trans (Nat.le_trans (Nat.le_trans (Nat.le_trans (Nat.le_trans (Nat.le_trans (Nat.le_trans (Nat.le_trans Z0 K26.1) E38.1) (Keep.of_wr W39).1) (Keep.of_wr W40).1) (Keep.of_wr W41).1) (Keep.of_wr W42).1) (Keep.of_wr W43).1) (Keep.of_wr W44).1) (Keep.of_wr W45).1) (Keep.of_wr W46).1) (Keep.of_wr W47).1) (Keep.of_wr W48).1) (Keep.of_wr W49).1) (Keep.of_wr W50).1) (Keep.of_wr W51).1) (Keep.of_wr W52).1) (Keep.of_wr W53).1) (Keep.of_wr W54).1) (Keep.of_wr W55).1) (Keep.of_wr W56).1) (Keep.of_wr W57).1) (Keep.of_wr W58).1) (Keep.of_wr W59).1) (Keep.of_wr W60).1) (Keep.of_wr W61).1) (Keep.of_wr W62).1)
    obtain ⟨b63, g_b63⟩ : ∃ z, z = h62.size := ⟨_, rfl⟩
    have sg_b63 : h62.size ≤ b63 := Nat.le_of_eq g_b63.symm
    rw [← g_b63] at A63 D63 st63
    have n_b63 : n0 ≤ b63 := Nat.le_trans Zs64 (Nat.le_of_eq g_b63.symm)
    have sz_b63 : h0.size ≤ b63 := Nat.le_trans K62.1 (Nat.le_of_eq g_b63.symm)
    have u65 : b38 < h62.size := (Nat.lt_of_lt_of_le (Nat.lt_of_lt_of_le (Nat.lt_of_lt_of_le (Nat.lt_of_lt_of_le (Nat.lt_of_lt_of_le (Nat.lt_of_lt_of_le (Nat.lt_of_lt_of_le (Nat.lt_of_lt_of_le (Nat.lt_of_lt_of_le (Nat.lt_of_lt_of_le (Nat.lt_of_lt_of_le (Nat.lt_of_lt_of_le (Nat.lt_of_lt_of_le (Nat.lt_of_lt_of_le (Nat.lt_of_lt_of_le (Nat.lt_of_lt_of_le (Nat.lt_of_lt_of_le (Nat.lt_of_lt_of_le (Nat.lt_of_lt_of_le (Nat.lt_of_lt_of_le (Nat.lt_of_lt_of_le (Nat.lt_of_lt_of_le (Nat.lt_of_lt_of_le (Nat.lt_of_lt_of_le V_b38.lt (Keep.of_wr W39).1) (Keep.of_wr W40).1) (Keep.of_wr W41).1) (Keep.of_wr W42).1) (Keep.of_wr W43).1) (Keep.of_wr W44).1) (Keep.of_wr W45).1) (Keep.of_wr W46).1) (Keep.of_wr W47).1) (Keep.of_wr W48).1) (Keep.of_wr W49).1) (Keep.of_wr W50).1) (Keep.of_wr W51).1) (Keep.of_wr W52).1) (Keep.of_wr W53).1) (Keep.of_wr W54).1) (Keep.of_wr W55).1) (Keep.of_wr W56).1) (Keep.of_wr W57).1) (Keep.of_wr W58).1) (Keep.of_wr W59).1) (Keep.of_wr W60).1) (Keep.of_wr W61).1) (Keep.of_wr W62).1)
    have m66 : T26.heap.size ≤ h62.size := (Nat.le_trans (Nat.le_trans (Nat.le_trans (Nat.le_trans (Nat.le_trans (Nat.le_trans (Nat.le_trans (Nat.le_trans (Nat.le_trans (Nat.le_trans (Nat.le_trans (Nat.le_trans (Nat.le_trans (Nat.le_trans (Nat.le_trans (Nat.le_trans (Nat.le_trans (Nat.le_trans (Nat.le_trans (Nat.le_trans (Nat.le_trans (Nat.le_trans (Nat.le_trans (Nat.le_trans (Nat.le_trans (Nat.le_refl _) E38.1) (Keep.of_wr W39).1) (Keep.of_wr W40).1) (Keep.of_wr W41).1) (Keep.of_wr W42).1) (Keep.of_wr W43).1) (Keep.of_wr W44).1) (Keep.of_wr W45).1) (Keep.of_wr W46).1) (Keep.of_wr W47).1) (Keep.of_wr W48).1) (Keep.of_wr W49).1) (Keep.of_wr W50).1) (Keep.of_wr W51).1) (Keep.of_wr W52).1) (Keep.of_wr W53).1) (Keep.of_wr W54).1) (Keep.of_wr W55).1) (Keep.of_wr W56).1) (Keep.of_wr W57).1) (Keep.of_wr W58).1) (Keep.of_wr W59).1) (Keep.of_wr W60).1) (Keep.of_wr W61).1) (Keep.of_wr W62).1)
    have K63 : Keep h0 h63 [] := K62.ext E63
    have F_value_b63 : Fld Z h63 b63 "java/lang/String" "value" "[B" .null := D63 (Or.inr (ow39 hw)) (ty := (.array .byte)) (by decide)
    have F_coder_b63 : Fld Z h63 b63 "java/lang/String" "coder" "B" (.int (0 : Int32)) := D63 (Or.inr (ow40 hw)) (ty := .byte) (by decide)
    refine own_goW (T' := T63) (f' := (mkF m 313 #[.val (.int p0), .val (.int p1), .val (.int p2), oI 1, .val (.int zx), .val (.int zy), .val (.int zl), .val (.int zh), oR c26, oI 1, oR a26, oR b38] [vR b38, vR b63, vR b63, vR a26])) (fun _ k => st63 _ (own_e X63 tt 310 2 k rfl)) ?_
    have G178 := (((((((((((((((((((((((((((own_sta_keep S_cs K26 own_ws0).ext E38).wr W39).wr W40).wr W41).wr W42).wr W43).wr W44).wr W45).wr W46).wr W47).wr W48).wr W49).wr W50).wr W51).wr W52).wr W53).wr W54).wr W55).wr W56).wr W57).wr W58).wr W59).wr W60).wr W61).wr W62).ext E63)
    obtain ⟨_, T177, Lc177, X177, hQ177, st177⟩ := own_out (X63.specialBack hx (y := mn39) rfl hown (mvT hZ (ow203 hw)) (mvT hZ (ow204 hw)) (mvT hZ (ow205 hw)) (by decide) (backOf (W := 2) (rm37a234 l Z a0 hw [] b63 b38 cs k38 (nar .char (((48 : Int32) + zl).toUInt32.toUInt16.toUInt32.toInt32)) (nar .char (((48 : Int32) + zh).toUInt32.toUInt16.toUInt32.toInt32)) h63 n0 (Nat.le_trans Zs64 E63.1) G178 (V62s.ext E63) A63 F_value_b63 F_coder_b63 hcs (own_c255 hl0 (own_ll hle hh10)) (own_c255 (own_l0 hl0 hle) hh10) n_b63) hZ (ow205 hw) (ow31 hw) (by decide) (by decide)) (g := (mkF m 313 #[.val (.int p0), .val (.int p1), .val (.int p2), oI 1, .val (.int zx), .val (.int zy), .val (.int zl), .val (.int zh), oR c26, oI 1, oR a26, oR b38] [vR b38, vR b63, vR b63, vR a26])) rfl (by rw [hml]; rfl) (Steps.refl _) (a := b63) (argsL := [(.ref b38)]) (rest := [(.ref b63), (.ref a26)]) (lenOf pd31 rfl) rfl (by show 2 * 0 + _ ≤ _; exact Nat.le_of_eq rfl) (hb hby at_313) (fun _ _ => ⟨rfl, e63, (by decide : 12 + 1 ≤ _), (by decide : 209 + 24 ≤ _)⟩))
    obtain ⟨b177a, k177b, rfl, N177q, K177, n_b177a, sg_b177a, g177_0, g177_1, g177_2, g177_3⟩ := hQ177
    have N177 := Fr.app N62 N177q
    have sz_b177a : h0.size ≤ b177a := Nat.le_trans K63.1 sg_b177a
    have u179 : b63 < h63.size := A63.lt
    have m180 : h62.size ≤ h63.size := (Nat.le_trans (Nat.le_refl _) E63.1)
    have eK177 : T177.heap = T177.heap := rfl
    have KK177 : Keep h0 T177.heap [] := Keep.trans K63 K177 (allS (Or.inr sz_b63) all0)
    obtain ⟨_, X177, N177⟩ := own_hide X177 N177
    refine own_goW (T' := T177) (f' := (mkF m 316 #[.val (.int p0), .val (.int p1), .val (.int p2), oI 1, .val (.int zx), .val (.int zy), .val (.int zl), .val (.int zh), oR c26, oI 1, oR a26, oR b38] [vR b63, vR a26])) (fun _ k => st177.trans k) ?_
    have q188 : a26 ≠ b63 := (Nat.ne_of_lt (Nat.lt_of_lt_of_le (Nat.lt_of_lt_of_le (Nat.lt_of_lt_of_le (Nat.lt_of_lt_of_le (Nat.lt_of_lt_of_le (Nat.lt_of_lt_of_le (Nat.lt_of_lt_of_le (Nat.lt_of_lt_of_le (Nat.lt_of_lt_of_le (Nat.lt_of_lt_of_le (Nat.lt_of_lt_of_le (Nat.lt_of_lt_of_le (Nat.lt_of_lt_of_le (Nat.lt_of_lt_of_le (Nat.lt_of_lt_of_le (Nat.lt_of_lt_of_le (Nat.lt_of_lt_of_le (Nat.lt_of_lt_of_le (Nat.lt_of_lt_of_le (Nat.lt_of_lt_of_le (Nat.lt_of_lt_of_le (Nat.lt_of_lt_of_le (Nat.lt_of_lt_of_le (Nat.lt_of_lt_of_le (Nat.lt_of_lt_of_le (Nat.lt_of_lt_of_le g26_4.lt E38.1) (Keep.of_wr W39).1) (Keep.of_wr W40).1) (Keep.of_wr W41).1) (Keep.of_wr W42).1) (Keep.of_wr W43).1) (Keep.of_wr W44).1) (Keep.of_wr W45).1) (Keep.of_wr W46).1) (Keep.of_wr W47).1) (Keep.of_wr W48).1) (Keep.of_wr W49).1) (Keep.of_wr W50).1) (Keep.of_wr W51).1) (Keep.of_wr W52).1) (Keep.of_wr W53).1) (Keep.of_wr W54).1) (Keep.of_wr W55).1) (Keep.of_wr W56).1) (Keep.of_wr W57).1) (Keep.of_wr W58).1) (Keep.of_wr W59).1) (Keep.of_wr W60).1) (Keep.of_wr W61).1) (Keep.of_wr W62).1) sg_b63))
    have q233 : a26 ≠ b38 := (Nat.ne_of_lt (Nat.lt_of_lt_of_le g26_4.lt sg_b38))
    have G234 := (((((((((((((((((((((((((((g26_5.ext E38).other W39 (Or.inl q233)).other W40 (Or.inl q233)).other W41 (Or.inl q233)).other W42 (Or.inl q233)).other W43 (Or.inl q233)).other W44 (Or.inl q233)).other W45 (Or.inl q233)).other W46 (Or.inl q233)).other W47 (Or.inl q233)).other W48 (Or.inl q233)).other W49 (Or.inl q233)).other W50 (Or.inl q233)).other W51 (Or.inl q233)).other W52 (Or.inl q233)).other W53 (Or.inl q233)).other W54 (Or.inl q233)).other W55 (Or.inl q233)).other W56 (Or.inl q233)).other W57 (Or.inl q233)).other W58 (Or.inl q233)).other W59 (Or.inl q233)).other W60 (Or.inl q233)).other W61 (Or.inl q233)).other W62 (Or.inl q233)).ext E63).keep K177 (ninS q188 nin0))
    have G235 := (((((((((((((((((((((((((((g26_6.ext E38).other W39 (Or.inl q233)).other W40 (Or.inl q233)).other W41 (Or.inl q233)).other W42 (Or.inl q233)).other W43 (Or.inl q233)).other W44 (Or.inl q233)).other W45 (Or.inl q233)).other W46 (Or.inl q233)).other W47 (Or.inl q233)).other W48 (Or.inl q233)).other W49 (Or.inl q233)).other W50 (Or.inl q233)).other W51 (Or.inl q233)).other W52 (Or.inl q233)).other W53 (Or.inl q233)).other W54 (Or.inl q233)).other W55 (Or.inl q233)).other W56 (Or.inl q233)).other W57 (Or.inl q233)).other W58 (Or.inl q233)).other W59 (Or.inl q233)).other W60 (Or.inl q233)).other W61 (Or.inl q233)).other W62 (Or.inl q233)).ext E63).keep K177 (ninS q188 nin0))
    have q236 : b26 ≠ b38 := (Nat.ne_of_lt (Nat.lt_of_lt_of_le g26_7.lt sg_b38))
    have q237 : b26 ≠ b63 := (Nat.ne_of_lt (Nat.lt_of_lt_of_le (Nat.lt_of_lt_of_le (Nat.lt_of_lt_of_le (Nat.lt_of_lt_of_le (Nat.lt_of_lt_of_le (Nat.lt_of_lt_of_le (Nat.lt_of_lt_of_le (Nat.lt_of_lt_of_le (Nat.lt_of_lt_of_le (Nat.lt_of_lt_of_le (Nat.lt_of_lt_of_le (Nat.lt_of_lt_of_le (Nat.lt_of_lt_of_le (Nat.lt_of_lt_of_le (Nat.lt_of_lt_of_le (Nat.lt_of_lt_of_le (Nat.lt_of_lt_of_le (Nat.lt_of_lt_of_le (Nat.lt_of_lt_of_le (Nat.lt_of_lt_of_le (Nat.lt_of_lt_of_le (Nat.lt_of_lt_of_le (Nat.lt_of_lt_of_le (Nat.lt_of_lt_of_le (Nat.lt_of_lt_of_le (Nat.lt_of_lt_of_le g26_7.lt E38.1) (Keep.of_wr W39).1) (Keep.of_wr W40).1) (Keep.of_wr W41).1) (Keep.of_wr W42).1) (Keep.of_wr W43).1) (Keep.of_wr W44).1) (Keep.of_wr W45).1) (Keep.of_wr W46).1) (Keep.of_wr W47).1) (Keep.of_wr W48).1) (Keep.of_wr W49).1) (Keep.of_wr W50).1) (Keep.of_wr W51).1) (Keep.of_wr W52).1) (Keep.of_wr W53).1) (Keep.of_wr W54).1) (Keep.of_wr W55).1) (Keep.of_wr W56).1) (Keep.of_wr W57).1) (Keep.of_wr W58).1) (Keep.of_wr W59).1) (Keep.of_wr W60).1) (Keep.of_wr W61).1) (Keep.of_wr W62).1) sg_b63))
    have G238 := (((((((((((((((((((((((((((g26_7.ext E38).other W39 q236).other W40 q236).other W41 q236).other W42 q236).other W43 q236).other W44 q236).other W45 q236).other W46 q236).other W47 q236).other W48 q236).other W49 q236).other W50 q236).other W51 q236).other W52 q236).other W53 q236).other W54 q236).other W55 q236).other W56 q236).other W57 q236).other W58 q236).other W59 q236).other W60 q236).other W61 q236).other W62 q236).ext E63).keep K177 (ninS q237 nin0))
    have G239 := (((((((((((((((((((((((((((g26_4.ext E38).wr W39).wr W40).wr W41).wr W42).wr W43).wr W44).wr W45).wr W46).wr W47).wr W48).wr W49).wr W50).wr W51).wr W52).wr W53).wr W54).wr W55).wr W56).wr W57).wr W58).wr W59).wr W60).wr W61).wr W62).ext E63).keep K177)
    obtain ⟨cq232, kq232, q232a, q232b, q232c⟩ := isOf hZ eK177 G239
    obtain ⟨_, T232, Lc232, X232, hQ232, st232⟩ := own_out (X177.virtualBack hx (y := mn41) (z := mn41) hown (mvT hZ (ow219 hw)) (mvT hZ (ow220 hw)) (notFace_of_selects (args := #[]) (mvT hZ (ow222 hw))) (mvT hZ (ow222 hw)) (mvT hZ (ow221 hw)) (by decide) (backOf (W := 0) (rm42a244 l Z a0 hw [] a26 b63 cs b26 k26 (nar .byte ((48 : Int32) + zl)) (nar .byte ((48 : Int32) + zh)) b177a k177b (nar .byte ((nar .char (((48 : Int32) + zl).toUInt32.toUInt16.toUInt32.toInt32)).toInt8.toInt32)) (nar .byte ((nar .char (((48 : Int32) + zh).toUInt32.toUInt16.toUInt32.toInt32)).toInt8.toInt32)) T177.heap n0 (Nat.le_trans (Nat.le_trans Zs64 E63.1) K177.1) (own_sta_keep G178 K177 (own_wsE A63 own_ws0)) G234 G235 G238 (A63.keep K177) g177_0 g177_1 g177_2 hcs q188 (own_bc hl0 (own_ll hle hh10)) (own_bc (own_l0 hl0 hle) hh10)) hZ (ow223 hw) (ow31 hw) (by decide) (by decide)) q232a q232c (g := (mkF m 316 #[.val (.int p0), .val (.int p1), .val (.int p2), oI 1, .val (.int zx), .val (.int zy), .val (.int zl), .val (.int zh), oR c26, oI 1, oR a26, oR b38] [vR b63, vR a26])) rfl (by rw [hml]; rfl) (Steps.refl _) (argsL := [(.ref b63)]) (rest := []) (lenOf pd20 rfl) rfl (by show 2 * 0 + _ ≤ _; exact Nat.le_of_eq rfl) (hb hby at_316) (fun _ _ => ⟨rfl, eK177, (by decide : 13 + 0 ≤ _), (by decide : 233 + 0 ≤ _)⟩))
    obtain ⟨rfl, N232q, hh232⟩ := hQ232
    have N232 := Fr.app N177 N232q
    obtain ⟨_, X232, N232⟩ := own_hide X232 N232
    refine own_goW (T' := T232) (f' := (mkF m 323 #[.val (.int p0), .val (.int p1), .val (.int p2), oI 1, .val (.int zx), .val (.int zy), .val (.int zl), .val (.int zh), oR c26, oI 1, oR a26, oR b38] [vI 1])) (fun _ k => st232.trans (own_e X232 tt 319 2 k rfl)) ?_
    refine own_retW X232 hS (by rw [hh232]; exact (Nat.le_trans (Nat.le_trans (Nat.le_trans (Nat.le_trans (Nat.le_trans (Nat.le_trans (Nat.le_trans (Nat.le_trans (Nat.le_trans (Nat.le_trans (Nat.le_trans (Nat.le_trans (Nat.le_trans (Nat.le_trans (Nat.le_trans (Nat.le_trans (Nat.le_trans (Nat.le_trans (Nat.le_trans (Nat.le_trans (Nat.le_trans (Nat.le_trans (Nat.le_trans (Nat.le_trans (Nat.le_trans (Nat.le_trans (Nat.le_trans (Nat.le_refl _) E38.1) (Keep.of_wr W39).1) (Keep.of_wr W40).1) (Keep.of_wr W41).1) (Keep.of_wr W42).1) (Keep.of_wr W43).1) (Keep.of_wr W44).1) (Keep.of_wr W45).1) (Keep.of_wr W46).1) (Keep.of_wr W47).1) (Keep.of_wr W48).1) (Keep.of_wr W49).1) (Keep.of_wr W50).1) (Keep.of_wr W51).1) (Keep.of_wr W52).1) (Keep.of_wr W53).1) (Keep.of_wr W54).1) (Keep.of_wr W55).1) (Keep.of_wr W56).1) (Keep.of_wr W57).1) (Keep.of_wr W58).1) (Keep.of_wr W59).1) (Keep.of_wr W60).1) (Keep.of_wr W61).1) (Keep.of_wr W62).1) E63.1) K177.1)) (v := some (.int (1 : Int32))) (fun h => by rw [Bd.returns] at h; cases h) Bd.notSynchronized (fun fs hr => retN X232 hx (t := .boolean) Bd.returns (by simp) (hb hby at_323) hr) ?_ (by decide) (by decide)
    show Q0 Z B p0 p1 p2 cs wd kd vd wt kt vt h0 n0 _ T232.heap T232.vm _
    exact ⟨rfl, N232⟩
set_option maxRecDepth 65536 in
set_option maxHeartbeats 40000000 in
theorem comes_1 {Post : Tables → Env → Array Value → State → Outcome → State → Prop} (hpost : ∀ tb e args s v u, (limb_1_1.after args s (.returned v) u = true ∧ limb_1_2.after args s (.returned v) u = true ∧ True) → ReturnedEndW s (.returned v) u (Jvm.fieldLocs frame_1_writes args s ++ Jvm.arrayLocs frame_1_arrays args s ++ Jvm.staticLocs frame_1_statics s) 32 2496 → Post tb e args s (.returned v) u) :
    ArmFor flags0 classFile x code maxLocals ret World_1 tables_1 room_1 Calls_1 rest_1 Pre_1 Post := by
  intro l hfl _ _ p e ha hc hk s m args below hf hA hF happ hP
  obtain ⟨hcalls, hrest, hpre⟩ := hP
  obtain ⟨-, -, -, hnamed, -, -, -, hat⟩ := (Spec.applies_iff hf).mp happ
  obtain ⟨hg, hn⟩ := and_e (Cond.before_iff.mp (show (Jvm.Cond.and given_1 narrow_1).before args s = true from hpre))
  obtain ⟨hg_2, hg_3⟩ := and_e hg
  obtain ⟨hg_4, hg_5⟩ := and_e hg_3
  obtain ⟨hg_6, hg_7⟩ := and_e hg_5
  obtain ⟨w0, w1, w2, rfl⟩ : ∃ w0 w1 w2 : Value, args = #[w0, w1, w2] := by
    have hs : args.size = 3 := by simpa [Cond.value, given_1] using hg_2
    obtain ⟨L⟩ := args
    match L, hs with
    | [w0, w1, w2], _ => exact ⟨w0, w1, w2, rfl⟩
  have hw := fun d (hd : d ∈ tables_1) => atoms_spec (ws := Jvm.Cond.code x code maxLocals ret :: tables_1) hat d (List.mem_cons_of_mem _ hd)
  have hfit : Fit s := fun {y c} hc i hi => by
    obtain ⟨ha, rfl⟩ := Array.getElem?_eq_some_iff.mp hc
    have q := List.all_eq_true.mp ((Array.all_eq_true_iff_forall_mem.mp hF) _ (Array.getElem_mem ha)) i (List.mem_range.mpr hi)
    simpa [Array.getElem?_eq_getElem hi] using q
  obtain ⟨hsets, hown0⟩ := atoms_of _ (rest_1_c_eq ▸ (show rest_1_c.before _ s = true from hrest))
  have hr0 := Cond.before_iff.mp hown0
  obtain ⟨i0, ei0⟩ := is_v hg_4
  obtain rfl : w0 = (.int i0) := Option.some.inj ei0
  obtain ⟨i1, ei1⟩ := is_v hg_6
  obtain rfl : w1 = (.int i1) := Option.some.inj ei1
  obtain ⟨i2, ei2⟩ := is_v hg_7
  obtain rfl : w2 = (.int i2) := Option.some.inj ei2
  obtain ⟨cs, ecs⟩ := is_v (Cond.before_iff.mp (hsets _ (List.mem_of_getElem? (i := 1) rfl)))
  have S_cs : Sta s s.heap "java/lang/String" "COMPACT_STRINGS" "Z" (.int cs) := Sta.start ecs (Or.inl (hsets _ (List.mem_of_getElem? (i := 0) rfl)))
  have hcw := hsets _ (List.mem_of_getElem? (i := 2) rfl)
  have hcs : ¬ (cs = (0 : Int32)) := own_ne0 ecs hcw
  obtain ⟨wd, ewd⟩ := exa_v (Cond.before_iff.mp (hsets _ (List.mem_of_getElem? (i := 12) rfl)))
  have S_do : Sta s s.heap "java/lang/Integer" "DigitOnes" "[B" (.ref wd) := Sta.start ewd (Or.inl (hsets _ (List.mem_of_getElem? (i := 11) rfl)))
  obtain ⟨kd, vd, D1, V_do, D1s, D1a, D1v, D1g⟩ := own_digits hfit ewd (hsets _ (List.mem_of_getElem? (i := 12) rfl)) (hsets _ (List.mem_of_getElem? (i := 13) rfl)) (hw _ (List.mem_of_getElem? (i := 32) rfl))
  obtain ⟨wt, ewt⟩ := exa_v (Cond.before_iff.mp (hsets _ (List.mem_of_getElem? (i := 17) rfl)))
  have S_dt : Sta s s.heap "java/lang/Integer" "DigitTens" "[B" (.ref wt) := Sta.start ewt (Or.inl (hsets _ (List.mem_of_getElem? (i := 16) rfl)))
  obtain ⟨kt, vt, D2, V_dt, D2s, D2a, D2v, D2g⟩ := own_digits hfit ewt (hsets _ (List.mem_of_getElem? (i := 17) rfl)) (hsets _ (List.mem_of_getElem? (i := 18) rfl)) (hw _ (List.mem_of_getElem? (i := 32) rfl))
  have hd10 : own_D10 vd := own_ones ewd D1s D1a D1v D1g (hsets _ (List.mem_of_getElem? (i := 14) rfl))
  have hst : own_SameSt s := own_sameSt (hsets _ (List.mem_of_getElem? (i := 10) rfl)) (hsets _ (List.mem_of_getElem? (i := 15) rfl))
  obtain ⟨n, o, h1, h2, h3, _, L, rfl, ⟨rfl, N⟩, hq⟩ := rm0 l s _ hw tables_1 s i0 i1 i2 cs wd kd vd wt kt vt s.heap s.heap.size (Nat.le_refl _) S_cs hcs S_do V_do S_dt V_dt hst hd10 hcw (hcalls.1 _ (List.mem_of_getElem? (i := 0) rfl)) (hcalls.1 _ (List.mem_of_getElem? (i := 1) rfl)) rfl rfl p e ha hc hk s m _ below hf ((Spec.applies_iff_loose hf).mp happ).1 ⟨rfl, State.Warmed39.refl s, State.WarmedH.refl s, rfl⟩ trivial
  refine ⟨n, _, h1, h2, h3, hpost _ _ _ _ _ _ ⟨Cond.after_iff.mpr rfl, Cond.after_iff.mpr (eq_i res_at (Term.int_eval (1)) rfl), trivial⟩ ⟨hq.1, hq.2.1, hq.2.2.1, (hq.2.2.2.sift fun y hy => Or.inr (N y hy)).mono (by decide) (by decide)⟩⟩
theorem main_1_1 : Claimed_1_1 := comes_1 fun _ _ _ _ _ _ h hF => ⟨h.1, hF⟩
theorem main_1_2 : Claimed_1_2 := comes_1 fun _ _ _ _ _ _ h hF => ⟨h.2.1, hF⟩
end Jvm.Pilot.@@N@@
namespace Jvm.Pilot.@@N@@
open Jvm Jvm.ClassFile Sem Op Lib Jvm.Free Jvm.Stand Jvm.Pilot.@@N@@.Jvm.D
/-! MADE BY PROGRAM (witnessworld.py) out of the Statement's table words and the real class files: 29 classes; the members and pool entries that the words name. The judged class is class 1, her method 2. -/
namespace start1
open Jvm.ClassFile
def u (s : String) : CpInfo := .utf8 (stringToUtf16 s)
/-- a pool by its gaps: so many unusable entries, then the entry; so many at the end -/
def gap : Nat → List CpInfo → List CpInfo
  | 0, r => r
  | n + 1, r => .unusable :: gap n r
def poolList (es : List (Nat × CpInfo)) (last : Nat) : List CpInfo := es.foldr (fun e r => gap e.1 (e.2 :: r)) (gap last [])
def pool (es : List (Nat × CpInfo)) (last : Nat) : Array CpInfo := ⟨poolList es last⟩
def fileOf (pool : Array CpInfo) (this : Nat) (attrs : Array Attribute := #[]) (ms : Array MethodInfo := #[]) (fl : Nat := 33) (sup : Nat := 0) (ifs : Array Nat := #[]) (fds : Array FieldInfo := #[]) : ClassFile where
  minorVersion := 0
  majorVersion := 65
  constantPool := pool
  accessFlags := fl
  thisClass := this
  superClass := sup
  interfaces := ifs
  fields := fds
  methods := ms
  attributes := attrs
def plain (name : String) (sup : Option ClassId) : Class where
  name := name
  kind := .ordinary
  loader := none
  accessFlags := 33
  super := sup
  interfaces := #[]
  cf := none
  fields := #[]
  methods := #[]
  instanceTypes := #[]
  staticTypes := #[]
  resolved := #[]
  callSites := []
  init := .initialized
  statics := none
  mirror := none

def pool0 : Array CpInfo := pool [(5, u "<init>"), (0, u "()V"), (1, .class_ 10), (1, u "java/lang/Object"), (85, u "clone"), (0, u "()Ljava/lang/Object;")] 26

def k0c0 : Code := { maxStack := 0, maxLocals := 1, code := object_method_1_code, exceptionTable := #[], attributes := #[] }
def k0m0 : Method := { name := "<init>", desc := "()V", sig := { parameters := [], returnType := none }, accessFlags := 1, code := some k0c0 }
def k0m1 : Method := { name := "clone", desc := "()Ljava/lang/Object;", sig := { parameters := [], returnType := some (.object "java/lang/Object") }, accessFlags := 260, code := none }
/-- java/lang/Object -/
def k0 : Class := { plain "java/lang/Object" none with
  accessFlags := 33
  interfaces := #[]
  cf := some (fileOf pool0 8 #[] #[{ accessFlags := 1, nameIndex := 5, descriptorIndex := 6, attributes := #[] }, { accessFlags := 260, nameIndex := 96, descriptorIndex := 97, attributes := #[] }] 33 0 #[] #[])
  fields := #[]
  methods := #[k0m0, k0m1]
  instanceTypes := #[]
  staticTypes := #[]
  resolved := Array.replicate 124 none
  statics := none }

def pool1 : Array CpInfo := pool [(2, .class_ 4), (1, u "java/lang/Object"), (0, u "<init>"), (0, u "()V"), (0, .integer 100000), (0, .integer 1000000), (0, .integer 10000000), (0, .integer 100000000), (0, .integer 1000000000), (0, .integer 2147483647), (0, .methodref 14 15), (0, .class_ 16), (0, .nameAndType 17 18), (0, u "java/lang/Math"), (0, u "min"), (0, u "(II)I"), (0, .methodref 14 20), (0, .nameAndType 21 18), (0, u "max"), (0, .methodref 23 24), (0, .class_ 25), (0, .nameAndType 26 27), (0, u "com/example/tally_of_calls/tallyofcalls/Counts"), (0, u "between"), (0, u "(II)Lcom/example/tally_of_calls/tallyofcalls/Count;"), (0, .methodref 29 30), (0, .class_ 31), (0, .nameAndType 17 32), (0, u "com/example/tally_of_calls/tallyofcalls/Count"), (0, u "()I"), (0, .methodref 29 34), (0, .nameAndType 21 35), (0, u "()J"), (0, .methodref 29 37), (0, .nameAndType 38 39), (0, u "phrase"), (0, u "()Ljava/lang/String;"), (0, .methodref 41 42), (0, .class_ 43), (0, .nameAndType 44 32), (0, u "java/lang/String"), (0, u "length"), (0, .methodref 46 47), (0, .class_ 48), (0, .nameAndType 49 50), (0, u "com/example/tally_of_calls/tallyofcalls/CountsBetweenPinLaw"), (0, u "digits"), (0, u "(I)I"), (0, .methodref 41 52), (0, .nameAndType 5 53), (0, u "([C)V"), (0, .methodref 41 55), (0, .nameAndType 56 57), (0, u "equals"), (0, u "(Ljava/lang/Object;)Z"), (3, u "law"), (0, u "(III)Z")] 2

def k1m0 : Method := { name := "<init>", desc := "()V", sig := { parameters := [], returnType := none }, accessFlags := 2, code := none }
def k1c1 : Code := { maxStack := 2, maxLocals := 1, code := method_2_code, exceptionTable := #[], attributes := #[] }
def k1m1 : Method := { name := "digits", desc := "(I)I", sig := { parameters := [.int], returnType := some .int }, accessFlags := 10, code := some k1c1 }
def k1c2 : Code := { maxStack := 5, maxLocals := 12, code := code, exceptionTable := #[], attributes := #[] }
def k1m2 : Method := { name := "law", desc := "(III)Z", sig := { parameters := [.int, .int, .int], returnType := some .boolean }, accessFlags := 9, code := some k1c2 }
/-- com/example/tally_of_calls/tallyofcalls/CountsBetweenPinLaw -/
def k1 : Class := { plain "com/example/tally_of_calls/tallyofcalls/CountsBetweenPinLaw" (some 0) with
  accessFlags := 49
  interfaces := #[]
  cf := some (fileOf pool1 46 #[] #[{ accessFlags := 2, nameIndex := 5, descriptorIndex := 6, attributes := #[] }, { accessFlags := 10, nameIndex := 49, descriptorIndex := 50, attributes := #[] }, { accessFlags := 9, nameIndex := 61, descriptorIndex := 62, attributes := #[] }] 49 2 #[] #[])
  fields := #[]
  methods := #[k1m0, k1m1, k1m2]
  instanceTypes := #[]
  staticTypes := #[]
  resolved := Array.replicate 65 none
  statics := none }

def pool2 : Array CpInfo := pool [(1, .class_ 2), (0, u "java/lang/Math"), (1, .class_ 6), (1, u "java/lang/Object"), (0, u "<init>"), (0, u "()V"), (89, .class_ 100), (1, u "java/lang/Math$RandomNumberGeneratorHolder"), (71, u "negativeZeroFloatBits"), (0, u "J"), (2, u "negativeZeroDoubleBits"), (21, u "max"), (2, u "min"), (43, u "$assertionsDisabled"), (0, u "Z"), (88, u "(II)I"), (2, u "twoToTheDoubleScaleDown"), (0, u "D"), (4, u "twoToTheDoubleScaleUp"), (9, u "E"), (3, u "PI"), (2, u "TAU"), (2, u "DEGREES_TO_RADIANS"), (0, u "RADIANS_TO_DEGREES")] 94

def k2m0 : Method := { name := "<init>", desc := "()V", sig := { parameters := [], returnType := none }, accessFlags := 2, code := none }
def k2c1 : Code := { maxStack := 2, maxLocals := 2, code := jdk_29_method_65_code, exceptionTable := #[], attributes := #[] }
def k2m1 : Method := { name := "max", desc := "(II)I", sig := { parameters := [.int, .int], returnType := some .int }, accessFlags := 9, code := some k2c1 }
def k2c2 : Code := { maxStack := 2, maxLocals := 2, code := jdk_29_method_69_code, exceptionTable := #[], attributes := #[] }
def k2m2 : Method := { name := "min", desc := "(II)I", sig := { parameters := [.int, .int], returnType := some .int }, accessFlags := 9, code := some k2c2 }
/-- java/lang/Math -/
def k2 : Class := { plain "java/lang/Math" (some 0) with
  accessFlags := 49
  interfaces := #[]
  cf := some (fileOf pool2 1 #[.nestMembers #[98]] #[{ accessFlags := 2, nameIndex := 7, descriptorIndex := 8, attributes := #[] }, { accessFlags := 9, nameIndex := 198, descriptorIndex := 335, attributes := #[] }, { accessFlags := 9, nameIndex := 201, descriptorIndex := 335, attributes := #[] }] 49 4 #[] #[{ accessFlags := 25, nameIndex := 354, descriptorIndex := 339, attributes := #[] }, { accessFlags := 25, nameIndex := 358, descriptorIndex := 339, attributes := #[] }, { accessFlags := 25, nameIndex := 361, descriptorIndex := 339, attributes := #[] }, { accessFlags := 26, nameIndex := 364, descriptorIndex := 339, attributes := #[] }, { accessFlags := 26, nameIndex := 365, descriptorIndex := 339, attributes := #[] }, { accessFlags := 26, nameIndex := 172, descriptorIndex := 173, attributes := #[] }, { accessFlags := 26, nameIndex := 176, descriptorIndex := 173, attributes := #[] }, { accessFlags := 8, nameIndex := 344, descriptorIndex := 339, attributes := #[] }, { accessFlags := 8, nameIndex := 338, descriptorIndex := 339, attributes := #[] }, { accessFlags := 4120, nameIndex := 245, descriptorIndex := 246, attributes := #[] }])
  fields := #[{ name := "E", type := .double, accessFlags := 25, slot := 0, constantValue := 0 }, { name := "PI", type := .double, accessFlags := 25, slot := 1, constantValue := 0 }, { name := "TAU", type := .double, accessFlags := 25, slot := 2, constantValue := 0 }, { name := "DEGREES_TO_RADIANS", type := .double, accessFlags := 26, slot := 3, constantValue := 0 }, { name := "RADIANS_TO_DEGREES", type := .double, accessFlags := 26, slot := 4, constantValue := 0 }, { name := "negativeZeroFloatBits", type := .long, accessFlags := 26, slot := 5, constantValue := 0 }, { name := "negativeZeroDoubleBits", type := .long, accessFlags := 26, slot := 6, constantValue := 0 }, { name := "twoToTheDoubleScaleUp", type := .double, accessFlags := 8, slot := 7, constantValue := 0 }, { name := "twoToTheDoubleScaleDown", type := .double, accessFlags := 8, slot := 8, constantValue := 0 }, { name := "$assertionsDisabled", type := .boolean, accessFlags := 4120, slot := 9, constantValue := 0 }]
  methods := #[k2m0, k2m1, k2m2]
  instanceTypes := #[]
  staticTypes := #[.double, .double, .double, .double, .double, .long, .long, .double, .double, .boolean]
  resolved := Array.replicate 460 none
  statics := none }

def pool3 : Array CpInfo := pool [(2, .class_ 4), (0, .nameAndType 5 6), (0, u "java/lang/Object"), (0, u "<init>"), (0, u "()V"), (1, .class_ 10), (1, u "com/example/tally_of_calls/tallyofcalls/Counts"), (2, .class_ 14), (0, u "java/lang/StringBuilder"), (0, .methodref 13 3), (2, .methodref 13 19), (0, .nameAndType 20 21), (0, u "append"), (0, u "(Ljava/lang/String;)Ljava/lang/StringBuilder;"), (0, .methodref 13 23), (0, .nameAndType 20 24), (0, u "(I)Ljava/lang/StringBuilder;"), (2, .methodref 13 28), (0, .nameAndType 29 30), (0, u "toString"), (0, u "()Ljava/lang/String;"), (4, .class_ 36), (0, u "com/example/tally_of_calls/tallyofcalls/Count"), (4, .methodref 35 42), (0, .nameAndType 5 43), (0, u "(IJLjava/lang/String;)V"), (21, .string 66), (0, u "expected between "), (0, .string 68), (0, u " and "), (15, u "between"), (0, u "(II)Lcom/example/tally_of_calls/tallyofcalls/Count;")] 4

def k3m0 : Method := { name := "<init>", desc := "()V", sig := { parameters := [], returnType := none }, accessFlags := 2, code := none }
def k3c1 : Code := { maxStack := 7, maxLocals := 3, code := prog_5_method_6_code, exceptionTable := #[], attributes := #[] }
def k3m1 : Method := { name := "between", desc := "(II)Lcom/example/tally_of_calls/tallyofcalls/Count;", sig := { parameters := [.int, .int], returnType := some (.object "com/example/tally_of_calls/tallyofcalls/Count") }, accessFlags := 9, code := some k3c1 }
/-- com/example/tally_of_calls/tallyofcalls/Counts -/
def k3 : Class := { plain "com/example/tally_of_calls/tallyofcalls/Counts" (some 0) with
  accessFlags := 33
  interfaces := #[]
  cf := some (fileOf pool3 8 #[] #[{ accessFlags := 2, nameIndex := 5, descriptorIndex := 6, attributes := #[] }, { accessFlags := 9, nameIndex := 84, descriptorIndex := 85, attributes := #[] }] 33 2 #[] #[])
  fields := #[]
  methods := #[k3m0, k3m1]
  instanceTypes := #[]
  staticTypes := #[]
  resolved := Array.replicate 90 none
  statics := none }

def pool4 : Array CpInfo := pool [(3, .methodref 4 5), (0, .class_ 6), (0, .nameAndType 7 8), (0, u "java/lang/Object"), (0, u "<init>"), (0, u "()V"), (0, .fieldref 10 11), (0, .class_ 12), (0, .nameAndType 13 14), (0, u "com/example/tally_of_calls/tallyofcalls/Count"), (0, u "min"), (0, u "I"), (0, .fieldref 10 16), (0, .nameAndType 17 18), (0, u "max"), (0, u "J"), (0, .fieldref 10 20), (0, .nameAndType 21 22), (0, u "phrase"), (0, u "Ljava/lang/String;"), (0, u "UNBOUNDED"), (3, u "(IJLjava/lang/String;)V"), (2, u "()I"), (0, u "()J"), (0, u "()Ljava/lang/String;")] 2

def k4c0 : Code := { maxStack := 3, maxLocals := 5, code := prog_4_method_1_code, exceptionTable := #[], attributes := #[] }
def k4m0 : Method := { name := "<init>", desc := "(IJLjava/lang/String;)V", sig := { parameters := [.int, .long, (.object "java/lang/String")], returnType := none }, accessFlags := 0, code := some k4c0 }
def k4c1 : Code := { maxStack := 1, maxLocals := 1, code := prog_4_method_2_code, exceptionTable := #[], attributes := #[] }
def k4m1 : Method := { name := "min", desc := "()I", sig := { parameters := [], returnType := some .int }, accessFlags := 0, code := some k4c1 }
def k4c2 : Code := { maxStack := 2, maxLocals := 1, code := prog_4_method_3_code, exceptionTable := #[], attributes := #[] }
def k4m2 : Method := { name := "max", desc := "()J", sig := { parameters := [], returnType := some .long }, accessFlags := 0, code := some k4c2 }
def k4c3 : Code := { maxStack := 1, maxLocals := 1, code := prog_4_method_4_code, exceptionTable := #[], attributes := #[] }
def k4m3 : Method := { name := "phrase", desc := "()Ljava/lang/String;", sig := { parameters := [], returnType := some (.object "java/lang/String") }, accessFlags := 0, code := some k4c3 }
/-- com/example/tally_of_calls/tallyofcalls/Count -/
def k4 : Class := { plain "com/example/tally_of_calls/tallyofcalls/Count" (some 0) with
  accessFlags := 33
  interfaces := #[]
  cf := some (fileOf pool4 10 #[] #[{ accessFlags := 0, nameIndex := 7, descriptorIndex := 27, attributes := #[] }, { accessFlags := 0, nameIndex := 13, descriptorIndex := 30, attributes := #[] }, { accessFlags := 0, nameIndex := 17, descriptorIndex := 31, attributes := #[] }, { accessFlags := 0, nameIndex := 21, descriptorIndex := 32, attributes := #[] }] 33 4 #[] #[{ accessFlags := 24, nameIndex := 23, descriptorIndex := 18, attributes := #[] }, { accessFlags := 18, nameIndex := 13, descriptorIndex := 14, attributes := #[] }, { accessFlags := 18, nameIndex := 17, descriptorIndex := 18, attributes := #[] }, { accessFlags := 18, nameIndex := 21, descriptorIndex := 22, attributes := #[] }])
  fields := #[{ name := "UNBOUNDED", type := .long, accessFlags := 24, slot := 0, constantValue := 0 }, { name := "min", type := .int, accessFlags := 18, slot := 0, constantValue := 0 }, { name := "max", type := .long, accessFlags := 18, slot := 1, constantValue := 0 }, { name := "phrase", type := (.object "java/lang/String"), accessFlags := 18, slot := 2, constantValue := 0 }]
  methods := #[k4m0, k4m1, k4m2, k4m3]
  instanceTypes := #[.int, .long, (.object "java/lang/String")]
  staticTypes := #[.long]
  resolved := Array.replicate 35 none
  statics := none }

def pool5 : Array CpInfo := pool [(1, .class_ 2), (0, u "java/lang/Appendable"), (0, .class_ 4), (0, u "java/lang/Object")] 9

/-- java/lang/Appendable -/
def k5 : Class := { plain "java/lang/Appendable" (some 0) with
  accessFlags := 1537
  interfaces := #[]
  cf := some (fileOf pool5 1 #[] #[] 1537 3 #[] #[])
  fields := #[]
  methods := #[]
  instanceTypes := #[]
  staticTypes := #[]
  resolved := Array.replicate 14 none
  statics := none }

def pool6 : Array CpInfo := pool [(2, .class_ 4), (1, u "java/lang/CharSequence"), (42, .class_ 48), (0, u "java/lang/CharSequence$1CodePointIterator"), (10, .class_ 60), (0, u "java/lang/CharSequence$1CharIterator"), (5, .class_ 67), (0, u "java/lang/Object")] 63

/-- java/lang/CharSequence -/
def k6 : Class := { plain "java/lang/CharSequence" (some 0) with
  accessFlags := 1537
  interfaces := #[]
  cf := some (fileOf pool6 2 #[.nestMembers #[47, 59]] #[] 1537 66 #[] #[])
  fields := #[]
  methods := #[]
  instanceTypes := #[]
  staticTypes := #[]
  resolved := Array.replicate 131 none
  statics := none }

def pool7 : Array CpInfo := pool [(1, .class_ 2), (0, u "java/lang/String"), (0, .methodref 4 5), (0, .class_ 6), (0, .nameAndType 7 8), (0, u "java/lang/Object"), (0, u "<init>"), (0, u "()V"), (1, .class_ 12), (1, u "java/lang/AbstractStringBuilder"), (0, u "EMPTYVALUE"), (0, u "[B"), (0, .fieldref 10 16), (0, .nameAndType 17 14), (0, u "value"), (0, .fieldref 1 19), (0, .nameAndType 20 21), (0, u "COMPACT_STRINGS"), (0, u "Z"), (0, .fieldref 10 23), (0, .nameAndType 24 25), (0, u "coder"), (0, u "B"), (6, .methodref 1 33), (0, .nameAndType 34 35), (0, u "length"), (0, u "()I"), (0, .class_ 37), (0, u "java/lang/Integer"), (1, .integer 2147483647), (0, .methodref 1 41), (0, .nameAndType 24 42), (0, u "()B"), (2, u "append"), (0, u "(Ljava/lang/String;)Ljava/lang/AbstractStringBuilder;"), (1, .class_ 49), (0, u "java/lang/CharSequence"), (19, u "(Ljava/lang/String;)V"), (5, u "maybeLatin1"), (3, .fieldref 10 80), (0, .nameAndType 81 82), (0, u "count"), (0, u "I"), (0, .methodref 10 84), (0, .nameAndType 85 86), (0, u "isLatin1"), (0, u "()Z"), (13, .methodref 10 101), (0, .nameAndType 102 103), (0, u "ensureCapacityInternal"), (0, u "(I)V"), (0, .methodref 10 105), (0, .nameAndType 106 107), (0, u "newCapacity"), (0, u "(I)I"), (0, .methodref 109 110), (0, .class_ 111), (0, .nameAndType 112 113), (0, u "java/util/Arrays"), (0, u "copyOf"), (0, u "([BI)[B"), (0, .methodref 115 116), (0, .class_ 117), (0, .nameAndType 118 119), (0, u "jdk/internal/util/ArraysSupport"), (0, u "newLength"), (0, u "(III)I"), (68, u "getChars"), (19, .methodref 10 209), (0, .nameAndType 210 211), (0, u "putStringAt"), (0, u "(ILjava/lang/String;)V"), (5, u "inflateIfNeededFor"), (2, .nameAndType 221 222), (0, u "getBytes"), (0, u "([BIB)V"), (22, .methodref 36 246), (0, .nameAndType 247 107), (0, u "stringSize"), (0, .methodref 36 249), (0, .nameAndType 188 250), (0, u "(II[B)I"), (146, .methodref 10 398), (0, .nameAndType 217 69), (0, .methodref 1 220), (3, u "()[B"), (40, .class_ 445), (0, u "java/lang/Appendable"), (65, u "(I)Ljava/lang/AbstractStringBuilder;"), (40, u "getValue")] 56

def k7m0 : Method := { name := "<init>", desc := "()V", sig := { parameters := [], returnType := none }, accessFlags := 0, code := none }
def k7c1 : Code := { maxStack := 2, maxLocals := 2, code := jdk_68_method_2_code, exceptionTable := #[], attributes := #[] }
def k7m1 : Method := { name := "<init>", desc := "(I)V", sig := { parameters := [.int], returnType := none }, accessFlags := 0, code := some k7c1 }
def k7c2 : Code := { maxStack := 1, maxLocals := 1, code := jdk_68_method_6_code, exceptionTable := #[], attributes := #[] }
def k7m2 : Method := { name := "length", desc := "()I", sig := { parameters := [], returnType := some .int }, accessFlags := 1, code := some k7c2 }
def k7c3 : Code := { maxStack := 4, maxLocals := 3, code := jdk_68_method_9_code, exceptionTable := #[], attributes := #[] }
def k7m3 : Method := { name := "ensureCapacityInternal", desc := "(I)V", sig := { parameters := [.int], returnType := none }, accessFlags := 2, code := some k7c3 }
def k7c4 : Code := { maxStack := 5, maxLocals := 6, code := jdk_68_method_10_code, exceptionTable := #[], attributes := #[] }
def k7m4 : Method := { name := "newCapacity", desc := "(I)I", sig := { parameters := [.int], returnType := some .int }, accessFlags := 2, code := some k7c4 }
def k7c5 : Code := { maxStack := 3, maxLocals := 3, code := jdk_68_method_22_code, exceptionTable := #[], attributes := #[] }
def k7m5 : Method := { name := "append", desc := "(Ljava/lang/String;)Ljava/lang/AbstractStringBuilder;", sig := { parameters := [(.object "java/lang/String")], returnType := some (.object "java/lang/AbstractStringBuilder") }, accessFlags := 1, code := some k7c5 }
def k7c6 : Code := { maxStack := 4, maxLocals := 4, code := jdk_68_method_32_code, exceptionTable := #[], attributes := #[] }
def k7m6 : Method := { name := "append", desc := "(I)Ljava/lang/AbstractStringBuilder;", sig := { parameters := [.int], returnType := some (.object "java/lang/AbstractStringBuilder") }, accessFlags := 1, code := some k7c6 }
def k7c7 : Code := { maxStack := 1, maxLocals := 1, code := jdk_68_method_64_code, exceptionTable := #[], attributes := #[] }
def k7m7 : Method := { name := "getValue", desc := "()[B", sig := { parameters := [], returnType := some (.array .byte) }, accessFlags := 16, code := some k7c7 }
def k7c8 : Code := { maxStack := 1, maxLocals := 1, code := jdk_68_method_68_code, exceptionTable := #[], attributes := #[] }
def k7m8 : Method := { name := "isLatin1", desc := "()Z", sig := { parameters := [], returnType := some .boolean }, accessFlags := 16, code := some k7c8 }
def k7c9 : Code := { maxStack := 2, maxLocals := 2, code := jdk_68_method_71_code, exceptionTable := #[], attributes := #[] }
def k7m9 : Method := { name := "inflateIfNeededFor", desc := "(Ljava/lang/String;)V", sig := { parameters := [(.object "java/lang/String")], returnType := none }, accessFlags := 2, code := some k7c9 }
def k7c10 : Code := { maxStack := 4, maxLocals := 3, code := jdk_68_method_73_code, exceptionTable := #[], attributes := #[] }
def k7m10 : Method := { name := "putStringAt", desc := "(ILjava/lang/String;)V", sig := { parameters := [.int, (.object "java/lang/String")], returnType := none }, accessFlags := 2, code := some k7c10 }
/-- java/lang/AbstractStringBuilder -/
def k7 : Class := { plain "java/lang/AbstractStringBuilder" (some 0) with
  accessFlags := 1056
  interfaces := #[5, 6]
  cf := some (fileOf pool7 10 #[] #[{ accessFlags := 0, nameIndex := 7, descriptorIndex := 8, attributes := #[] }, { accessFlags := 0, nameIndex := 7, descriptorIndex := 103, attributes := #[] }, { accessFlags := 1, nameIndex := 34, descriptorIndex := 35, attributes := #[] }, { accessFlags := 2, nameIndex := 102, descriptorIndex := 103, attributes := #[] }, { accessFlags := 2, nameIndex := 106, descriptorIndex := 107, attributes := #[] }, { accessFlags := 1, nameIndex := 45, descriptorIndex := 46, attributes := #[] }, { accessFlags := 1, nameIndex := 45, descriptorIndex := 511, attributes := #[] }, { accessFlags := 16, nameIndex := 552, descriptorIndex := 403, attributes := #[] }, { accessFlags := 16, nameIndex := 85, descriptorIndex := 86, attributes := #[] }, { accessFlags := 2, nameIndex := 217, descriptorIndex := 69, attributes := #[] }, { accessFlags := 2, nameIndex := 210, descriptorIndex := 211, attributes := #[] }] 1056 4 #[444, 48] #[{ accessFlags := 0, nameIndex := 17, descriptorIndex := 14, attributes := #[] }, { accessFlags := 0, nameIndex := 24, descriptorIndex := 25, attributes := #[] }, { accessFlags := 0, nameIndex := 75, descriptorIndex := 21, attributes := #[] }, { accessFlags := 0, nameIndex := 81, descriptorIndex := 82, attributes := #[] }, { accessFlags := 26, nameIndex := 13, descriptorIndex := 14, attributes := #[] }])
  fields := #[{ name := "value", type := (.array .byte), accessFlags := 0, slot := 0, constantValue := 0 }, { name := "coder", type := .byte, accessFlags := 0, slot := 1, constantValue := 0 }, { name := "maybeLatin1", type := .boolean, accessFlags := 0, slot := 2, constantValue := 0 }, { name := "count", type := .int, accessFlags := 0, slot := 3, constantValue := 0 }, { name := "EMPTYVALUE", type := (.array .byte), accessFlags := 26, slot := 0, constantValue := 0 }]
  methods := #[k7m0, k7m1, k7m2, k7m3, k7m4, k7m5, k7m6, k7m7, k7m8, k7m9, k7m10]
  instanceTypes := #[(.array .byte), .byte, .boolean, .int]
  staticTypes := #[(.array .byte)]
  resolved := Array.replicate 609 none
  statics := none }

def pool8 : Array CpInfo := pool [(1, .class_ 2), (0, u "java/io/Serializable"), (0, .class_ 4), (0, u "java/lang/Object")] 2

/-- java/io/Serializable -/
def k8 : Class := { plain "java/io/Serializable" (some 0) with
  accessFlags := 1537
  interfaces := #[]
  cf := some (fileOf pool8 1 #[] #[] 1537 3 #[] #[])
  fields := #[]
  methods := #[]
  instanceTypes := #[]
  staticTypes := #[]
  resolved := Array.replicate 7 none
  statics := none }

def pool9 : Array CpInfo := pool [(1, .class_ 2), (0, u "java/lang/Comparable"), (0, .class_ 4), (0, u "java/lang/Object")] 7

/-- java/lang/Comparable -/
def k9 : Class := { plain "java/lang/Comparable" (some 0) with
  accessFlags := 1537
  interfaces := #[]
  cf := some (fileOf pool9 1 #[] #[] 1537 3 #[] #[])
  fields := #[]
  methods := #[]
  instanceTypes := #[]
  staticTypes := #[]
  resolved := Array.replicate 12 none
  statics := none }

def pool10 : Array CpInfo := pool [(1, .methodref 2 3), (0, .class_ 4), (0, .nameAndType 5 6), (0, u "java/lang/AbstractStringBuilder"), (0, u "<init>"), (0, u "(I)V"), (11, .class_ 20), (1, u "java/lang/String"), (3, .class_ 26), (1, u "java/lang/StringBuilder"), (0, u "append"), (0, u "(Ljava/lang/String;)Ljava/lang/StringBuilder;"), (0, .methodref 2 30), (0, .nameAndType 27 31), (0, u "(Ljava/lang/String;)Ljava/lang/AbstractStringBuilder;"), (21, .methodref 2 54), (0, .nameAndType 27 55), (0, u "(I)Ljava/lang/AbstractStringBuilder;"), (81, .methodref 18 138), (0, .nameAndType 5 139), (0, u "(Ljava/lang/StringBuilder;)V"), (5, u "()V"), (10, u "()I"), (111, u "(I)Ljava/lang/StringBuilder;"), (74, .methodref 2 344), (0, .nameAndType 345 156), (0, u "length"), (3, .class_ 350), (0, u "java/lang/Appendable"), (0, .class_ 352), (0, u "java/io/Serializable"), (0, .class_ 354), (0, u "java/lang/Comparable"), (0, .class_ 356), (0, u "java/lang/CharSequence"), (0, u "serialVersionUID"), (0, u "J"), (40, u "toString"), (0, u "()Ljava/lang/String;")] 21

def k10c0 : Code := { maxStack := 2, maxLocals := 1, code := jdk_67_method_1_code, exceptionTable := #[], attributes := #[] }
def k10m0 : Method := { name := "<init>", desc := "()V", sig := { parameters := [], returnType := none }, accessFlags := 1, code := some k10c0 }
def k10c1 : Code := { maxStack := 2, maxLocals := 2, code := jdk_67_method_7_code, exceptionTable := #[], attributes := #[] }
def k10m1 : Method := { name := "append", desc := "(Ljava/lang/String;)Ljava/lang/StringBuilder;", sig := { parameters := [(.object "java/lang/String")], returnType := some (.object "java/lang/StringBuilder") }, accessFlags := 1, code := some k10c1 }
def k10c2 : Code := { maxStack := 2, maxLocals := 2, code := jdk_67_method_15_code, exceptionTable := #[], attributes := #[] }
def k10m2 : Method := { name := "append", desc := "(I)Ljava/lang/StringBuilder;", sig := { parameters := [.int], returnType := some (.object "java/lang/StringBuilder") }, accessFlags := 1, code := some k10c2 }
def k10c3 : Code := { maxStack := 3, maxLocals := 1, code := jdk_67_method_42_code, exceptionTable := #[], attributes := #[] }
def k10m3 : Method := { name := "toString", desc := "()Ljava/lang/String;", sig := { parameters := [], returnType := some (.object "java/lang/String") }, accessFlags := 1, code := some k10c3 }
def k10c4 : Code := { maxStack := 1, maxLocals := 1, code := jdk_67_method_93_code, exceptionTable := #[], attributes := #[] }
def k10m4 : Method := { name := "length", desc := "()I", sig := { parameters := [], returnType := some .int }, accessFlags := 4161, code := some k10c4 }
/-- java/lang/StringBuilder -/
def k10 : Class := { plain "java/lang/StringBuilder" (some 7) with
  accessFlags := 49
  interfaces := #[5, 8, 9, 6]
  cf := some (fileOf pool10 24 #[] #[{ accessFlags := 1, nameIndex := 5, descriptorIndex := 145, attributes := #[] }, { accessFlags := 1, nameIndex := 27, descriptorIndex := 28, attributes := #[] }, { accessFlags := 1, nameIndex := 27, descriptorIndex := 268, attributes := #[] }, { accessFlags := 1, nameIndex := 399, descriptorIndex := 400, attributes := #[] }, { accessFlags := 4161, nameIndex := 345, descriptorIndex := 156, attributes := #[] }] 49 2 #[349, 351, 353, 355] #[{ accessFlags := 24, nameIndex := 357, descriptorIndex := 358, attributes := #[] }])
  fields := #[{ name := "serialVersionUID", type := .long, accessFlags := 24, slot := 0, constantValue := 0 }]
  methods := #[k10m0, k10m1, k10m2, k10m3, k10m4]
  instanceTypes := #[(.array .byte), .byte, .boolean, .int]
  staticTypes := #[.long]
  resolved := Array.replicate 422 none
  statics := none }

def pool11 : Array CpInfo := pool [(1, .class_ 2), (0, u "java/lang/constant/Constable"), (0, .class_ 4), (0, u "java/lang/Object")] 6

/-- java/lang/constant/Constable -/
def k11 : Class := { plain "java/lang/constant/Constable" (some 0) with
  accessFlags := 1537
  interfaces := #[]
  cf := some (fileOf pool11 1 #[] #[] 1537 3 #[] #[])
  fields := #[]
  methods := #[]
  instanceTypes := #[]
  staticTypes := #[]
  resolved := Array.replicate 11 none
  statics := none }

def pool12 : Array CpInfo := pool [(1, .class_ 2), (0, u "java/lang/constant/ConstantDesc"), (0, .class_ 4), (0, u "java/lang/Object")] 32

/-- java/lang/constant/ConstantDesc -/
def k12 : Class := { plain "java/lang/constant/ConstantDesc" (some 0) with
  accessFlags := 1537
  interfaces := #[]
  cf := some (fileOf pool12 1 #[] #[] 1537 3 #[] #[])
  fields := #[]
  methods := #[]
  instanceTypes := #[]
  staticTypes := #[]
  resolved := Array.replicate 37 none
  statics := none }

def pool13 : Array CpInfo := pool [(1, .methodref 2 3), (0, .class_ 4), (0, .nameAndType 5 6), (0, u "java/lang/Object"), (0, u "<init>"), (0, u "()V"), (2, .fieldref 10 11), (0, .class_ 12), (0, .nameAndType 13 14), (0, u "java/lang/String"), (0, u "value"), (0, u "[B"), (0, .fieldref 10 16), (0, .nameAndType 17 18), (0, u "coder"), (0, u "B"), (2, u "hash"), (0, u "I"), (2, u "hashIsZero"), (0, u "Z"), (0, .methodref 10 28), (0, .nameAndType 5 29), (0, u "([CIILjava/lang/Void;)V"), (8, .fieldref 10 39), (0, .nameAndType 40 26), (0, u "COMPACT_STRINGS"), (1, .class_ 44), (1, u "java/lang/StringUTF16"), (0, u "compress"), (1, .methodref 42 48), (0, .nameAndType 49 50), (0, u "coderFromArrayLen"), (0, u "([BI)B"), (3, .methodref 55 56), (0, .class_ 57), (0, .nameAndType 58 59), (0, u "java/util/Arrays"), (0, u "copyOfRange"), (0, u "([BII)[B"), (47, .class_ 109), (1, u "java/lang/StringLatin1"), (32, u "()Z"), (34, .methodref 42 178), (0, .nameAndType 45 179), (0, u "([CII)[B"), (13, .class_ 195), (1, u "java/lang/System"), (16, .methodref 193 213), (0, .nameAndType 214 215), (0, u "arraycopy"), (0, u "(Ljava/lang/Object;ILjava/lang/Object;II)V"), (118, u "()I"), (0, .methodref 10 336), (0, .nameAndType 17 337), (0, u "()B"), (2, u "()[B"), (148, .methodref 10 490), (0, .nameAndType 5 491), (0, u "(Ljava/lang/AbstractStringBuilder;Ljava/lang/Void;)V"), (1, .nameAndType 494 142), (0, u "isLatin1"), (11, .nameAndType 507 334), (0, u "length"), (24, u "getBytes"), (8, .methodref 107 542), (0, .nameAndType 543 544), (0, u "equals"), (0, u "([B[B)Z"), (4, .methodref 550 506), (0, .class_ 551), (0, u "java/lang/AbstractStringBuilder"), (0, .methodref 550 553), (0, .nameAndType 554 340), (0, u "getValue"), (18, u "(Ljava/lang/Object;)Z"), (1, .class_ 576), (0, u "java/lang/CharSequence"), (22, u "CASE_INSENSITIVE_ORDER"), (0, u "Ljava/util/Comparator;"), (220, u "([BIB)V"), (188, u "([C)V"), (36, .methodref 550 493), (53, u "serialPersistentFields"), (0, u "[Ljava/io/ObjectStreamField;"), (0, .class_ 1104), (0, u "java/lang/String$CaseInsensitiveComparator"), (1, .class_ 1107), (0, u "java/io/Serializable"), (0, .class_ 1109), (0, u "java/lang/Comparable"), (0, .class_ 1111), (0, u "java/lang/constant/Constable"), (0, .class_ 1113), (0, u "java/lang/constant/ConstantDesc"), (2, u "serialVersionUID"), (0, u "J"), (3, u "REPL"), (0, u "C"), (2, u "LATIN1"), (1, u "UTF16"), (105, u "(Ljava/lang/StringBuilder;)V")] 217

def k13m0 : Method := { name := "<init>", desc := "()V", sig := { parameters := [], returnType := none }, accessFlags := 1, code := none }
def k13c1 : Code := { maxStack := 5, maxLocals := 2, code := jdk_42_method_3_code, exceptionTable := #[], attributes := #[] }
def k13m1 : Method := { name := "<init>", desc := "([C)V", sig := { parameters := [(.array .char)], returnType := none }, accessFlags := 1, code := some k13c1 }
def k13c2 : Code := { maxStack := 3, maxLocals := 2, code := jdk_42_method_53_code, exceptionTable := #[], attributes := #[] }
def k13m2 : Method := { name := "<init>", desc := "(Ljava/lang/StringBuilder;)V", sig := { parameters := [(.object "java/lang/StringBuilder")], returnType := none }, accessFlags := 1, code := some k13c2 }
def k13c3 : Code := { maxStack := 2, maxLocals := 1, code := jdk_42_method_54_code, exceptionTable := #[], attributes := #[] }
def k13m3 : Method := { name := "length", desc := "()I", sig := { parameters := [], returnType := some .int }, accessFlags := 1, code := some k13c3 }
def k13c4 : Code := { maxStack := 2, maxLocals := 3, code := jdk_42_method_66_code, exceptionTable := #[], attributes := #[] }
def k13m4 : Method := { name := "equals", desc := "(Ljava/lang/Object;)Z", sig := { parameters := [(.object "java/lang/Object")], returnType := some .boolean }, accessFlags := 1, code := some k13c4 }
def k13c5 : Code := { maxStack := 5, maxLocals := 4, code := jdk_42_method_147_code, exceptionTable := #[], attributes := #[] }
def k13m5 : Method := { name := "getBytes", desc := "([BIB)V", sig := { parameters := [(.array .byte), .int, .byte], returnType := none }, accessFlags := 0, code := some k13c5 }
def k13c6 : Code := { maxStack := 4, maxLocals := 6, code := jdk_42_method_149_code, exceptionTable := #[], attributes := #[] }
def k13m6 : Method := { name := "<init>", desc := "([CIILjava/lang/Void;)V", sig := { parameters := [(.array .char), .int, .int, (.object "java/lang/Void")], returnType := none }, accessFlags := 2, code := some k13c6 }
def k13c7 : Code := { maxStack := 5, maxLocals := 5, code := jdk_42_method_150_code, exceptionTable := #[], attributes := #[] }
def k13m7 : Method := { name := "<init>", desc := "(Ljava/lang/AbstractStringBuilder;Ljava/lang/Void;)V", sig := { parameters := [(.object "java/lang/AbstractStringBuilder"), (.object "java/lang/Void")], returnType := none }, accessFlags := 0, code := some k13c7 }
def k13c8 : Code := { maxStack := 1, maxLocals := 1, code := jdk_42_method_152_code, exceptionTable := #[], attributes := #[] }
def k13m8 : Method := { name := "coder", desc := "()B", sig := { parameters := [], returnType := some .byte }, accessFlags := 0, code := some k13c8 }
/-- java/lang/String -/
def k13 : Class := { plain "java/lang/String" (some 0) with
  accessFlags := 49
  interfaces := #[8, 9, 6, 11, 12]
  cf := some (fileOf pool13 10 #[.nestMembers #[1103]] #[{ accessFlags := 1, nameIndex := 5, descriptorIndex := 6, attributes := #[] }, { accessFlags := 1, nameIndex := 5, descriptorIndex := 1010, attributes := #[] }, { accessFlags := 1, nameIndex := 5, descriptorIndex := 1233, attributes := #[] }, { accessFlags := 1, nameIndex := 507, descriptorIndex := 334, attributes := #[] }, { accessFlags := 1, nameIndex := 543, descriptorIndex := 573, attributes := #[] }, { accessFlags := 0, nameIndex := 532, descriptorIndex := 821, attributes := #[] }, { accessFlags := 2, nameIndex := 5, descriptorIndex := 29, attributes := #[] }, { accessFlags := 0, nameIndex := 5, descriptorIndex := 491, attributes := #[] }, { accessFlags := 0, nameIndex := 17, descriptorIndex := 337, attributes := #[] }] 49 2 #[1106, 1108, 575, 1110, 1112] #[{ accessFlags := 18, nameIndex := 13, descriptorIndex := 14, attributes := #[] }, { accessFlags := 18, nameIndex := 17, descriptorIndex := 18, attributes := #[] }, { accessFlags := 2, nameIndex := 21, descriptorIndex := 22, attributes := #[] }, { accessFlags := 2, nameIndex := 25, descriptorIndex := 26, attributes := #[] }, { accessFlags := 26, nameIndex := 1116, descriptorIndex := 1117, attributes := #[] }, { accessFlags := 24, nameIndex := 40, descriptorIndex := 26, attributes := #[] }, { accessFlags := 26, nameIndex := 1101, descriptorIndex := 1102, attributes := #[] }, { accessFlags := 26, nameIndex := 1121, descriptorIndex := 1122, attributes := #[] }, { accessFlags := 25, nameIndex := 599, descriptorIndex := 600, attributes := #[] }, { accessFlags := 24, nameIndex := 1125, descriptorIndex := 18, attributes := #[] }, { accessFlags := 24, nameIndex := 1127, descriptorIndex := 18, attributes := #[] }])
  fields := #[{ name := "value", type := (.array .byte), accessFlags := 18, slot := 0, constantValue := 0 }, { name := "coder", type := .byte, accessFlags := 18, slot := 1, constantValue := 0 }, { name := "hash", type := .int, accessFlags := 2, slot := 2, constantValue := 0 }, { name := "hashIsZero", type := .boolean, accessFlags := 2, slot := 3, constantValue := 0 }, { name := "serialVersionUID", type := .long, accessFlags := 26, slot := 0, constantValue := 0 }, { name := "COMPACT_STRINGS", type := .boolean, accessFlags := 24, slot := 1, constantValue := 0 }, { name := "serialPersistentFields", type := (.array (.object "java/io/ObjectStreamField")), accessFlags := 26, slot := 2, constantValue := 0 }, { name := "REPL", type := .char, accessFlags := 26, slot := 3, constantValue := 0 }, { name := "CASE_INSENSITIVE_ORDER", type := (.object "java/util/Comparator"), accessFlags := 25, slot := 4, constantValue := 0 }, { name := "LATIN1", type := .byte, accessFlags := 24, slot := 5, constantValue := 0 }, { name := "UTF16", type := .byte, accessFlags := 24, slot := 6, constantValue := 0 }]
  methods := #[k13m0, k13m1, k13m2, k13m3, k13m4, k13m5, k13m6, k13m7, k13m8]
  instanceTypes := #[(.array .byte), .byte, .int, .boolean]
  staticTypes := #[.long, .boolean, (.array (.object "java/io/ObjectStreamField")), .char, (.object "java/util/Comparator"), .byte, .byte]
  resolved := Array.replicate 1451 none
  statics := some 0 }

def pool14 : Array CpInfo := pool [(9, u "<init>"), (6, .class_ 18), (1, u "java/lang/Object"), (0, u "()V"), (1, .class_ 23), (1, u "jdk/internal/util/ArraysSupport"), (0, u "LOG2_ARRAY_LONG_INDEX_SCALE"), (0, u "I"), (2, u "U"), (0, u "Ljdk/internal/misc/Unsafe;"), (8, u "BIG_ENDIAN"), (0, u "Z"), (8, u "LOG2_BYTE_BIT_SIZE"), (4, u "LOG2_ARRAY_INT_INDEX_SCALE"), (54, u "JLA"), (0, u "Ljdk/internal/access/JavaLangAccess;"), (11, u "LOG2_ARRAY_BOOLEAN_INDEX_SCALE"), (9, u "LOG2_ARRAY_BYTE_INDEX_SCALE"), (5, u "LOG2_ARRAY_CHAR_INDEX_SCALE"), (5, u "LOG2_ARRAY_SHORT_INDEX_SCALE"), (18, u "LOG2_ARRAY_FLOAT_INDEX_SCALE"), (24, u "LOG2_ARRAY_DOUBLE_INDEX_SCALE"), (6, .methodref 195 196), (0, .class_ 197), (0, .nameAndType 198 199), (0, u "java/lang/Math"), (0, u "max"), (0, u "(II)I"), (0, .integer 2147483639), (76, u "T_BOOLEAN"), (2, u "T_CHAR"), (1, u "T_FLOAT"), (1, u "T_DOUBLE"), (1, u "T_BYTE"), (1, u "T_SHORT"), (1, u "T_INT"), (1, u "T_LONG"), (1, u "SOFT_MAX_ARRAY_LENGTH"), (56, u "newLength"), (0, u "(III)I")] 25

def k14m0 : Method := { name := "<init>", desc := "()V", sig := { parameters := [], returnType := none }, accessFlags := 2, code := none }
def k14c1 : Code := { maxStack := 3, maxLocals := 4, code := jdk_48_method_27_code, exceptionTable := #[], attributes := #[] }
def k14m1 : Method := { name := "newLength", desc := "(III)I", sig := { parameters := [.int, .int, .int], returnType := some .int }, accessFlags := 9, code := some k14c1 }
/-- jdk/internal/util/ArraysSupport -/
def k14 : Class := { plain "jdk/internal/util/ArraysSupport" (some 0) with
  accessFlags := 33
  interfaces := #[]
  cf := some (fileOf pool14 21 #[] #[{ accessFlags := 2, nameIndex := 9, descriptorIndex := 19, attributes := #[] }, { accessFlags := 9, nameIndex := 351, descriptorIndex := 352, attributes := #[] }] 33 16 #[] #[{ accessFlags := 24, nameIndex := 28, descriptorIndex := 29, attributes := #[] }, { accessFlags := 26, nameIndex := 38, descriptorIndex := 39, attributes := #[] }, { accessFlags := 25, nameIndex := 121, descriptorIndex := 25, attributes := #[] }, { accessFlags := 25, nameIndex := 131, descriptorIndex := 25, attributes := #[] }, { accessFlags := 25, nameIndex := 137, descriptorIndex := 25, attributes := #[] }, { accessFlags := 25, nameIndex := 143, descriptorIndex := 25, attributes := #[] }, { accessFlags := 25, nameIndex := 53, descriptorIndex := 25, attributes := #[] }, { accessFlags := 25, nameIndex := 24, descriptorIndex := 25, attributes := #[] }, { accessFlags := 25, nameIndex := 162, descriptorIndex := 25, attributes := #[] }, { accessFlags := 25, nameIndex := 187, descriptorIndex := 25, attributes := #[] }, { accessFlags := 26, nameIndex := 48, descriptorIndex := 25, attributes := #[] }, { accessFlags := 25, nameIndex := 277, descriptorIndex := 25, attributes := #[] }, { accessFlags := 25, nameIndex := 280, descriptorIndex := 25, attributes := #[] }, { accessFlags := 25, nameIndex := 282, descriptorIndex := 25, attributes := #[] }, { accessFlags := 25, nameIndex := 284, descriptorIndex := 25, attributes := #[] }, { accessFlags := 25, nameIndex := 286, descriptorIndex := 25, attributes := #[] }, { accessFlags := 25, nameIndex := 288, descriptorIndex := 25, attributes := #[] }, { accessFlags := 25, nameIndex := 290, descriptorIndex := 25, attributes := #[] }, { accessFlags := 25, nameIndex := 292, descriptorIndex := 25, attributes := #[] }, { accessFlags := 26, nameIndex := 108, descriptorIndex := 109, attributes := #[] }, { accessFlags := 25, nameIndex := 294, descriptorIndex := 25, attributes := #[] }])
  fields := #[{ name := "U", type := (.object "jdk/internal/misc/Unsafe"), accessFlags := 24, slot := 0, constantValue := 0 }, { name := "BIG_ENDIAN", type := .boolean, accessFlags := 26, slot := 1, constantValue := 0 }, { name := "LOG2_ARRAY_BOOLEAN_INDEX_SCALE", type := .int, accessFlags := 25, slot := 2, constantValue := 0 }, { name := "LOG2_ARRAY_BYTE_INDEX_SCALE", type := .int, accessFlags := 25, slot := 3, constantValue := 0 }, { name := "LOG2_ARRAY_CHAR_INDEX_SCALE", type := .int, accessFlags := 25, slot := 4, constantValue := 0 }, { name := "LOG2_ARRAY_SHORT_INDEX_SCALE", type := .int, accessFlags := 25, slot := 5, constantValue := 0 }, { name := "LOG2_ARRAY_INT_INDEX_SCALE", type := .int, accessFlags := 25, slot := 6, constantValue := 0 }, { name := "LOG2_ARRAY_LONG_INDEX_SCALE", type := .int, accessFlags := 25, slot := 7, constantValue := 0 }, { name := "LOG2_ARRAY_FLOAT_INDEX_SCALE", type := .int, accessFlags := 25, slot := 8, constantValue := 0 }, { name := "LOG2_ARRAY_DOUBLE_INDEX_SCALE", type := .int, accessFlags := 25, slot := 9, constantValue := 0 }, { name := "LOG2_BYTE_BIT_SIZE", type := .int, accessFlags := 26, slot := 10, constantValue := 0 }, { name := "T_BOOLEAN", type := .int, accessFlags := 25, slot := 11, constantValue := 0 }, { name := "T_CHAR", type := .int, accessFlags := 25, slot := 12, constantValue := 0 }, { name := "T_FLOAT", type := .int, accessFlags := 25, slot := 13, constantValue := 0 }, { name := "T_DOUBLE", type := .int, accessFlags := 25, slot := 14, constantValue := 0 }, { name := "T_BYTE", type := .int, accessFlags := 25, slot := 15, constantValue := 0 }, { name := "T_SHORT", type := .int, accessFlags := 25, slot := 16, constantValue := 0 }, { name := "T_INT", type := .int, accessFlags := 25, slot := 17, constantValue := 0 }, { name := "T_LONG", type := .int, accessFlags := 25, slot := 18, constantValue := 0 }, { name := "JLA", type := (.object "jdk/internal/access/JavaLangAccess"), accessFlags := 26, slot := 19, constantValue := 0 }, { name := "SOFT_MAX_ARRAY_LENGTH", type := .int, accessFlags := 25, slot := 20, constantValue := 0 }]
  methods := #[k14m0, k14m1]
  instanceTypes := #[]
  staticTypes := #[(.object "jdk/internal/misc/Unsafe"), .boolean, .int, .int, .int, .int, .int, .int, .int, .int, .int, .int, .int, .int, .int, .int, .int, .int, .int, (.object "jdk/internal/access/JavaLangAccess"), .int]
  resolved := Array.replicate 378 none
  statics := none }

def pool15 : Array CpInfo := pool [(2, .class_ 4), (1, u "java/lang/Object"), (0, u "<init>"), (0, u "()V"), (7, .class_ 16), (1, u "java/util/Arrays"), (57, .class_ 76), (1, u "java/util/Arrays$NaturalOrder"), (32, u "()Ljava/lang/Object;"), (3, .class_ 115), (1, u "java/util/Arrays$LegacyMergeSort"), (1, u "Z"), (10, .nameAndType 129 109), (0, u "clone"), (9, u "copyOfRange"), (10, .methodref 151 152), (0, .class_ 153), (0, .nameAndType 154 155), (0, u "java/lang/System"), (0, u "arraycopy"), (0, u "(Ljava/lang/Object;ILjava/lang/Object;II)V"), (146, u "copyOf"), (1, .methodref 305 306), (0, .class_ 307), (0, .nameAndType 308 309), (0, u "java/lang/Math"), (0, u "min"), (0, u "(II)I"), (0, .methodref 311 128), (0, .class_ 312), (0, u "[B"), (26, .methodref 14 340), (0, .nameAndType 341 342), (0, u "copyOfRangeByte"), (0, u "([BII)[B"), (0, .methodref 14 344), (0, .nameAndType 345 346), (0, u "checkLength"), (0, u "(II)V"), (28, .class_ 376), (0, u "java/util/Arrays$ArrayList"), (68, u "$assertionsDisabled"), (269, u "MIN_ARRAY_SORT_GRAN"), (0, u "I"), (2, u "INSERTIONSORT_THRESHOLD"), (149, u "([BI)[B"), (105, .class_ 976), (0, u "java/util/Arrays$ArrayItr")] 52

def k15m0 : Method := { name := "<init>", desc := "()V", sig := { parameters := [], returnType := none }, accessFlags := 2, code := none }
def k15c1 : Code := { maxStack := 6, maxLocals := 3, code := jdk_65_method_121_code, exceptionTable := #[], attributes := #[] }
def k15m1 : Method := { name := "copyOf", desc := "([BI)[B", sig := { parameters := [(.array .byte), .int], returnType := some (.array .byte) }, accessFlags := 9, code := some k15c1 }
def k15c2 : Code := { maxStack := 4, maxLocals := 2, code := jdk_65_method_131_code, exceptionTable := #[], attributes := #[] }
def k15m2 : Method := { name := "checkLength", desc := "(II)V", sig := { parameters := [.int, .int], returnType := none }, accessFlags := 10, code := some k15c2 }
def k15c3 : Code := { maxStack := 3, maxLocals := 3, code := jdk_65_method_132_code, exceptionTable := #[], attributes := #[] }
def k15m3 : Method := { name := "copyOfRange", desc := "([BII)[B", sig := { parameters := [(.array .byte), .int, .int], returnType := some (.array .byte) }, accessFlags := 9, code := some k15c3 }
def k15c4 : Code := { maxStack := 6, maxLocals := 5, code := jdk_65_method_133_code, exceptionTable := #[], attributes := #[] }
def k15m4 : Method := { name := "copyOfRangeByte", desc := "([BII)[B", sig := { parameters := [(.array .byte), .int, .int], returnType := some (.array .byte) }, accessFlags := 10, code := some k15c4 }
/-- java/util/Arrays -/
def k15 : Class := { plain "java/util/Arrays" (some 0) with
  accessFlags := 49
  interfaces := #[]
  cf := some (fileOf pool15 14 #[.nestMembers #[975, 375, 113, 74]] #[{ accessFlags := 2, nameIndex := 5, descriptorIndex := 6, attributes := #[] }, { accessFlags := 9, nameIndex := 302, descriptorIndex := 869, attributes := #[] }, { accessFlags := 10, nameIndex := 345, descriptorIndex := 346, attributes := #[] }, { accessFlags := 9, nameIndex := 139, descriptorIndex := 342, attributes := #[] }, { accessFlags := 10, nameIndex := 341, descriptorIndex := 342, attributes := #[] }] 49 2 #[] #[{ accessFlags := 26, nameIndex := 715, descriptorIndex := 716, attributes := #[] }, { accessFlags := 26, nameIndex := 719, descriptorIndex := 716, attributes := #[] }, { accessFlags := 4120, nameIndex := 445, descriptorIndex := 117, attributes := #[] }])
  fields := #[{ name := "MIN_ARRAY_SORT_GRAN", type := .int, accessFlags := 26, slot := 0, constantValue := 0 }, { name := "INSERTIONSORT_THRESHOLD", type := .int, accessFlags := 26, slot := 1, constantValue := 0 }, { name := "$assertionsDisabled", type := .boolean, accessFlags := 4120, slot := 2, constantValue := 0 }]
  methods := #[k15m0, k15m1, k15m2, k15m3, k15m4]
  instanceTypes := #[]
  staticTypes := #[.int, .int, .boolean]
  resolved := Array.replicate 1029 none
  statics := none }

def pool16 : Array CpInfo := pool [(2, .class_ 4), (1, u "java/lang/Object"), (0, u "<init>"), (0, u "()V"), (1, .class_ 10), (1, u "java/lang/System"), (0, u "allowSecurityManager"), (0, u "I"), (16, u "cons"), (0, u "Ljava/io/Console;"), (77, .class_ 110), (1, u "java/lang/System$CallersHolder"), (43, u "initialErrStream"), (0, u "Ljava/io/PrintStream;"), (19, u "security"), (0, u "Ljava/lang/SecurityManager;"), (31, .class_ 209), (0, u "java/lang/System$1"), (7, u "props"), (0, u "Ljava/util/Properties;"), (2, u "lineSeparator"), (0, u "Ljava/lang/String;"), (96, .class_ 321), (1, u "java/lang/System$LoggerFinder"), (5, .class_ 328), (0, u "java/lang/System$Logger"), (67, u "err"), (2, u "out"), (91, u "notSupportedJnuEncoding"), (15, u "in"), (17, u "initialIn"), (0, u "Ljava/io/InputStream;"), (35, u "bootLayer"), (0, u "Ljava/lang/ModuleLayer;"), (99, .class_ 664), (0, u "java/lang/System$2"), (9, u "NEVER"), (2, u "MAYBE"), (49, u "arraycopy"), (0, u "(Ljava/lang/Object;ILjava/lang/Object;II)V"), (72, .class_ 802), (0, u "java/lang/System$Logger$Level")] 31

def k16m0 : Method := { name := "<init>", desc := "()V", sig := { parameters := [], returnType := none }, accessFlags := 2, code := none }
def k16m1 : Method := { name := "arraycopy", desc := "(Ljava/lang/Object;ILjava/lang/Object;II)V", sig := { parameters := [(.object "java/lang/Object"), .int, (.object "java/lang/Object"), .int, .int], returnType := none }, accessFlags := 265, code := none }
/-- java/lang/System -/
def k16 : Class := { plain "java/lang/System" (some 0) with
  accessFlags := 49
  interfaces := #[]
  cf := some (fileOf pool16 8 #[.nestMembers #[319, 327, 801, 108, 663, 208]] #[{ accessFlags := 2, nameIndex := 5, descriptorIndex := 6, attributes := #[] }, { accessFlags := 265, nameIndex := 727, descriptorIndex := 728, attributes := #[] }] 49 2 #[] #[{ accessFlags := 25, nameIndex := 507, descriptorIndex := 526, attributes := #[] }, { accessFlags := 25, nameIndex := 399, descriptorIndex := 155, attributes := #[] }, { accessFlags := 25, nameIndex := 396, descriptorIndex := 155, attributes := #[] }, { accessFlags := 10, nameIndex := 525, descriptorIndex := 526, attributes := #[] }, { accessFlags := 26, nameIndex := 674, descriptorIndex := 12, attributes := #[] }, { accessFlags := 26, nameIndex := 677, descriptorIndex := 12, attributes := #[] }, { accessFlags := 10, nameIndex := 11, descriptorIndex := 12, attributes := #[] }, { accessFlags := 74, nameIndex := 175, descriptorIndex := 176, attributes := #[] }, { accessFlags := 10, nameIndex := 491, descriptorIndex := 222, attributes := #[] }, { accessFlags := 74, nameIndex := 29, descriptorIndex := 30, attributes := #[] }, { accessFlags := 74, nameIndex := 154, descriptorIndex := 155, attributes := #[] }, { accessFlags := 10, nameIndex := 217, descriptorIndex := 218, attributes := #[] }, { accessFlags := 10, nameIndex := 221, descriptorIndex := 222, attributes := #[] }, { accessFlags := 8, nameIndex := 562, descriptorIndex := 563, attributes := #[] }])
  fields := #[{ name := "in", type := (.object "java/io/InputStream"), accessFlags := 25, slot := 0, constantValue := 0 }, { name := "out", type := (.object "java/io/PrintStream"), accessFlags := 25, slot := 1, constantValue := 0 }, { name := "err", type := (.object "java/io/PrintStream"), accessFlags := 25, slot := 2, constantValue := 0 }, { name := "initialIn", type := (.object "java/io/InputStream"), accessFlags := 10, slot := 3, constantValue := 0 }, { name := "NEVER", type := .int, accessFlags := 26, slot := 4, constantValue := 0 }, { name := "MAYBE", type := .int, accessFlags := 26, slot := 5, constantValue := 0 }, { name := "allowSecurityManager", type := .int, accessFlags := 10, slot := 6, constantValue := 0 }, { name := "security", type := (.object "java/lang/SecurityManager"), accessFlags := 74, slot := 7, constantValue := 0 }, { name := "notSupportedJnuEncoding", type := (.object "java/lang/String"), accessFlags := 10, slot := 8, constantValue := 0 }, { name := "cons", type := (.object "java/io/Console"), accessFlags := 74, slot := 9, constantValue := 0 }, { name := "initialErrStream", type := (.object "java/io/PrintStream"), accessFlags := 74, slot := 10, constantValue := 0 }, { name := "props", type := (.object "java/util/Properties"), accessFlags := 10, slot := 11, constantValue := 0 }, { name := "lineSeparator", type := (.object "java/lang/String"), accessFlags := 10, slot := 12, constantValue := 0 }, { name := "bootLayer", type := (.object "java/lang/ModuleLayer"), accessFlags := 8, slot := 13, constantValue := 0 }]
  methods := #[k16m0, k16m1]
  instanceTypes := #[]
  staticTypes := #[(.object "java/io/InputStream"), (.object "java/io/PrintStream"), (.object "java/io/PrintStream"), (.object "java/io/InputStream"), .int, .int, .int, (.object "java/lang/SecurityManager"), (.object "java/lang/String"), (.object "java/io/Console"), (.object "java/io/PrintStream"), (.object "java/util/Properties"), (.object "java/lang/String"), (.object "java/lang/ModuleLayer")]
  resolved := Array.replicate 834 none
  statics := none }

def pool17 : Array CpInfo := pool [(2, .class_ 4), (1, u "java/lang/Object"), (0, u "<init>"), (0, u "()V"), (1, .class_ 10), (1, u "java/lang/Number"), (2, .class_ 14), (0, u "java/io/Serializable"), (0, u "serialVersionUID"), (0, u "J")] 20

def k17m0 : Method := { name := "<init>", desc := "()V", sig := { parameters := [], returnType := none }, accessFlags := 1, code := none }
/-- java/lang/Number -/
def k17 : Class := { plain "java/lang/Number" (some 0) with
  accessFlags := 1057
  interfaces := #[8]
  cf := some (fileOf pool17 8 #[] #[{ accessFlags := 1, nameIndex := 5, descriptorIndex := 6, attributes := #[] }] 1057 2 #[13] #[{ accessFlags := 26, nameIndex := 15, descriptorIndex := 16, attributes := #[] }])
  fields := #[{ name := "serialVersionUID", type := .long, accessFlags := 26, slot := 0, constantValue := 0 }]
  methods := #[k17m0]
  instanceTypes := #[]
  staticTypes := #[.long]
  resolved := Array.replicate 37 none
  statics := none }

def pool18 : Array CpInfo := pool [(1, .class_ 2), (0, u "java/lang/Integer"), (16, u "digits"), (0, u "[C"), (33, u "(I)I"), (19, u "stringSize"), (2, u "getChars"), (0, u "(II[B)I"), (4, .fieldref 1 84), (0, .nameAndType 85 86), (0, u "DigitOnes"), (0, u "[B"), (0, .fieldref 1 88), (0, .nameAndType 89 86), (0, u "DigitTens"), (99, .class_ 190), (0, u "java/lang/Integer$IntegerCache"), (3, u "I"), (8, .class_ 204), (0, u "java/lang/Number"), (2, u "value"), (94, u "TYPE"), (0, u "Ljava/lang/Class;"), (0, .class_ 305), (0, u "java/lang/Comparable"), (0, .class_ 307), (0, u "java/lang/constant/Constable"), (0, .class_ 309), (0, u "java/lang/constant/ConstantDesc"), (0, u "MIN_VALUE"), (1, u "MAX_VALUE"), (3, u "SIZE"), (1, u "BYTES"), (1, u "serialVersionUID"), (0, u "J")] 131

def k18c0 : Code := { maxStack := 4, maxLocals := 7, code := jdk_33_method_12_code, exceptionTable := #[], attributes := #[] }
def k18m0 : Method := { name := "getChars", desc := "(II[B)I", sig := { parameters := [.int, .int, (.array .byte)], returnType := some .int }, accessFlags := 8, code := some k18c0 }
def k18c1 : Code := { maxStack := 2, maxLocals := 4, code := jdk_33_method_13_code, exceptionTable := #[], attributes := #[] }
def k18m1 : Method := { name := "stringSize", desc := "(I)I", sig := { parameters := [.int], returnType := some .int }, accessFlags := 8, code := some k18c1 }
/-- java/lang/Integer -/
def k18 : Class := { plain "java/lang/Integer" (some 17) with
  accessFlags := 49
  interfaces := #[9, 11, 12]
  cf := some (fileOf pool18 1 #[.nestMembers #[189]] #[{ accessFlags := 8, nameIndex := 77, descriptorIndex := 78, attributes := #[] }, { accessFlags := 8, nameIndex := 74, descriptorIndex := 54, attributes := #[] }] 49 203 #[304, 306, 308] #[{ accessFlags := 25, nameIndex := 310, descriptorIndex := 194, attributes := #[] }, { accessFlags := 25, nameIndex := 312, descriptorIndex := 194, attributes := #[] }, { accessFlags := 25, nameIndex := 302, descriptorIndex := 303, attributes := #[] }, { accessFlags := 24, nameIndex := 19, descriptorIndex := 20, attributes := #[] }, { accessFlags := 24, nameIndex := 89, descriptorIndex := 86, attributes := #[] }, { accessFlags := 24, nameIndex := 85, descriptorIndex := 86, attributes := #[] }, { accessFlags := 18, nameIndex := 207, descriptorIndex := 194, attributes := #[] }, { accessFlags := 25, nameIndex := 316, descriptorIndex := 194, attributes := #[] }, { accessFlags := 25, nameIndex := 318, descriptorIndex := 194, attributes := #[] }, { accessFlags := 26, nameIndex := 320, descriptorIndex := 321, attributes := #[] }])
  fields := #[{ name := "MIN_VALUE", type := .int, accessFlags := 25, slot := 0, constantValue := 0 }, { name := "MAX_VALUE", type := .int, accessFlags := 25, slot := 1, constantValue := 0 }, { name := "TYPE", type := (.object "java/lang/Class"), accessFlags := 25, slot := 2, constantValue := 0 }, { name := "digits", type := (.array .char), accessFlags := 24, slot := 3, constantValue := 0 }, { name := "DigitTens", type := (.array .byte), accessFlags := 24, slot := 4, constantValue := 0 }, { name := "DigitOnes", type := (.array .byte), accessFlags := 24, slot := 5, constantValue := 0 }, { name := "value", type := .int, accessFlags := 18, slot := 0, constantValue := 0 }, { name := "SIZE", type := .int, accessFlags := 25, slot := 6, constantValue := 0 }, { name := "BYTES", type := .int, accessFlags := 25, slot := 7, constantValue := 0 }, { name := "serialVersionUID", type := .long, accessFlags := 26, slot := 8, constantValue := 0 }]
  methods := #[k18m0, k18m1]
  instanceTypes := #[.int]
  staticTypes := #[.int, .int, (.object "java/lang/Class"), (.array .char), (.array .byte), (.array .byte), .int, .int, .long]
  resolved := Array.replicate 453 none
  statics := some 1 }

def pool19 : Array CpInfo := pool [(6, .class_ 8), (1, u "java/lang/Object"), (0, u "<init>"), (0, u "()V"), (1, .class_ 14), (1, u "java/lang/StringUTF16"), (31, u "$assertionsDisabled"), (0, u "Z"), (13, u "HI_BYTE_SHIFT"), (0, u "I"), (2, u "LO_BYTE_SHIFT"), (49, .methodref 12 116), (0, .nameAndType 117 118), (0, u "compress"), (0, u "([CI[BII)I"), (3, u "([CII)[B"), (138, u "coderFromArrayLen"), (0, u "([BI)B"), (106, .class_ 371), (1, u "java/lang/StringUTF16$LinesSpliterator"), (58, u "MAX_LENGTH"), (196, .class_ 628), (0, u "java/lang/StringUTF16$CodePointsSpliterator"), (0, .class_ 630), (0, u "java/lang/StringUTF16$CharsSpliterator")] 4

def k19m0 : Method := { name := "<init>", desc := "()V", sig := { parameters := [], returnType := none }, accessFlags := 0, code := none }
def k19c1 : Code := { maxStack := 2, maxLocals := 2, code := jdk_52_method_15_code, exceptionTable := #[], attributes := #[] }
def k19m1 : Method := { name := "coderFromArrayLen", desc := "([BI)B", sig := { parameters := [(.array .byte), .int], returnType := some .byte }, accessFlags := 8, code := some k19c1 }
def k19c2 : Code := { maxStack := 5, maxLocals := 6, code := jdk_52_method_16_code, exceptionTable := #[], attributes := #[] }
def k19m2 : Method := { name := "compress", desc := "([CII)[B", sig := { parameters := [(.array .char), .int, .int], returnType := some (.array .byte) }, accessFlags := 9, code := some k19c2 }
def k19c3 : Code := { maxStack := 3, maxLocals := 7, code := jdk_52_method_21_code, exceptionTable := #[], attributes := #[] }
def k19m3 : Method := { name := "compress", desc := "([CI[BII)I", sig := { parameters := [(.array .char), .int, (.array .byte), .int, .int], returnType := some .int }, accessFlags := 9, code := some k19c3 }
/-- java/lang/StringUTF16 -/
def k19 : Class := { plain "java/lang/StringUTF16" (some 0) with
  accessFlags := 48
  interfaces := #[]
  cf := some (fileOf pool19 12 #[.nestMembers #[627, 629, 369]] #[{ accessFlags := 0, nameIndex := 9, descriptorIndex := 10, attributes := #[] }, { accessFlags := 8, nameIndex := 261, descriptorIndex := 262, attributes := #[] }, { accessFlags := 9, nameIndex := 117, descriptorIndex := 122, attributes := #[] }, { accessFlags := 9, nameIndex := 117, descriptorIndex := 118, attributes := #[] }] 48 6 #[] #[{ accessFlags := 26, nameIndex := 61, descriptorIndex := 62, attributes := #[] }, { accessFlags := 26, nameIndex := 65, descriptorIndex := 62, attributes := #[] }, { accessFlags := 24, nameIndex := 430, descriptorIndex := 62, attributes := #[] }, { accessFlags := 4120, nameIndex := 46, descriptorIndex := 47, attributes := #[] }])
  fields := #[{ name := "HI_BYTE_SHIFT", type := .int, accessFlags := 26, slot := 0, constantValue := 0 }, { name := "LO_BYTE_SHIFT", type := .int, accessFlags := 26, slot := 1, constantValue := 0 }, { name := "MAX_LENGTH", type := .int, accessFlags := 24, slot := 2, constantValue := 0 }, { name := "$assertionsDisabled", type := .boolean, accessFlags := 4120, slot := 3, constantValue := 0 }]
  methods := #[k19m0, k19m1, k19m2, k19m3]
  instanceTypes := #[]
  staticTypes := #[.int, .int, .int, .boolean]
  resolved := Array.replicate 635 none
  statics := none }

def pool20 : Array CpInfo := pool [(4, .class_ 6), (1, u "java/lang/Object"), (0, u "<init>"), (0, u "()V"), (5, .class_ 16), (1, u "java/lang/StringLatin1"), (104, u "$assertionsDisabled"), (0, u "Z"), (98, .class_ 223), (1, u "java/lang/StringLatin1$LinesSpliterator"), (57, u "equals"), (0, u "([B[B)Z"), (107, .class_ 391), (0, u "java/lang/StringLatin1$CharsSpliterator")] 3

def k20m0 : Method := { name := "<init>", desc := "()V", sig := { parameters := [], returnType := none }, accessFlags := 0, code := none }
def k20c1 : Code := { maxStack := 3, maxLocals := 3, code := jdk_43_method_13_code, exceptionTable := #[], attributes := #[] }
def k20m1 : Method := { name := "equals", desc := "([B[B)Z", sig := { parameters := [(.array .byte), (.array .byte)], returnType := some .boolean }, accessFlags := 9, code := some k20c1 }
/-- java/lang/StringLatin1 -/
def k20 : Class := { plain "java/lang/StringLatin1" (some 0) with
  accessFlags := 48
  interfaces := #[]
  cf := some (fileOf pool20 14 #[.nestMembers #[390, 221]] #[{ accessFlags := 0, nameIndex := 7, descriptorIndex := 8, attributes := #[] }, { accessFlags := 9, nameIndex := 281, descriptorIndex := 282, attributes := #[] }] 48 4 #[] #[{ accessFlags := 4120, nameIndex := 121, descriptorIndex := 122, attributes := #[] }])
  fields := #[{ name := "$assertionsDisabled", type := .boolean, accessFlags := 4120, slot := 0, constantValue := 0 }]
  methods := #[k20m0, k20m1]
  instanceTypes := #[]
  staticTypes := #[.boolean]
  resolved := Array.replicate 395 none
  statics := none }

def pool21 : Array CpInfo := pool [(1, .class_ 2), (0, u "java/lang/Cloneable"), (0, .class_ 4), (0, u "java/lang/Object")] 2

/-- java/lang/Cloneable -/
def k21 : Class := { plain "java/lang/Cloneable" (some 0) with
  accessFlags := 1537
  interfaces := #[]
  cf := some (fileOf pool21 1 #[] #[] 1537 3 #[] #[])
  fields := #[]
  methods := #[]
  instanceTypes := #[]
  staticTypes := #[]
  resolved := Array.replicate 7 none
  statics := none }

def pool22 : Array CpInfo := pool [(2, .class_ 4), (1, u "java/lang/Object"), (0, u "<init>"), (0, u "()V"), (17, .class_ 26), (1, u "jdk/internal/util/Preconditions"), (28, .class_ 56), (0, u "jdk/internal/util/Preconditions$4"), (57, .class_ 115), (0, u "jdk/internal/util/Preconditions$1"), (7, u "SIOOBE_FORMATTER"), (0, u "Ljava/util/function/BiFunction;"), (0, .class_ 126), (0, u "jdk/internal/util/Preconditions$2"), (3, u "AIOOBE_FORMATTER"), (0, .class_ 132), (0, u "jdk/internal/util/Preconditions$3"), (3, u "IOOBE_FORMATTER")] 57

def k22m0 : Method := { name := "<init>", desc := "()V", sig := { parameters := [], returnType := none }, accessFlags := 1, code := none }
/-- jdk/internal/util/Preconditions -/
def k22 : Class := { plain "jdk/internal/util/Preconditions" (some 0) with
  accessFlags := 33
  interfaces := #[]
  cf := some (fileOf pool22 24 #[.nestMembers #[55, 131, 125, 114]] #[{ accessFlags := 1, nameIndex := 5, descriptorIndex := 6, attributes := #[] }] 33 2 #[] #[{ accessFlags := 25, nameIndex := 123, descriptorIndex := 124, attributes := #[] }, { accessFlags := 25, nameIndex := 130, descriptorIndex := 124, attributes := #[] }, { accessFlags := 25, nameIndex := 136, descriptorIndex := 124, attributes := #[] }])
  fields := #[{ name := "SIOOBE_FORMATTER", type := (.object "java/util/function/BiFunction"), accessFlags := 25, slot := 0, constantValue := 0 }, { name := "AIOOBE_FORMATTER", type := (.object "java/util/function/BiFunction"), accessFlags := 25, slot := 1, constantValue := 0 }, { name := "IOOBE_FORMATTER", type := (.object "java/util/function/BiFunction"), accessFlags := 25, slot := 2, constantValue := 0 }]
  methods := #[k22m0]
  instanceTypes := #[]
  staticTypes := #[(.object "java/util/function/BiFunction"), (.object "java/util/function/BiFunction"), (.object "java/util/function/BiFunction")]
  resolved := Array.replicate 194 none
  statics := some 2 }

/-- the primitive byte -/
def k23 : Class := { plain "byte" none with kind := .primitive 'B', accessFlags := 0x411 }
/-- [B -/
def k24 : Class := { plain "[B" (some 0) with kind := .array 23 .byte, interfaces := #[21, 8], accessFlags := 1041 }

/-- the primitive char -/
def k25 : Class := { plain "char" none with kind := .primitive 'C', accessFlags := 0x411 }
/-- [C -/
def k26 : Class := { plain "[C" (some 0) with kind := .array 25 .char, interfaces := #[21, 8], accessFlags := 1041 }

/-- the primitive int -/
def k27 : Class := { plain "int" none with kind := .primitive 'I', accessFlags := 0x411 }
/-- [I -/
def k28 : Class := { plain "[I" (some 0) with kind := .array 27 .int, interfaces := #[21, 8], accessFlags := 1041 }

def heap : Heap := #[{ cls := 13, slots := #[.long 0, .int 1, .null, .int 0, .null, .int 0, .int 0], vm := .statics 13 },
  { cls := 18, slots := #[.int 0, .int 0, .null, .null, .ref 4, .ref 3, .int 0, .int 0, .long 0], vm := .statics 18 },
  { cls := 22, slots := #[.null, .null, .null], vm := .statics 22 },
  { cls := 24, slots := #[.int 48, .int 49, .int 50, .int 51, .int 52, .int 53, .int 54, .int 55, .int 56, .int 57, .int 48, .int 49, .int 50, .int 51, .int 52, .int 53, .int 54, .int 55, .int 56, .int 57, .int 48, .int 49, .int 50, .int 51, .int 52, .int 53, .int 54, .int 55, .int 56, .int 57, .int 48, .int 49, .int 50, .int 51, .int 52, .int 53, .int 54, .int 55, .int 56, .int 57, .int 48, .int 49, .int 50, .int 51, .int 52, .int 53, .int 54, .int 55, .int 56, .int 57, .int 48, .int 49, .int 50, .int 51, .int 52, .int 53, .int 54, .int 55, .int 56, .int 57, .int 48, .int 49, .int 50, .int 51, .int 52, .int 53, .int 54, .int 55, .int 56, .int 57, .int 48, .int 49, .int 50, .int 51, .int 52, .int 53, .int 54, .int 55, .int 56, .int 57, .int 48, .int 49, .int 50, .int 51, .int 52, .int 53, .int 54, .int 55, .int 56, .int 57, .int 48, .int 49, .int 50, .int 51, .int 52, .int 53, .int 54, .int 55, .int 56, .int 57], vm := .none },
  { cls := 24, slots := #[.int 48, .int 48, .int 48, .int 48, .int 48, .int 48, .int 48, .int 48, .int 48, .int 48, .int 49, .int 49, .int 49, .int 49, .int 49, .int 49, .int 49, .int 49, .int 49, .int 49, .int 50, .int 50, .int 50, .int 50, .int 50, .int 50, .int 50, .int 50, .int 50, .int 50, .int 51, .int 51, .int 51, .int 51, .int 51, .int 51, .int 51, .int 51, .int 51, .int 51, .int 52, .int 52, .int 52, .int 52, .int 52, .int 52, .int 52, .int 52, .int 52, .int 52, .int 53, .int 53, .int 53, .int 53, .int 53, .int 53, .int 53, .int 53, .int 53, .int 53, .int 54, .int 54, .int 54, .int 54, .int 54, .int 54, .int 54, .int 54, .int 54, .int 54, .int 55, .int 55, .int 55, .int 55, .int 55, .int 55, .int 55, .int 55, .int 55, .int 55, .int 56, .int 56, .int 56, .int 56, .int 56, .int 56, .int 56, .int 56, .int 56, .int 56, .int 57, .int 57, .int 57, .int 57, .int 57, .int 57, .int 57, .int 57, .int 57, .int 57], vm := .none }]
def classes : Array Class := #[k0, k1, k2, k3, k4, k5, k6, k7, k8, k9, k10, k11, k12, k13, k14, k15, k16, k17, k18, k19, k20, k21, k22, k23, k24, k25, k26, k27, k28]
def interned : List (Array UInt16 × Addr) := []
def slotsUsed : Nat := 219
def theMethod : MethodId := ⟨1, 2⟩
def args0 : Array Value := #[.int 5, .int 7, .int 1]
def aboutOver (below : List Frame) : State where
  vm := { classes := classes, interned := interned.toArray }
  heap := heap
  slotsUsed := slotsUsed
  threads := #[{ frames := .invoking theMethod args0 :: below }]
def below0 : List Frame := [.native { method := ⟨0, 0⟩, args := #[] }]
def about1 : State := aboutOver below0
def p0 : Program := .bare "" "" ""
def e0 : Env := launch0.env 0 0 0
theorem w_frames : about1.frames = Frame.invoking theMethod args0 :: below0 := rfl
set_option maxRecDepth 65536 in
theorem w_args : argsFit about1.vm theMethod args0 = true := by decide +kernel
set_option maxRecDepth 65536 in
theorem w_heap : heapFits about1 = true := by decide +kernel
set_option maxRecDepth 65536 in
theorem w_runnable : about1.curStatus? = some .runnable := by decide +kernel
set_option maxRecDepth 65536 in
theorem w_alone : about1.alone = true := by decide +kernel
set_option maxRecDepth 65536 in
theorem w_named : about1.methodNamed? x = some theMethod := by decide +kernel
set_option maxRecDepth 65536 in
theorem w_hears : about1.hears theMethod below0 = true := by decide +kernel
set_option maxRecDepth 65536 in
theorem w_ripe : about1.ripe theMethod args0 below0 = true := by decide +kernel
theorem w_running : about1.status = .running := rfl
set_option maxRecDepth 65536 in
theorem w_room : about1.hasRoom e0.platform room_1 = true :=
  launch0.hasRoom_least _ room_1 (by decide +kernel) (by decide +kernel) (by decide +kernel) (by decide +kernel) (by decide +kernel) (by decide +kernel)
theorem allAtoms_all (ts : List Jvm.Cond) (a : Array Jvm.Value) (st : Jvm.State) : (allAtoms ts).before a st = ts.all (fun c => c.before a st) := by
  induction ts with
  | nil => rfl
  | cons c t ih =>
    show (Jvm.Cond.and c (allAtoms t)).before a st = _
    rw [Jvm.Cond.before_and, ih, List.all_cons]
def words1 : List Jvm.Cond := Jvm.Cond.code x code maxLocals ret :: tables_1
/-- a 'code' word, met by the world's own term for the bytes: nothing is compared byte by byte -/
theorem code_word {y : MethodName} {bytes : ByteArray} {mx : Nat} {rt : Option FieldType} {a : Array Value} {s : State} {m : MethodId} {meth : Method} {c : Code} (h1 : s.methodNamed? y = some m) (h2 : s.vm.method? m = some meth) (h3 : meth.code = some c) (h4 : c.code = bytes)
    (h5 : (c.maxLocals == mx && c.exceptionTable.isEmpty && decide (c.maxStack ≤ mostOperands) && decide (meth.sig.returnType = rt) && !meth.locks && decide (parseMethodDescriptor y.desc = some meth.sig)) = true) : (Jvm.Cond.code y bytes mx rt).before a s = true := by
  simp only [Bool.and_eq_true, beq_iff_eq, Bool.not_eq_true', decide_eq_true_eq] at h5
  obtain ⟨⟨⟨⟨⟨g1, g2⟩, g3⟩, g4⟩, g5⟩, g6⟩ := h5
  simp [Cond.before, Cond.holds, Cond.value, h1, h2, h3, h4, g1, g2, g3, g4, g5, g6]
def isCode : Jvm.Cond → Bool
  | .code _ _ _ _ => true
  | _ => false
theorem all_split {L : List Jvm.Cond} {P : Jvm.Cond → Bool} (h1 : L.all (fun c => isCode c || P c) = true) (h2 : ∀ c ∈ L.filter isCode, P c = true) : L.all P = true := by
  refine List.all_eq_true.mpr fun c hc => ?_
  have h := List.all_eq_true.mp h1 c hc
  rcases Bool.eq_false_or_eq_true (isCode c) with hi | hi
  · exact h2 c (List.mem_filter.mpr ⟨hc, hi⟩)
  · simpa [hi] using h
set_option maxRecDepth 65536 in
theorem w_c0 : (Jvm.Cond.code x code maxLocals ret).before args0 about1 = true := code_word (m := ⟨1, 2⟩) (meth := k1m2) (c := k1c2) (by decide +kernel) rfl rfl rfl (by decide +kernel)
set_option maxRecDepth 65536 in
theorem w_c1 : (Jvm.Cond.code ({ cls := "java/lang/Math", name := "min", desc := "(II)I" } : Jvm.MethodName) jdk_29_method_69_code (2 : Nat) (Option.some Jvm.ClassFile.FieldType.int)).before args0 about1 = true := code_word (m := ⟨2, 2⟩) (meth := k2m2) (c := k2c2) (by decide +kernel) rfl rfl rfl (by decide +kernel)
set_option maxRecDepth 65536 in
theorem w_c2 : (Jvm.Cond.code ({ cls := "java/lang/Math", name := "max", desc := "(II)I" } : Jvm.MethodName) jdk_29_method_65_code (2 : Nat) (Option.some Jvm.ClassFile.FieldType.int)).before args0 about1 = true := code_word (m := ⟨2, 1⟩) (meth := k2m1) (c := k2c1) (by decide +kernel) rfl rfl rfl (by decide +kernel)
set_option maxRecDepth 65536 in
theorem w_c3 : (Jvm.Cond.code ({ cls := "com/example/tally_of_calls/tallyofcalls/Counts", name := "between", desc := "(II)Lcom/example/tally_of_calls/tallyofcalls/Count;" } : Jvm.MethodName) prog_5_method_6_code (3 : Nat) (Option.some (Jvm.ClassFile.FieldType.object "com/example/tally_of_calls/tallyofcalls/Count"))).before args0 about1 = true := code_word (m := ⟨3, 1⟩) (meth := k3m1) (c := k3c1) (by decide +kernel) rfl rfl rfl (by decide +kernel)
set_option maxRecDepth 65536 in
theorem w_c4 : (Jvm.Cond.code ({ cls := "java/lang/StringBuilder", name := "<init>", desc := "()V" } : Jvm.MethodName) jdk_67_method_1_code (1 : Nat) (Option.none : Option Jvm.ClassFile.FieldType)).before args0 about1 = true := code_word (m := ⟨10, 0⟩) (meth := k10m0) (c := k10c0) (by decide +kernel) rfl rfl rfl (by decide +kernel)
set_option maxRecDepth 65536 in
theorem w_c5 : (Jvm.Cond.code ({ cls := "java/lang/AbstractStringBuilder", name := "<init>", desc := "(I)V" } : Jvm.MethodName) jdk_68_method_2_code (2 : Nat) (Option.none : Option Jvm.ClassFile.FieldType)).before args0 about1 = true := code_word (m := ⟨7, 1⟩) (meth := k7m1) (c := k7c1) (by decide +kernel) rfl rfl rfl (by decide +kernel)
set_option maxRecDepth 65536 in
theorem w_c6 : (Jvm.Cond.code ({ cls := "java/lang/Object", name := "<init>", desc := "()V" } : Jvm.MethodName) object_method_1_code (1 : Nat) (Option.none : Option Jvm.ClassFile.FieldType)).before args0 about1 = true := code_word (m := ⟨0, 0⟩) (meth := k0m0) (c := k0c0) (by decide +kernel) rfl rfl rfl (by decide +kernel)
set_option maxRecDepth 65536 in
theorem w_c7 : (Jvm.Cond.code ({ cls := "java/lang/StringBuilder", name := "append", desc := "(Ljava/lang/String;)Ljava/lang/StringBuilder;" } : Jvm.MethodName) jdk_67_method_7_code (2 : Nat) (Option.some (Jvm.ClassFile.FieldType.object "java/lang/StringBuilder"))).before args0 about1 = true := code_word (m := ⟨10, 1⟩) (meth := k10m1) (c := k10c1) (by decide +kernel) rfl rfl rfl (by decide +kernel)
set_option maxRecDepth 65536 in
theorem w_c8 : (Jvm.Cond.code ({ cls := "java/lang/AbstractStringBuilder", name := "append", desc := "(Ljava/lang/String;)Ljava/lang/AbstractStringBuilder;" } : Jvm.MethodName) jdk_68_method_22_code (3 : Nat) (Option.some (Jvm.ClassFile.FieldType.object "java/lang/AbstractStringBuilder"))).before args0 about1 = true := code_word (m := ⟨7, 5⟩) (meth := k7m5) (c := k7c5) (by decide +kernel) rfl rfl rfl (by decide +kernel)
set_option maxRecDepth 65536 in
theorem w_c9 : (Jvm.Cond.code ({ cls := "java/lang/String", name := "length", desc := "()I" } : Jvm.MethodName) jdk_42_method_54_code (1 : Nat) (Option.some Jvm.ClassFile.FieldType.int)).before args0 about1 = true := code_word (m := ⟨13, 3⟩) (meth := k13m3) (c := k13c3) (by decide +kernel) rfl rfl rfl (by decide +kernel)
set_option maxRecDepth 65536 in
theorem w_c10 : (Jvm.Cond.code ({ cls := "java/lang/String", name := "coder", desc := "()B" } : Jvm.MethodName) jdk_42_method_152_code (1 : Nat) (Option.some Jvm.ClassFile.FieldType.byte)).before args0 about1 = true := code_word (m := ⟨13, 8⟩) (meth := k13m8) (c := k13c8) (by decide +kernel) rfl rfl rfl (by decide +kernel)
set_option maxRecDepth 65536 in
theorem w_c11 : (Jvm.Cond.code ({ cls := "java/lang/AbstractStringBuilder", name := "ensureCapacityInternal", desc := "(I)V" } : Jvm.MethodName) jdk_68_method_9_code (3 : Nat) (Option.none : Option Jvm.ClassFile.FieldType)).before args0 about1 = true := code_word (m := ⟨7, 3⟩) (meth := k7m3) (c := k7c3) (by decide +kernel) rfl rfl rfl (by decide +kernel)
set_option maxRecDepth 65536 in
theorem w_c12 : (Jvm.Cond.code ({ cls := "java/lang/AbstractStringBuilder", name := "newCapacity", desc := "(I)I" } : Jvm.MethodName) jdk_68_method_10_code (6 : Nat) (Option.some Jvm.ClassFile.FieldType.int)).before args0 about1 = true := code_word (m := ⟨7, 4⟩) (meth := k7m4) (c := k7c4) (by decide +kernel) rfl rfl rfl (by decide +kernel)
set_option maxRecDepth 65536 in
theorem w_c13 : (Jvm.Cond.code ({ cls := "jdk/internal/util/ArraysSupport", name := "newLength", desc := "(III)I" } : Jvm.MethodName) jdk_48_method_27_code (4 : Nat) (Option.some Jvm.ClassFile.FieldType.int)).before args0 about1 = true := code_word (m := ⟨14, 1⟩) (meth := k14m1) (c := k14c1) (by decide +kernel) rfl rfl rfl (by decide +kernel)
set_option maxRecDepth 65536 in
theorem w_c14 : (Jvm.Cond.code ({ cls := "java/util/Arrays", name := "copyOf", desc := "([BI)[B" } : Jvm.MethodName) jdk_65_method_121_code (3 : Nat) (Option.some (Jvm.ClassFile.FieldType.array Jvm.ClassFile.FieldType.byte))).before args0 about1 = true := code_word (m := ⟨15, 1⟩) (meth := k15m1) (c := k15c1) (by decide +kernel) rfl rfl rfl (by decide +kernel)
set_option maxRecDepth 65536 in
theorem w_c15 : (Jvm.Cond.code ({ cls := "java/lang/AbstractStringBuilder", name := "putStringAt", desc := "(ILjava/lang/String;)V" } : Jvm.MethodName) jdk_68_method_73_code (3 : Nat) (Option.none : Option Jvm.ClassFile.FieldType)).before args0 about1 = true := code_word (m := ⟨7, 10⟩) (meth := k7m10) (c := k7c10) (by decide +kernel) rfl rfl rfl (by decide +kernel)
set_option maxRecDepth 65536 in
theorem w_c16 : (Jvm.Cond.code ({ cls := "java/lang/AbstractStringBuilder", name := "inflateIfNeededFor", desc := "(Ljava/lang/String;)V" } : Jvm.MethodName) jdk_68_method_71_code (2 : Nat) (Option.none : Option Jvm.ClassFile.FieldType)).before args0 about1 = true := code_word (m := ⟨7, 9⟩) (meth := k7m9) (c := k7c9) (by decide +kernel) rfl rfl rfl (by decide +kernel)
set_option maxRecDepth 65536 in
theorem w_c17 : (Jvm.Cond.code ({ cls := "java/lang/String", name := "getBytes", desc := "([BIB)V" } : Jvm.MethodName) jdk_42_method_147_code (4 : Nat) (Option.none : Option Jvm.ClassFile.FieldType)).before args0 about1 = true := code_word (m := ⟨13, 5⟩) (meth := k13m5) (c := k13c5) (by decide +kernel) rfl rfl rfl (by decide +kernel)
set_option maxRecDepth 65536 in
theorem w_c18 : (Jvm.Cond.code ({ cls := "java/lang/StringBuilder", name := "append", desc := "(I)Ljava/lang/StringBuilder;" } : Jvm.MethodName) jdk_67_method_15_code (2 : Nat) (Option.some (Jvm.ClassFile.FieldType.object "java/lang/StringBuilder"))).before args0 about1 = true := code_word (m := ⟨10, 2⟩) (meth := k10m2) (c := k10c2) (by decide +kernel) rfl rfl rfl (by decide +kernel)
set_option maxRecDepth 65536 in
theorem w_c19 : (Jvm.Cond.code ({ cls := "java/lang/AbstractStringBuilder", name := "append", desc := "(I)Ljava/lang/AbstractStringBuilder;" } : Jvm.MethodName) jdk_68_method_32_code (4 : Nat) (Option.some (Jvm.ClassFile.FieldType.object "java/lang/AbstractStringBuilder"))).before args0 about1 = true := code_word (m := ⟨7, 6⟩) (meth := k7m6) (c := k7c6) (by decide +kernel) rfl rfl rfl (by decide +kernel)
set_option maxRecDepth 65536 in
theorem w_c20 : (Jvm.Cond.code ({ cls := "java/lang/Integer", name := "stringSize", desc := "(I)I" } : Jvm.MethodName) jdk_33_method_13_code (4 : Nat) (Option.some Jvm.ClassFile.FieldType.int)).before args0 about1 = true := code_word (m := ⟨18, 1⟩) (meth := k18m1) (c := k18c1) (by decide +kernel) rfl rfl rfl (by decide +kernel)
set_option maxRecDepth 65536 in
theorem w_c21 : (Jvm.Cond.code ({ cls := "java/lang/AbstractStringBuilder", name := "isLatin1", desc := "()Z" } : Jvm.MethodName) jdk_68_method_68_code (1 : Nat) (Option.some Jvm.ClassFile.FieldType.boolean)).before args0 about1 = true := code_word (m := ⟨7, 8⟩) (meth := k7m8) (c := k7c8) (by decide +kernel) rfl rfl rfl (by decide +kernel)
set_option maxRecDepth 65536 in
theorem w_c22 : (Jvm.Cond.code ({ cls := "java/lang/Integer", name := "getChars", desc := "(II[B)I" } : Jvm.MethodName) jdk_33_method_12_code (7 : Nat) (Option.some Jvm.ClassFile.FieldType.int)).before args0 about1 = true := code_word (m := ⟨18, 0⟩) (meth := k18m0) (c := k18c0) (by decide +kernel) rfl rfl rfl (by decide +kernel)
set_option maxRecDepth 65536 in
theorem w_c23 : (Jvm.Cond.code ({ cls := "java/lang/StringBuilder", name := "toString", desc := "()Ljava/lang/String;" } : Jvm.MethodName) jdk_67_method_42_code (1 : Nat) (Option.some (Jvm.ClassFile.FieldType.object "java/lang/String"))).before args0 about1 = true := code_word (m := ⟨10, 3⟩) (meth := k10m3) (c := k10c3) (by decide +kernel) rfl rfl rfl (by decide +kernel)
set_option maxRecDepth 65536 in
theorem w_c24 : (Jvm.Cond.code ({ cls := "java/lang/String", name := "<init>", desc := "(Ljava/lang/StringBuilder;)V" } : Jvm.MethodName) jdk_42_method_53_code (2 : Nat) (Option.none : Option Jvm.ClassFile.FieldType)).before args0 about1 = true := code_word (m := ⟨13, 2⟩) (meth := k13m2) (c := k13c2) (by decide +kernel) rfl rfl rfl (by decide +kernel)
set_option maxRecDepth 65536 in
theorem w_c25 : (Jvm.Cond.code ({ cls := "java/lang/String", name := "<init>", desc := "(Ljava/lang/AbstractStringBuilder;Ljava/lang/Void;)V" } : Jvm.MethodName) jdk_42_method_150_code (5 : Nat) (Option.none : Option Jvm.ClassFile.FieldType)).before args0 about1 = true := code_word (m := ⟨13, 7⟩) (meth := k13m7) (c := k13c7) (by decide +kernel) rfl rfl rfl (by decide +kernel)
set_option maxRecDepth 65536 in
theorem w_c26 : (Jvm.Cond.code ({ cls := "java/lang/AbstractStringBuilder", name := "getValue", desc := "()[B" } : Jvm.MethodName) jdk_68_method_64_code (1 : Nat) (Option.some (Jvm.ClassFile.FieldType.array Jvm.ClassFile.FieldType.byte))).before args0 about1 = true := code_word (m := ⟨7, 7⟩) (meth := k7m7) (c := k7c7) (by decide +kernel) rfl rfl rfl (by decide +kernel)
set_option maxRecDepth 65536 in
theorem w_c27 : (Jvm.Cond.code ({ cls := "java/lang/StringBuilder", name := "length", desc := "()I" } : Jvm.MethodName) jdk_67_method_93_code (1 : Nat) (Option.some Jvm.ClassFile.FieldType.int)).before args0 about1 = true := code_word (m := ⟨10, 4⟩) (meth := k10m4) (c := k10c4) (by decide +kernel) rfl rfl rfl (by decide +kernel)
set_option maxRecDepth 65536 in
theorem w_c28 : (Jvm.Cond.code ({ cls := "java/lang/AbstractStringBuilder", name := "length", desc := "()I" } : Jvm.MethodName) jdk_68_method_6_code (1 : Nat) (Option.some Jvm.ClassFile.FieldType.int)).before args0 about1 = true := code_word (m := ⟨7, 2⟩) (meth := k7m2) (c := k7c2) (by decide +kernel) rfl rfl rfl (by decide +kernel)
set_option maxRecDepth 65536 in
theorem w_c29 : (Jvm.Cond.code ({ cls := "java/util/Arrays", name := "copyOfRange", desc := "([BII)[B" } : Jvm.MethodName) jdk_65_method_132_code (3 : Nat) (Option.some (Jvm.ClassFile.FieldType.array Jvm.ClassFile.FieldType.byte))).before args0 about1 = true := code_word (m := ⟨15, 3⟩) (meth := k15m3) (c := k15c3) (by decide +kernel) rfl rfl rfl (by decide +kernel)
set_option maxRecDepth 65536 in
theorem w_c30 : (Jvm.Cond.code ({ cls := "java/util/Arrays", name := "copyOfRangeByte", desc := "([BII)[B" } : Jvm.MethodName) jdk_65_method_133_code (5 : Nat) (Option.some (Jvm.ClassFile.FieldType.array Jvm.ClassFile.FieldType.byte))).before args0 about1 = true := code_word (m := ⟨15, 4⟩) (meth := k15m4) (c := k15c4) (by decide +kernel) rfl rfl rfl (by decide +kernel)
set_option maxRecDepth 65536 in
theorem w_c31 : (Jvm.Cond.code ({ cls := "java/util/Arrays", name := "checkLength", desc := "(II)V" } : Jvm.MethodName) jdk_65_method_131_code (2 : Nat) (Option.none : Option Jvm.ClassFile.FieldType)).before args0 about1 = true := code_word (m := ⟨15, 2⟩) (meth := k15m2) (c := k15c2) (by decide +kernel) rfl rfl rfl (by decide +kernel)
set_option maxRecDepth 65536 in
theorem w_c32 : (Jvm.Cond.code ({ cls := "com/example/tally_of_calls/tallyofcalls/Count", name := "<init>", desc := "(IJLjava/lang/String;)V" } : Jvm.MethodName) prog_4_method_1_code (5 : Nat) (Option.none : Option Jvm.ClassFile.FieldType)).before args0 about1 = true := code_word (m := ⟨4, 0⟩) (meth := k4m0) (c := k4c0) (by decide +kernel) rfl rfl rfl (by decide +kernel)
set_option maxRecDepth 65536 in
theorem w_c33 : (Jvm.Cond.code ({ cls := "com/example/tally_of_calls/tallyofcalls/Count", name := "min", desc := "()I" } : Jvm.MethodName) prog_4_method_2_code (1 : Nat) (Option.some Jvm.ClassFile.FieldType.int)).before args0 about1 = true := code_word (m := ⟨4, 1⟩) (meth := k4m1) (c := k4c1) (by decide +kernel) rfl rfl rfl (by decide +kernel)
set_option maxRecDepth 65536 in
theorem w_c34 : (Jvm.Cond.code ({ cls := "com/example/tally_of_calls/tallyofcalls/Count", name := "max", desc := "()J" } : Jvm.MethodName) prog_4_method_3_code (1 : Nat) (Option.some Jvm.ClassFile.FieldType.long)).before args0 about1 = true := code_word (m := ⟨4, 2⟩) (meth := k4m2) (c := k4c2) (by decide +kernel) rfl rfl rfl (by decide +kernel)
set_option maxRecDepth 65536 in
theorem w_c35 : (Jvm.Cond.code ({ cls := "com/example/tally_of_calls/tallyofcalls/Count", name := "phrase", desc := "()Ljava/lang/String;" } : Jvm.MethodName) prog_4_method_4_code (1 : Nat) (Option.some (Jvm.ClassFile.FieldType.object "java/lang/String"))).before args0 about1 = true := code_word (m := ⟨4, 3⟩) (meth := k4m3) (c := k4c3) (by decide +kernel) rfl rfl rfl (by decide +kernel)
set_option maxRecDepth 65536 in
theorem w_c36 : (Jvm.Cond.code ({ cls := "com/example/tally_of_calls/tallyofcalls/CountsBetweenPinLaw", name := "digits", desc := "(I)I" } : Jvm.MethodName) method_2_code (1 : Nat) (Option.some Jvm.ClassFile.FieldType.int)).before args0 about1 = true := code_word (m := ⟨1, 1⟩) (meth := k1m1) (c := k1c1) (by decide +kernel) rfl rfl rfl (by decide +kernel)
set_option maxRecDepth 65536 in
theorem w_c37 : (Jvm.Cond.code ({ cls := "java/lang/String", name := "<init>", desc := "([C)V" } : Jvm.MethodName) jdk_42_method_3_code (2 : Nat) (Option.none : Option Jvm.ClassFile.FieldType)).before args0 about1 = true := code_word (m := ⟨13, 1⟩) (meth := k13m1) (c := k13c1) (by decide +kernel) rfl rfl rfl (by decide +kernel)
set_option maxRecDepth 65536 in
theorem w_c38 : (Jvm.Cond.code ({ cls := "java/lang/String", name := "<init>", desc := "([CIILjava/lang/Void;)V" } : Jvm.MethodName) jdk_42_method_149_code (6 : Nat) (Option.none : Option Jvm.ClassFile.FieldType)).before args0 about1 = true := code_word (m := ⟨13, 6⟩) (meth := k13m6) (c := k13c6) (by decide +kernel) rfl rfl rfl (by decide +kernel)
set_option maxRecDepth 65536 in
theorem w_c39 : (Jvm.Cond.code ({ cls := "java/lang/StringUTF16", name := "compress", desc := "([CII)[B" } : Jvm.MethodName) jdk_52_method_16_code (6 : Nat) (Option.some (Jvm.ClassFile.FieldType.array Jvm.ClassFile.FieldType.byte))).before args0 about1 = true := code_word (m := ⟨19, 2⟩) (meth := k19m2) (c := k19c2) (by decide +kernel) rfl rfl rfl (by decide +kernel)
set_option maxRecDepth 65536 in
theorem w_c40 : (Jvm.Cond.code ({ cls := "java/lang/StringUTF16", name := "compress", desc := "([CI[BII)I" } : Jvm.MethodName) jdk_52_method_21_code (7 : Nat) (Option.some Jvm.ClassFile.FieldType.int)).before args0 about1 = true := code_word (m := ⟨19, 3⟩) (meth := k19m3) (c := k19c3) (by decide +kernel) rfl rfl rfl (by decide +kernel)
set_option maxRecDepth 65536 in
theorem w_c41 : (Jvm.Cond.code ({ cls := "java/lang/StringUTF16", name := "coderFromArrayLen", desc := "([BI)B" } : Jvm.MethodName) jdk_52_method_15_code (2 : Nat) (Option.some Jvm.ClassFile.FieldType.byte)).before args0 about1 = true := code_word (m := ⟨19, 1⟩) (meth := k19m1) (c := k19c1) (by decide +kernel) rfl rfl rfl (by decide +kernel)
set_option maxRecDepth 65536 in
theorem w_c42 : (Jvm.Cond.code ({ cls := "java/lang/String", name := "equals", desc := "(Ljava/lang/Object;)Z" } : Jvm.MethodName) jdk_42_method_66_code (3 : Nat) (Option.some Jvm.ClassFile.FieldType.boolean)).before args0 about1 = true := code_word (m := ⟨13, 4⟩) (meth := k13m4) (c := k13c4) (by decide +kernel) rfl rfl rfl (by decide +kernel)
set_option maxRecDepth 65536 in
theorem w_c43 : (Jvm.Cond.code ({ cls := "java/lang/StringLatin1", name := "equals", desc := "([B[B)Z" } : Jvm.MethodName) jdk_43_method_13_code (3 : Nat) (Option.some Jvm.ClassFile.FieldType.boolean)).before args0 about1 = true := code_word (m := ⟨20, 1⟩) (meth := k20m1) (c := k20c1) (by decide +kernel) rfl rfl rfl (by decide +kernel)
def codes1 : List Jvm.Cond := [Jvm.Cond.code x code maxLocals ret, Jvm.Cond.code ({ cls := "java/lang/Math", name := "min", desc := "(II)I" } : Jvm.MethodName) jdk_29_method_69_code (2 : Nat) (Option.some Jvm.ClassFile.FieldType.int), Jvm.Cond.code ({ cls := "java/lang/Math", name := "max", desc := "(II)I" } : Jvm.MethodName) jdk_29_method_65_code (2 : Nat) (Option.some Jvm.ClassFile.FieldType.int), Jvm.Cond.code ({ cls := "com/example/tally_of_calls/tallyofcalls/Counts", name := "between", desc := "(II)Lcom/example/tally_of_calls/tallyofcalls/Count;" } : Jvm.MethodName) prog_5_method_6_code (3 : Nat) (Option.some (Jvm.ClassFile.FieldType.object "com/example/tally_of_calls/tallyofcalls/Count")), Jvm.Cond.code ({ cls := "java/lang/StringBuilder", name := "<init>", desc := "()V" } : Jvm.MethodName) jdk_67_method_1_code (1 : Nat) (Option.none : Option Jvm.ClassFile.FieldType), Jvm.Cond.code ({ cls := "java/lang/AbstractStringBuilder", name := "<init>", desc := "(I)V" } : Jvm.MethodName) jdk_68_method_2_code (2 : Nat) (Option.none : Option Jvm.ClassFile.FieldType), Jvm.Cond.code ({ cls := "java/lang/Object", name := "<init>", desc := "()V" } : Jvm.MethodName) object_method_1_code (1 : Nat) (Option.none : Option Jvm.ClassFile.FieldType), Jvm.Cond.code ({ cls := "java/lang/StringBuilder", name := "append", desc := "(Ljava/lang/String;)Ljava/lang/StringBuilder;" } : Jvm.MethodName) jdk_67_method_7_code (2 : Nat) (Option.some (Jvm.ClassFile.FieldType.object "java/lang/StringBuilder")), Jvm.Cond.code ({ cls := "java/lang/AbstractStringBuilder", name := "append", desc := "(Ljava/lang/String;)Ljava/lang/AbstractStringBuilder;" } : Jvm.MethodName) jdk_68_method_22_code (3 : Nat) (Option.some (Jvm.ClassFile.FieldType.object "java/lang/AbstractStringBuilder")), Jvm.Cond.code ({ cls := "java/lang/String", name := "length", desc := "()I" } : Jvm.MethodName) jdk_42_method_54_code (1 : Nat) (Option.some Jvm.ClassFile.FieldType.int), Jvm.Cond.code ({ cls := "java/lang/String", name := "coder", desc := "()B" } : Jvm.MethodName) jdk_42_method_152_code (1 : Nat) (Option.some Jvm.ClassFile.FieldType.byte), Jvm.Cond.code ({ cls := "java/lang/AbstractStringBuilder", name := "ensureCapacityInternal", desc := "(I)V" } : Jvm.MethodName) jdk_68_method_9_code (3 : Nat) (Option.none : Option Jvm.ClassFile.FieldType), Jvm.Cond.code ({ cls := "java/lang/AbstractStringBuilder", name := "newCapacity", desc := "(I)I" } : Jvm.MethodName) jdk_68_method_10_code (6 : Nat) (Option.some Jvm.ClassFile.FieldType.int), Jvm.Cond.code ({ cls := "jdk/internal/util/ArraysSupport", name := "newLength", desc := "(III)I" } : Jvm.MethodName) jdk_48_method_27_code (4 : Nat) (Option.some Jvm.ClassFile.FieldType.int), Jvm.Cond.code ({ cls := "java/util/Arrays", name := "copyOf", desc := "([BI)[B" } : Jvm.MethodName) jdk_65_method_121_code (3 : Nat) (Option.some (Jvm.ClassFile.FieldType.array Jvm.ClassFile.FieldType.byte)), Jvm.Cond.code ({ cls := "java/lang/AbstractStringBuilder", name := "putStringAt", desc := "(ILjava/lang/String;)V" } : Jvm.MethodName) jdk_68_method_73_code (3 : Nat) (Option.none : Option Jvm.ClassFile.FieldType), Jvm.Cond.code ({ cls := "java/lang/AbstractStringBuilder", name := "inflateIfNeededFor", desc := "(Ljava/lang/String;)V" } : Jvm.MethodName) jdk_68_method_71_code (2 : Nat) (Option.none : Option Jvm.ClassFile.FieldType), Jvm.Cond.code ({ cls := "java/lang/String", name := "getBytes", desc := "([BIB)V" } : Jvm.MethodName) jdk_42_method_147_code (4 : Nat) (Option.none : Option Jvm.ClassFile.FieldType), Jvm.Cond.code ({ cls := "java/lang/StringBuilder", name := "append", desc := "(I)Ljava/lang/StringBuilder;" } : Jvm.MethodName) jdk_67_method_15_code (2 : Nat) (Option.some (Jvm.ClassFile.FieldType.object "java/lang/StringBuilder")), Jvm.Cond.code ({ cls := "java/lang/AbstractStringBuilder", name := "append", desc := "(I)Ljava/lang/AbstractStringBuilder;" } : Jvm.MethodName) jdk_68_method_32_code (4 : Nat) (Option.some (Jvm.ClassFile.FieldType.object "java/lang/AbstractStringBuilder")), Jvm.Cond.code ({ cls := "java/lang/Integer", name := "stringSize", desc := "(I)I" } : Jvm.MethodName) jdk_33_method_13_code (4 : Nat) (Option.some Jvm.ClassFile.FieldType.int), Jvm.Cond.code ({ cls := "java/lang/AbstractStringBuilder", name := "isLatin1", desc := "()Z" } : Jvm.MethodName) jdk_68_method_68_code (1 : Nat) (Option.some Jvm.ClassFile.FieldType.boolean), Jvm.Cond.code ({ cls := "java/lang/Integer", name := "getChars", desc := "(II[B)I" } : Jvm.MethodName) jdk_33_method_12_code (7 : Nat) (Option.some Jvm.ClassFile.FieldType.int), Jvm.Cond.code ({ cls := "java/lang/StringBuilder", name := "toString", desc := "()Ljava/lang/String;" } : Jvm.MethodName) jdk_67_method_42_code (1 : Nat) (Option.some (Jvm.ClassFile.FieldType.object "java/lang/String")), Jvm.Cond.code ({ cls := "java/lang/String", name := "<init>", desc := "(Ljava/lang/StringBuilder;)V" } : Jvm.MethodName) jdk_42_method_53_code (2 : Nat) (Option.none : Option Jvm.ClassFile.FieldType), Jvm.Cond.code ({ cls := "java/lang/String", name := "<init>", desc := "(Ljava/lang/AbstractStringBuilder;Ljava/lang/Void;)V" } : Jvm.MethodName) jdk_42_method_150_code (5 : Nat) (Option.none : Option Jvm.ClassFile.FieldType), Jvm.Cond.code ({ cls := "java/lang/AbstractStringBuilder", name := "getValue", desc := "()[B" } : Jvm.MethodName) jdk_68_method_64_code (1 : Nat) (Option.some (Jvm.ClassFile.FieldType.array Jvm.ClassFile.FieldType.byte)), Jvm.Cond.code ({ cls := "java/lang/StringBuilder", name := "length", desc := "()I" } : Jvm.MethodName) jdk_67_method_93_code (1 : Nat) (Option.some Jvm.ClassFile.FieldType.int), Jvm.Cond.code ({ cls := "java/lang/AbstractStringBuilder", name := "length", desc := "()I" } : Jvm.MethodName) jdk_68_method_6_code (1 : Nat) (Option.some Jvm.ClassFile.FieldType.int), Jvm.Cond.code ({ cls := "java/util/Arrays", name := "copyOfRange", desc := "([BII)[B" } : Jvm.MethodName) jdk_65_method_132_code (3 : Nat) (Option.some (Jvm.ClassFile.FieldType.array Jvm.ClassFile.FieldType.byte)), Jvm.Cond.code ({ cls := "java/util/Arrays", name := "copyOfRangeByte", desc := "([BII)[B" } : Jvm.MethodName) jdk_65_method_133_code (5 : Nat) (Option.some (Jvm.ClassFile.FieldType.array Jvm.ClassFile.FieldType.byte)), Jvm.Cond.code ({ cls := "java/util/Arrays", name := "checkLength", desc := "(II)V" } : Jvm.MethodName) jdk_65_method_131_code (2 : Nat) (Option.none : Option Jvm.ClassFile.FieldType), Jvm.Cond.code ({ cls := "com/example/tally_of_calls/tallyofcalls/Count", name := "<init>", desc := "(IJLjava/lang/String;)V" } : Jvm.MethodName) prog_4_method_1_code (5 : Nat) (Option.none : Option Jvm.ClassFile.FieldType), Jvm.Cond.code ({ cls := "com/example/tally_of_calls/tallyofcalls/Count", name := "min", desc := "()I" } : Jvm.MethodName) prog_4_method_2_code (1 : Nat) (Option.some Jvm.ClassFile.FieldType.int), Jvm.Cond.code ({ cls := "com/example/tally_of_calls/tallyofcalls/Count", name := "max", desc := "()J" } : Jvm.MethodName) prog_4_method_3_code (1 : Nat) (Option.some Jvm.ClassFile.FieldType.long), Jvm.Cond.code ({ cls := "com/example/tally_of_calls/tallyofcalls/Count", name := "phrase", desc := "()Ljava/lang/String;" } : Jvm.MethodName) prog_4_method_4_code (1 : Nat) (Option.some (Jvm.ClassFile.FieldType.object "java/lang/String")), Jvm.Cond.code ({ cls := "com/example/tally_of_calls/tallyofcalls/CountsBetweenPinLaw", name := "digits", desc := "(I)I" } : Jvm.MethodName) method_2_code (1 : Nat) (Option.some Jvm.ClassFile.FieldType.int), Jvm.Cond.code ({ cls := "java/lang/String", name := "<init>", desc := "([C)V" } : Jvm.MethodName) jdk_42_method_3_code (2 : Nat) (Option.none : Option Jvm.ClassFile.FieldType), Jvm.Cond.code ({ cls := "java/lang/String", name := "<init>", desc := "([CIILjava/lang/Void;)V" } : Jvm.MethodName) jdk_42_method_149_code (6 : Nat) (Option.none : Option Jvm.ClassFile.FieldType), Jvm.Cond.code ({ cls := "java/lang/StringUTF16", name := "compress", desc := "([CII)[B" } : Jvm.MethodName) jdk_52_method_16_code (6 : Nat) (Option.some (Jvm.ClassFile.FieldType.array Jvm.ClassFile.FieldType.byte)), Jvm.Cond.code ({ cls := "java/lang/StringUTF16", name := "compress", desc := "([CI[BII)I" } : Jvm.MethodName) jdk_52_method_21_code (7 : Nat) (Option.some Jvm.ClassFile.FieldType.int), Jvm.Cond.code ({ cls := "java/lang/StringUTF16", name := "coderFromArrayLen", desc := "([BI)B" } : Jvm.MethodName) jdk_52_method_15_code (2 : Nat) (Option.some Jvm.ClassFile.FieldType.byte), Jvm.Cond.code ({ cls := "java/lang/String", name := "equals", desc := "(Ljava/lang/Object;)Z" } : Jvm.MethodName) jdk_42_method_66_code (3 : Nat) (Option.some Jvm.ClassFile.FieldType.boolean), Jvm.Cond.code ({ cls := "java/lang/StringLatin1", name := "equals", desc := "([B[B)Z" } : Jvm.MethodName) jdk_43_method_13_code (3 : Nat) (Option.some Jvm.ClassFile.FieldType.boolean)]
set_option maxRecDepth 65536 in
theorem codes_eq : words1.filter isCode = codes1 := rfl
theorem w_codes : ∀ c ∈ words1.filter isCode, c.before args0 about1 = true := by
  rw [codes_eq]
  intro c hc
  simp only [codes1, List.mem_cons, List.not_mem_nil, or_false] at hc
  rcases hc with rfl | rfl | rfl | rfl | rfl | rfl | rfl | rfl | rfl | rfl | rfl | rfl | rfl | rfl | rfl | rfl | rfl | rfl | rfl | rfl | rfl | rfl | rfl | rfl | rfl | rfl | rfl | rfl | rfl | rfl | rfl | rfl | rfl | rfl | rfl | rfl | rfl | rfl | rfl | rfl | rfl | rfl | rfl | rfl
  · exact w_c0
  · exact w_c1
  · exact w_c2
  · exact w_c3
  · exact w_c4
  · exact w_c5
  · exact w_c6
  · exact w_c7
  · exact w_c8
  · exact w_c9
  · exact w_c10
  · exact w_c11
  · exact w_c12
  · exact w_c13
  · exact w_c14
  · exact w_c15
  · exact w_c16
  · exact w_c17
  · exact w_c18
  · exact w_c19
  · exact w_c20
  · exact w_c21
  · exact w_c22
  · exact w_c23
  · exact w_c24
  · exact w_c25
  · exact w_c26
  · exact w_c27
  · exact w_c28
  · exact w_c29
  · exact w_c30
  · exact w_c31
  · exact w_c32
  · exact w_c33
  · exact w_c34
  · exact w_c35
  · exact w_c36
  · exact w_c37
  · exact w_c38
  · exact w_c39
  · exact w_c40
  · exact w_c41
  · exact w_c42
  · exact w_c43
set_option maxRecDepth 65536 in
theorem w_t1 : (words1.take 24).all (fun c => isCode c || c.before args0 about1) = true := by decide +kernel
set_option maxRecDepth 65536 in
theorem w_t2 : ((words1.drop 24).take 24).all (fun c => isCode c || c.before args0 about1) = true := by decide +kernel
set_option maxRecDepth 65536 in
theorem w_t3 : (((words1.drop 24).drop 24).take 24).all (fun c => isCode c || c.before args0 about1) = true := by decide +kernel
set_option maxRecDepth 65536 in
theorem w_t4 : ((((words1.drop 24).drop 24).drop 24).take 24).all (fun c => isCode c || c.before args0 about1) = true := by decide +kernel
set_option maxRecDepth 65536 in
theorem w_t5 : (((((words1.drop 24).drop 24).drop 24).drop 24).take 24).all (fun c => isCode c || c.before args0 about1) = true := by decide +kernel
set_option maxRecDepth 65536 in
theorem w_t6 : ((((((words1.drop 24).drop 24).drop 24).drop 24).drop 24).take 24).all (fun c => isCode c || c.before args0 about1) = true := by decide +kernel
set_option maxRecDepth 65536 in
theorem w_t7 : (((((((words1.drop 24).drop 24).drop 24).drop 24).drop 24).drop 24).take 24).all (fun c => isCode c || c.before args0 about1) = true := by decide +kernel
set_option maxRecDepth 65536 in
theorem w_t8 : ((((((((words1.drop 24).drop 24).drop 24).drop 24).drop 24).drop 24).drop 24).take 24).all (fun c => isCode c || c.before args0 about1) = true := by decide +kernel
set_option maxRecDepth 65536 in
theorem w_t9 : (((((((((words1.drop 24).drop 24).drop 24).drop 24).drop 24).drop 24).drop 24).drop 24).take 24).all (fun c => isCode c || c.before args0 about1) = true := by decide +kernel
set_option maxRecDepth 65536 in
theorem w_t10 : ((((((((((words1.drop 24).drop 24).drop 24).drop 24).drop 24).drop 24).drop 24).drop 24).drop 24).take 24).all (fun c => isCode c || c.before args0 about1) = true := by decide +kernel
set_option maxRecDepth 65536 in
theorem w_t11 : ((((((((((words1.drop 24).drop 24).drop 24).drop 24).drop 24).drop 24).drop 24).drop 24).drop 24).drop 24).all (fun c => isCode c || c.before args0 about1) = true := by decide +kernel
theorem w_tables : (allAtoms (Jvm.Cond.code x code maxLocals ret :: tables_1)).before args0 about1 = true := by
  rw [allAtoms_all]
  show words1.all (fun c => c.before args0 about1) = true
  refine all_split ?_ w_codes
  rw [← List.take_append_drop 24 words1, List.all_append, w_t1, ← List.take_append_drop 24 (words1.drop 24), List.all_append, w_t2, ← List.take_append_drop 24 ((words1.drop 24).drop 24), List.all_append, w_t3, ← List.take_append_drop 24 (((words1.drop 24).drop 24).drop 24), List.all_append, w_t4, ← List.take_append_drop 24 ((((words1.drop 24).drop 24).drop 24).drop 24), List.all_append, w_t5, ← List.take_append_drop 24 (((((words1.drop 24).drop 24).drop 24).drop 24).drop 24), List.all_append, w_t6, ← List.take_append_drop 24 ((((((words1.drop 24).drop 24).drop 24).drop 24).drop 24).drop 24), List.all_append, w_t7, ← List.take_append_drop 24 (((((((words1.drop 24).drop 24).drop 24).drop 24).drop 24).drop 24).drop 24), List.all_append, w_t8, ← List.take_append_drop 24 ((((((((words1.drop 24).drop 24).drop 24).drop 24).drop 24).drop 24).drop 24).drop 24), List.all_append, w_t9, ← List.take_append_drop 24 (((((((((words1.drop 24).drop 24).drop 24).drop 24).drop 24).drop 24).drop 24).drop 24).drop 24), List.all_append, w_t10, w_t11]
  rfl
set_option maxRecDepth 65536 in
theorem w_rest : rest_1_c.before args0 about1 = true := by decide +kernel
set_option maxRecDepth 65536 in
theorem w_case : (Jvm.Cond.and given_1 narrow_1).before args0 about1 = true := by decide +kernel
set_option maxRecDepth 65536 in
theorem w_consts : constsHeld consts_1 about1 := Jvm.Lit.constsHeldB_iff.mp (by decide +kernel)
theorem w_applies : (headSpec (Jvm.Cond.code x code maxLocals ret :: tables_1) room_1).applies x e0.platform about1 = true :=
  (Spec.applies_iff w_frames).mpr ⟨w_running, w_runnable, w_alone, w_named, w_hears, w_ripe, w_room, w_tables⟩
theorem atStart : AtStart classFile x code maxLocals ret World_1 tables_1 room_1 Calls_1 rest_1 Pre_1 launch0 p0 e0 about1 theMethod args0 below0 :=
  ⟨lists_1, trivial, launch0.admits_env _ _ _, launch0.least_env, fairChoices_fair.cas, fairChoices_fair.clock, w_frames, w_args, w_heap, w_applies, ⟨w_consts, trivial⟩, w_rest, w_case⟩
end start1
theorem witness_1 : WitnessClaimed_1 := ⟨start1.p0, start1.e0, start1.about1, start1.theMethod, start1.args0, start1.below0, start1.atStart⟩
end Jvm.Pilot.@@N@@
