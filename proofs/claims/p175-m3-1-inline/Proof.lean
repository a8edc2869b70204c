import JvmDerived
import JvmDerived.Pilot.@@N@@Statement
import JvmDerived.Pilot.@@N@@Code
set_option linter.unusedVariables false
set_option linter.unusedSimpArgs false
namespace Jvm.RoadKit
open Sem ClassFile Op Lib Jvm.Stand Jvm.Free Jvm.LawKit
section New
variable {p : Program} {l : Launch} {e : Env} {R : Room} {s : State} {m : MethodId} {args : Array Value} {below : List Frame} {meth : Method} {c : Code} {T : State} {locs : List Loc} {cells slots : Nat}
theorem retI (X : Stand p l e R s m args below meth c T locs cells slots) (hx : p.tables.exec = Jvm.exec) {pc : Nat} {Ls : Array Slot} {z : Int32} {rest : List Value} (hret : meth.sig.returnType = some .int) (hd : decode c.code pc = .ok (.ireturn, 1)) {fs : List Frame}
    (hl : ∀ (f : JFrame) (acts : List Action), f.method = m → f.locked = none → f.entered = [] → (doReturn e (T.setTop f) acts (some (.int z))).1 = T.setFrames fs) : Steps p.tables e below (T.setTop (mkF m pc Ls (.int z :: rest))) (T.setFrames fs) := by
  have hm' : T.vm.method? m = some meth := X.method'
  have hn : narrow .int (.int z) = .int z := rfl
  show Steps p.tables e below (T.setTop { method := m, pc := pc, locals := Ls, stack := _ :: rest, locked := none }) _
  jvm_step X.here [X.here.top, hx, hd, hm', hret, hn]
  first | (intro acts; rw [hl _ acts rfl rfl rfl]) | rw [hl _ _ rfl rfl rfl]
  exact Steps.refl _
end New
end Jvm.RoadKit
namespace Jvm.Pilot.@@N@@
open Jvm Jvm.ClassFile Sem Op Lib Jvm.Free Jvm.Stand Jvm.LawKit Jvm.RoadKit Bundle Jvm.Pilot.@@N@@.Jvm.D
section Own
variable {p : Program} {l : Launch} {e : Env} {R : Room} {s : State} {m : MethodId} {args : Array Value} {below : List Frame} {meth : Method} {c : Code} {T T' : State} {locs : List Loc} {cells slots cc nn : Nat} {f f' : JFrame} {Q : Option Value → Heap → List Loc → Prop} {Z : State} {h h' : Heap} {ws : List Addr}
/-- from this state the body comes to its end, and what it leaves is as Q says -/
def own_Ends (p : Program) (e : Env) (below : List Frame) (s : State) (Q : Option Value → Heap → List Loc → Prop) (cc nn : Nat) (T : State) (f : JFrame) : Prop :=
  ∃ s₂ o, Steps p.tables e below (T.setTop f) s₂ ∧ s₂.status = .running ∧ Ended s₂ below o ∧ ∃ v L, o = .returned v ∧ Q v s₂.heap L ∧ FrameEnd s o s₂ L cc nn
theorem own_go (k : ∀ t, Steps p.tables e below (T'.setTop f') t → Steps p.tables e below (T.setTop f) t) (h : own_Ends p e below s Q cc nn T' f') : own_Ends p e below s Q cc nn T f := by
  obtain ⟨s₂, o, h1, h2⟩ := h
  exact ⟨s₂, o, k _ h1, h2⟩
theorem own_ret (X : Stand p l e R s m args below meth c T locs cells slots) {v : Option Value} (hv : meth.sig.returnType = none → v = none) (hlk : meth.locks = false)
    (st : ∀ fs, (∀ (f : JFrame) (acts : List Action), f.method = m → f.locked = none → f.entered = [] → (doReturn e (T.setTop f) acts v).1 = T.setFrames fs) → Steps p.tables e below (T.setTop f) (T.setFrames fs)) (hQ : Q v T.heap locs) (h1 : cells ≤ cc) (h2 : slots ≤ nn) :
    own_Ends p e below s Q cc nn T f := by
  obtain ⟨fs, hr, hrun, hended, hW, hsame⟩ := X.leave (v := v) hv hlk
  exact ⟨_, _, st fs hr, hrun, hended, _, _, rfl, hQ, ⟨_, rfl⟩, hW, hsame.mono h1 h2⟩
theorem own_retL (X : Stand p l e R s m args below meth c T locs cells slots) (hx : p.tables.exec = Jvm.exec) {pc : Nat} {Ls : Array Slot} {z : Int64} {rest : List Value} (hret : meth.sig.returnType = some .long) (hd : decode c.code pc = .ok (.lreturn, 1)) {fs : List Frame}
    (hl : ∀ (f : JFrame) (acts : List Action), f.method = m → f.locked = none → f.entered = [] → (doReturn e (T.setTop f) acts (some (.long z))).1 = T.setFrames fs) : Steps p.tables e below (T.setTop (mkF m pc Ls (.long z :: rest))) (T.setFrames fs) :=
  retOut X hx hret rfl (Or.inr (Or.inl ⟨rfl, rfl, _, rfl⟩)) hd hl
theorem own_retA (X : Stand p l e R s m args below meth c T locs cells slots) (hx : p.tables.exec = Jvm.exec) {pc : Nat} {Ls : Array Slot} {w : Value} {t : FieldType} {rest : List Value} (hret : meth.sig.returnType = some t) (ht : t.isReference = true) (hw : w.isRef = true) (hd : decode c.code pc = .ok (.areturn, 1)) {fs : List Frame}
    (hl : ∀ (f : JFrame) (acts : List Action), f.method = m → f.locked = none → f.entered = [] → (doReturn e (T.setTop f) acts (some w)).1 = T.setFrames fs) : Steps p.tables e below (T.setTop (mkF m pc Ls (w :: rest))) (T.setFrames fs) :=
  retOut X hx hret (by cases t <;> first | rfl | (cases ht; done)) (Or.inr (Or.inr (Or.inr (Or.inr ⟨rfl, ht, hw⟩)))) hd hl
theorem own_lc_eq {a b : Int64} : lcmpW a b = 0 ↔ a = b := by
  simp only [lcmpW, gt_iff_lt]
  by_cases h1 : b < a
  · rw [if_pos h1]; exact ⟨fun q => absurd q (by decide), fun q => absurd h1 (by rw [q, Int64.lt_iff_toInt_lt]; omega)⟩
  · rw [if_neg h1]
    by_cases h2 : a = b
    · rw [if_pos h2]; exact ⟨fun _ => h2, fun _ => rfl⟩
    · rw [if_neg h2]; exact ⟨fun q => absurd q (by decide), fun q => absurd q h2⟩
section Arr
variable {target : State} {g : JFrame} {a : Addr} {kc : ClassId} {ty : FieldType} {z : Int32} {vs : List Value} {dv : Value}
theorem own_alen (X : Stand p l e R s m args below meth c T locs cells slots) (hx : p.tables.exec = Jvm.exec) (hZ : Z.Warmed39 s.vm) (eT : T.heap = h) (V : Arv Z h a kc ty z vs dv) (hg : g.method = m) {rest : List Value} (hs : g.stack = .ref a :: rest) (hd : decode c.code g.pc = .ok (.arraylength, 1))
    (hr : Steps p.tables e below (T.setTop { g with pc := g.pc + 1, stack := .int z :: rest }) target) : Steps p.tables e below (T.setTop g) target := by
  obtain ⟨cl, Ar, -, Sz, Ng, -, -⟩ := V
  exact X.arraylength hx (by rw [eT]; exact Ar.1) (State.isArrayOf_alike hZ.alike Ar.2.1) hg hs hd _ (by rw [len_of Sz Ng]; exact hr)
theorem own_ldB (X : Stand p l e R s m args below meth c T locs cells slots) (hx : p.tables.exec = Jvm.exec) (hZ : Z.Warmed39 s.vm) (eT : T.heap = h) (V : Arv Z h a kc .byte z vs dv) {j : Int32} {x : Int32} (hin : ¬ j < 0 ∧ j < z) (hv : vs.getD j.toNatClampNeg dv = .int x) (hg : g.method = m) {rest : List Value} (hs : g.stack = .int j :: .ref a :: rest) (hd : decode c.code g.pc = .ok (.baload, 1))
    (hr : Steps p.tables e below (T.setTop { g with pc := g.pc + 1, stack := .int x :: rest }) target) : Steps p.tables e below (T.setTop g) target := by
  obtain ⟨cl, Ar, -, Sz, Ng, Hs, Ft⟩ := V
  have hq := inb_of (j := j) Sz hin
  exact X.baloadBytes hx (j := j) (v := .int x) (by rw [eT]; exact Ar.1) (State.isArrayOf_alike hZ.alike Ar.2.1) Ar.2.2 hq (Hs.at hq hv) hg hs hd _ hr
theorem own_ldC (X : Stand p l e R s m args below meth c T locs cells slots) (hx : p.tables.exec = Jvm.exec) (hZ : Z.Warmed39 s.vm) (eT : T.heap = h) (V : Arv Z h a kc .char z vs dv) {j : Int32} {x : Int32} (hin : ¬ j < 0 ∧ j < z) (hv : vs.getD j.toNatClampNeg dv = .int x) (hg : g.method = m) {rest : List Value} (hs : g.stack = .int j :: .ref a :: rest) (hd : decode c.code g.pc = .ok (.caload, 1))
    (hr : Steps p.tables e below (T.setTop { g with pc := g.pc + 1, stack := .int x :: rest }) target) : Steps p.tables e below (T.setTop g) target := by
  obtain ⟨cl, Ar, -, Sz, Ng, Hs, Ft⟩ := V
  have hq := inb_of (j := j) Sz hin
  exact X.caload hx (j := j) (v := .int x) (by rw [eT]; exact Ar.1) (State.isArrayOf_alike hZ.alike Ar.2.1) Ar.2.2 hq (Hs.at hq hv) hg hs hd _ hr
theorem own_stB (X : Stand p l e R s m args below meth c T locs cells slots) (hx : p.tables.exec = Jvm.exec) (hZ : Z.Warmed39 s.vm) (eT : T.heap = h) (V : Arv Z h a kc .byte z vs dv) {j : Int32} {x : Int32} (hin : ¬ j < 0 ∧ j < z) (i : Nat) (hj : j.toNatClampNeg = i) (hi : i < vs.length) (hg : g.method = m) {rest : List Value} (hs : g.stack = .int x :: .int j :: .ref a :: rest) (hd : decode c.code g.pc = .ok (.bastore, 1)) :
    ∃ T' h', Stand p l e R s m args below meth c T' (locs ++ [⟨a, j.toNatClampNeg⟩]) cells slots ∧ T'.heap = h' ∧ Wr h h' a j.toNatClampNeg (.int (nar .byte x)) ∧ Arv Z h' a kc .byte z (vs.set i (.int (nar .byte x))) dv ∧ ∀ target, Steps p.tables e below (T'.setTop { g with pc := g.pc + 1, stack := rest }) target → Steps p.tables e below (T.setTop g) target := by
  obtain ⟨cl, Ar, q, Sz, Ng, Hs, Ft⟩ := V
  obtain ⟨T', h', X', e', W', st⟩ := stB X hx hZ eT Ar (j := j) (inb_of Sz hin) hg hs hd
  exact ⟨T', h', X', e', W', Arv.set Ar q Sz Ng Hs Ft (fits_nar_byte _) W' i hj hi, st⟩
theorem own_stC (X : Stand p l e R s m args below meth c T locs cells slots) (hx : p.tables.exec = Jvm.exec) (hZ : Z.Warmed39 s.vm) (eT : T.heap = h) (V : Arv Z h a kc .char z vs dv) {j : Int32} {x : Int32} (hin : ¬ j < 0 ∧ j < z) (i : Nat) (hj : j.toNatClampNeg = i) (hi : i < vs.length) (hg : g.method = m) {rest : List Value} (hs : g.stack = .int x :: .int j :: .ref a :: rest) (hd : decode c.code g.pc = .ok (.castore, 1)) :
    ∃ T' h', Stand p l e R s m args below meth c T' (locs ++ [⟨a, j.toNatClampNeg⟩]) cells slots ∧ T'.heap = h' ∧ Wr h h' a j.toNatClampNeg (.int (nar .char x)) ∧ Arv Z h' a kc .char z (vs.set i (.int (nar .char x))) dv ∧ ∀ target, Steps p.tables e below (T'.setTop { g with pc := g.pc + 1, stack := rest }) target → Steps p.tables e below (T.setTop g) target := by
  obtain ⟨cl, Ar, q, Sz, Ng, Hs, Ft⟩ := V
  obtain ⟨T', h', X', e', W', st⟩ := stC X hx hZ eT Ar (j := j) (inb_of Sz hin) hg hs hd
  exact ⟨T', h', X', e', W', Arv.set Ar q Sz Ng Hs Ft (fits_nar_char _) W' i hj hi, st⟩
end Arr
section Dbl
open Jvm.Free.XS
variable {tb : Tables} [Ours tb] {target : State} {g : JFrame}
theorem own_dup2 (h : At T m c below) (hx : tb.exec = Jvm.exec) (hg : g.method = m) {x y : Value} {rest : List Value} (hd : decode c.code g.pc = .ok (.dup2, 1)) (hs : g.stack = x :: y :: rest) (h1 : x.category = 1) (h2 : y.category = 1) (hr : Steps tb e below (T.setTop { g with pc := g.pc + 1, stack := x :: y :: x :: y :: rest }) target) : Steps tb e below (T.setTop g) target := by
  subst hg
  jvm_step h [h.top, hx, hd, hs, h1, h2]
  exact hr
end Dbl
theorem own_ne0 {s : State} {args : Array Value} {t : Term} {x : Int32} (ev : t.eval args s none [] s = some (.int x)) (h : (Cond.not (Cond.eq t (.int (0 : Int32)))).before args s = true) : ¬ (x = (0 : Int32)) := fun q => by
  subst q
  have h' := Cond.before_iff.mp h
  have e2 : (Term.int (0 : Int32)).eval args s none [] s = some (.int (0 : Int32)) := rfl
  simp only [Cond.value, ev, e2] at h'
  simp at h'
abbrev oI (x : Int32) : Slot := .val (.int x)
abbrev oR (x : Addr) : Slot := .val (.ref x)
abbrev oU : Slot := .unset
abbrev oS : Slot := .second
abbrev vI (x : Int32) : Value := .int x
abbrev vR (x : Addr) : Value := .ref x
theorem own_sta_keep {C n d : String} {v : Value} (F : Sta Z h C n d v) (K : Keep h h' ws) (q : ∀ st ∈ ws, ∀ c, h[st]? = some c → c.vm.isStatics = false) : Sta Z h' C n d v := by
  obtain ⟨cf, i, k, f, st, cell, h1, h2, h3, h4, h5, h6, h7⟩ := F
  exact ⟨cf, i, k, f, st, cell, h1, h2, h3, h4, K.2.1 st cell h5 (fun z => by rw [q st z cell h5] at h6; cases h6), h6, h7⟩
theorem own_ws0 : ∀ st ∈ ([] : List Addr), ∀ c, h[st]? = some c → c.vm.isStatics = false := fun _ q => nomatch q
theorem own_wsE {a : Addr} {C : String} (F : Exa Z h a C) (q : ∀ st ∈ ws, ∀ c, h[st]? = some c → c.vm.isStatics = false) : ∀ st ∈ a :: ws, ∀ c, h[st]? = some c → c.vm.isStatics = false := fun st hs c hc => by
  rcases List.mem_cons.mp hs with rfl | hs
  · obtain ⟨cell, k, h1, -, -, h4, -⟩ := F; cases h1.symm.trans hc; exact h4
  · exact q st hs c hc
theorem own_wsV {a : Addr} {k : ClassId} {ty : FieldType} {z : Int32} {vs : List Value} {dv : Value} (F : Arv Z h a k ty z vs dv) (q : ∀ st ∈ ws, ∀ c, h[st]? = some c → c.vm.isStatics = false) : ∀ st ∈ a :: ws, ∀ c, h[st]? = some c → c.vm.isStatics = false := fun st hs c hc => by
  rcases List.mem_cons.mp hs with rfl | hs
  · obtain ⟨cl, A, -⟩ := F; cases A.1.symm.trans hc; exact A.plain
  · exact q st hs c hc
theorem own_selp {s : State} {args : Array Value} {C : String} {y : MethodName} (h : (Cond.selects C y y).before args s = true) (hp : s.PrivateAt y) (hi : (Cond.instanceMethod y).before args s = true) (hy : y.cls ≠ "java/lang/invoke/MethodHandle" ∧ y.cls ≠ "java/lang/invoke/VarHandle") : (Cond.selects y.cls y y).before args s = true := by
  obtain ⟨c2, r2, m2, -, -, q3, -, kP, hkP, hkPi⟩ := Cond.selects_spec h
  exact selects_self_of_private (findClass_of_methodNamed q3) hkP hkPi hp hi hy
theorem own_same {s : State} {args : Array Value} {C : String} {x y y2 : MethodName} (h : (Cond.selects C x y2).before args s = true) (hc : y2.cls = y.cls) (hi : (Cond.instanceMethod y).before args s = true) (hy : y.cls ≠ "java/lang/invoke/MethodHandle" ∧ y.cls ≠ "java/lang/invoke/VarHandle") : (Cond.sameMethod y.cls y.cls y.name y.desc).before args s = true := by
  obtain ⟨c2, r2, m2, -, -, q3, -, kP, hkP, hkPi⟩ := Cond.selects_spec h
  obtain ⟨mk, methM, hnamed, -, -, -⟩ := Cond.instanceMethod_spec hi
  have hf : s.methodFound? y.cls y.name y.desc = some mk := State.methodFound?_of_named hnamed hy
  have c1 : s.vm.findClass y2.cls = some m2.cls := findClass_of_methodNamed q3
  rw [hc] at c1
  have hn : s.methodNamed? ⟨y.cls, y.name, y.desc⟩ = some mk := hnamed
  refine Cond.before_iff.mpr ?_
  simp only [Cond.value, c1, hf, hn, hkP]
  simp [hkPi]
theorem own_nf {s : State} {args : Array Value} {C : String} {x y y2 : MethodName} (h : (Cond.selects C x y2).before args s = true) (hc : y2.cls = y.cls) : NotFace s y := fun r0 h0 => by
  obtain ⟨c2, r2, m2, -, -, q3, -, kP, hkP, hkPi⟩ := Cond.selects_spec h
  have c1 : s.vm.findClass y2.cls = some m2.cls := findClass_of_methodNamed q3
  have c0 : s.vm.findClass y.cls = some r0.cls := findClass_of_methodNamed h0
  rw [hc] at c1
  have e : m2.cls = r0.cls := Option.some.inj (c1.symm.trans c0)
  exact ⟨kP, by rw [← e]; exact hkP, hkPi⟩
theorem own_out {kc ks : Nat} {Q : Option Value → Heap → List Loc → Prop} {s₀ : State} {F : Option Value → JFrame} {P1 : Vm → Prop}
    (h : ∃ (v : Option Value) (vm₁ : Vm) (B : Pt), P1 vm₁ ∧ Stand p l e R s m args below meth c B.U B.locs B.cells B.slots ∧ (∃ L, Q v B.U.heap L ∧ B.locs = locs ++ L ∧ B.cells = cells + kc ∧ B.slots = slots + ks) ∧ Steps p.tables e below s₀ (B.U.setTop (F v))) :
    ∃ v T L, Stand p l e R s m args below meth c T (locs ++ L) (cells + kc) (slots + ks) ∧ Q v T.heap L ∧ Steps p.tables e below s₀ (T.setTop (F v)) := by
  obtain ⟨v, -, ⟨T, L0, k, n⟩, -, X, ⟨L, hQ, e1, e2, e3⟩, st⟩ := h
  dsimp only [Pt.U, Pt.locs, Pt.cells, Pt.slots] at X e1 e2 e3 st hQ
  subst e1 e2 e3
  exact ⟨v, T, L, X, hQ, st⟩
theorem own_outC {kc ks : Nat} {Q : Option Value → Heap → List Loc → Prop} {s₀ : State} {F : Option Value → JFrame} {P1 : Vm → Prop}
    (h : ∃ (v : Option Value) (vm₁ : Vm) (B : Pt), P1 vm₁ ∧ Stand p l e R s m args below meth c B.U B.locs B.cells B.slots ∧ (∃ L, Q v B.U.heap L ∧ B.locs = locs ++ L ∧ B.cells = cells + kc ∧ B.slots = slots + ks) ∧ ∀ target, Steps p.tables e below (B.U.setTop (F v)) target → Steps p.tables e below s₀ target) :
    ∃ v T L, Stand p l e R s m args below meth c T (locs ++ L) (cells + kc) (slots + ks) ∧ Q v T.heap L ∧ ∀ target, Steps p.tables e below (T.setTop (F v)) target → Steps p.tables e below s₀ target := by
  obtain ⟨v, -, ⟨T, L0, k, n⟩, -, X, ⟨L, hQ, e1, e2, e3⟩, st⟩ := h
  dsimp only [Pt.U, Pt.locs, Pt.cells, Pt.slots] at X e1 e2 e3 st hQ
  subst e1 e2 e3
  exact ⟨v, T, L, X, hQ, st⟩
theorem own_outS {kc ks n0 : Nat} {Q : Option Value → Heap → Vm → List Loc → Prop} {s₀ : State} {F : Option Value → JFrame} {P1 : Vm → Prop}
    (h : ∃ (v : Option Value) (vm₁ : Vm) (B : Pt), P1 vm₁ ∧ Stand p l e R (s.setVm B.U.vm) m args below meth c B.U B.locs B.cells B.slots ∧ s.Since B.U.vm B.U.heap.size ∧ n0 ≤ B.U.heap.size ∧ (∃ L, Q v B.U.heap B.U.vm L ∧ B.locs = locs ++ L ∧ B.cells = cells + kc ∧ B.slots = slots + ks) ∧ Steps p.tables e below s₀ (B.U.setTop (F v))) :
    ∃ v T L, Stand p l e R (s.setVm T.vm) m args below meth c T (locs ++ L) (cells + kc) (slots + ks) ∧ s.Since T.vm T.heap.size ∧ n0 ≤ T.heap.size ∧ Q v T.heap T.vm L ∧ Steps p.tables e below s₀ (T.setTop (F v)) := by
  obtain ⟨v, -, ⟨T, L0, k, n⟩, -, X, hS, hg, ⟨L, hQ, e1, e2, e3⟩, st⟩ := h
  dsimp only [Pt.U, Pt.locs, Pt.cells, Pt.slots] at X e1 e2 e3 st hQ hS hg
  subst e1 e2 e3
  exact ⟨v, T, L, X, hS, hg, hQ, st⟩
theorem own_hide {n0 : Nat} (X : Stand p l e R s m args below meth c T locs cells slots) (N : Fr n0 locs) : ∃ L, Stand p l e R s m args below meth c T L cells slots ∧ Fr n0 L := ⟨_, X, N⟩
theorem own_exa_ne {a b : Addr} {C D : String} (A : Exa Z h a C) (B : Exa Z h b D) (hn : C ≠ D) : a ≠ b := fun q => by
  subst q
  obtain ⟨c1, k1, h1, h2, -⟩ := A
  obtain ⟨c2, k2, g1, g2, -⟩ := B
  cases h1.symm.trans g1
  exact ids_ne h2 g2 hn rfl
end Own
abbrev mn0 : MethodName := ⟨"java/lang/Math", "min", "(II)I"⟩
abbrev mn1 : MethodName := ⟨"java/lang/Math", "max", "(II)I"⟩
abbrev mn2 : MethodName := ⟨"com/example/tally_of_calls/tallyofcalls/CountsBetweenPinLaw", "digits", "(I)I"⟩
abbrev mn3 : MethodName := ⟨"java/lang/Integer", "stringSize", "(I)I"⟩
abbrev mn4 : MethodName := ⟨"java/lang/AbstractStringBuilder", "<init>", "(I)V"⟩
abbrev mn5 : MethodName := ⟨"java/lang/StringBuilder", "<init>", "()V"⟩
abbrev mn6 : MethodName := ⟨"java/lang/String", "coder", "()B"⟩
abbrev mn7 : MethodName := ⟨"java/lang/String", "length", "()I"⟩
abbrev mn8 : MethodName := ⟨"jdk/internal/util/ArraysSupport", "newLength", "(III)I"⟩
abbrev mn9 : MethodName := ⟨"java/lang/AbstractStringBuilder", "newCapacity", "(I)I"⟩
abbrev mn10 : MethodName := ⟨"java/util/Arrays", "copyOf", "([BI)[B"⟩
abbrev mn11 : MethodName := ⟨"java/lang/AbstractStringBuilder", "ensureCapacityInternal", "(I)V"⟩
abbrev mn12 : MethodName := ⟨"java/lang/AbstractStringBuilder", "inflateIfNeededFor", "(Ljava/lang/String;)V"⟩
abbrev mn13 : MethodName := ⟨"java/lang/String", "getBytes", "([BIB)V"⟩
abbrev mn14 : MethodName := ⟨"java/lang/AbstractStringBuilder", "putStringAt", "(ILjava/lang/String;)V"⟩
abbrev mn15 : MethodName := ⟨"java/lang/AbstractStringBuilder", "append", "(Ljava/lang/String;)Ljava/lang/AbstractStringBuilder;"⟩
abbrev mn16 : MethodName := ⟨"java/lang/StringBuilder", "append", "(Ljava/lang/String;)Ljava/lang/StringBuilder;"⟩
abbrev mn17 : MethodName := ⟨"java/lang/AbstractStringBuilder", "isLatin1", "()Z"⟩
abbrev mn18 : MethodName := ⟨"java/lang/Integer", "getChars", "(II[B)I"⟩
abbrev mn19 : MethodName := ⟨"java/lang/AbstractStringBuilder", "append", "(I)Ljava/lang/AbstractStringBuilder;"⟩
abbrev mn20 : MethodName := ⟨"java/lang/StringBuilder", "append", "(I)Ljava/lang/StringBuilder;"⟩
abbrev mn21 : MethodName := ⟨"java/lang/AbstractStringBuilder", "getValue", "()[B"⟩
abbrev mn22 : MethodName := ⟨"java/lang/AbstractStringBuilder", "length", "()I"⟩
abbrev mn23 : MethodName := ⟨"java/lang/StringBuilder", "length", "()I"⟩
abbrev mn24 : MethodName := ⟨"java/util/Arrays", "checkLength", "(II)V"⟩
abbrev mn25 : MethodName := ⟨"java/util/Arrays", "copyOfRangeByte", "([BII)[B"⟩
abbrev mn26 : MethodName := ⟨"java/util/Arrays", "copyOfRange", "([BII)[B"⟩
abbrev mn27 : MethodName := ⟨"java/lang/String", "<init>", "(Ljava/lang/AbstractStringBuilder;Ljava/lang/Void;)V"⟩
abbrev mn28 : MethodName := ⟨"java/lang/String", "<init>", "(Ljava/lang/StringBuilder;)V"⟩
abbrev mn29 : MethodName := ⟨"java/lang/StringBuilder", "toString", "()Ljava/lang/String;"⟩
abbrev mn30 : MethodName := ⟨"com/example/tally_of_calls/tallyofcalls/Count", "<init>", "(IJLjava/lang/String;)V"⟩
abbrev mn31 : MethodName := ⟨"com/example/tally_of_calls/tallyofcalls/Counts", "between", "(II)Lcom/example/tally_of_calls/tallyofcalls/Count;"⟩
abbrev mn32 : MethodName := ⟨"com/example/tally_of_calls/tallyofcalls/Count", "min", "()I"⟩
abbrev mn33 : MethodName := ⟨"com/example/tally_of_calls/tallyofcalls/Count", "max", "()J"⟩
abbrev mn34 : MethodName := ⟨"com/example/tally_of_calls/tallyofcalls/Count", "phrase", "()Ljava/lang/String;"⟩
abbrev mn35 : MethodName := ⟨"java/lang/StringUTF16", "compress", "([CI[BII)I"⟩
abbrev mn36 : MethodName := ⟨"java/lang/StringUTF16", "compress", "([CII)[B"⟩
abbrev mn37 : MethodName := ⟨"java/lang/StringUTF16", "coderFromArrayLen", "([BI)B"⟩
abbrev mn38 : MethodName := ⟨"java/lang/String", "<init>", "([CIILjava/lang/Void;)V"⟩
abbrev mn39 : MethodName := ⟨"java/lang/String", "<init>", "([C)V"⟩
abbrev mn40 : MethodName := ⟨"java/lang/StringLatin1", "equals", "([B[B)Z"⟩
abbrev mn41 : MethodName := ⟨"java/lang/String", "equals", "(Ljava/lang/Object;)Z"⟩
abbrev HW (a0 : Array Value) (Z : State) : Prop := ∀ d ∈ tables_1, d.before a0 Z = true
abbrev oF0 (Z : State) (h : Heap) (a : Addr) (v : Value) : Prop := Fld Z h a "java/lang/AbstractStringBuilder" "value" "[B" v
abbrev oF1 (Z : State) (h : Heap) (a : Addr) (v : Value) : Prop := Fld Z h a "java/lang/AbstractStringBuilder" "coder" "B" v
abbrev oF2 (Z : State) (h : Heap) (a : Addr) (v : Value) : Prop := Fld Z h a "java/lang/AbstractStringBuilder" "count" "I" v
abbrev oF3 (Z : State) (h : Heap) (a : Addr) (v : Value) : Prop := Fld Z h a "java/lang/String" "coder" "B" v
abbrev oF4 (Z : State) (h : Heap) (a : Addr) (v : Value) : Prop := Fld Z h a "java/lang/String" "value" "[B" v
abbrev oF5 (Z : State) (h : Heap) (a : Addr) (v : Value) : Prop := Fld Z h a "com/example/tally_of_calls/tallyofcalls/Count" "min" "I" v
abbrev oF6 (Z : State) (h : Heap) (a : Addr) (v : Value) : Prop := Fld Z h a "com/example/tally_of_calls/tallyofcalls/Count" "max" "J" v
abbrev oF7 (Z : State) (h : Heap) (a : Addr) (v : Value) : Prop := Fld Z h a "com/example/tally_of_calls/tallyofcalls/Count" "phrase" "Ljava/lang/String;" v
theorem oT {a b c : Nat} (h : a ≤ b) (h2 : b ≤ c) : a ≤ c := Nat.le_trans h h2
theorem oW {a b c : Nat} (h : a < b) (h2 : b ≤ c) : a < c := Nat.lt_of_lt_of_le h h2
theorem ow131 {Z : State} {a0 : Array Value} (hw : HW a0 Z) : (Jvm.Cond.code mn18 jdk_33_method_12_code (7 : Nat) (Option.some Jvm.ClassFile.FieldType.int)).before a0 Z = true := hw _ (List.mem_of_getElem? (i := 131) rfl)
theorem ow132 {Z : State} {a0 : Array Value} (hw : HW a0 Z) : (Jvm.Cond.fieldLink "java/lang/Integer" (83 : Nat) "java/lang/Integer" "DigitOnes" "[B").before a0 Z = true := hw _ (List.mem_of_getElem? (i := 132) rfl)
theorem ow229 {Z : State} {a0 : Array Value} (hw : HW a0 Z) : (Jvm.Cond.fieldLink "java/lang/Integer" (87 : Nat) "java/lang/Integer" "DigitTens" "[B").before a0 Z = true := hw _ (List.mem_of_getElem? (i := 229) rfl)
theorem ow122 {Z : State} {a0 : Array Value} (hw : HW a0 Z) : (Jvm.Cond.initialized "java/lang/Integer").before a0 Z = true := hw _ (List.mem_of_getElem? (i := 122) rfl)
theorem ow239 {Z : State} {a0 : Array Value} (hw : HW a0 Z) : (Jvm.Cond.constant "com/example/tally_of_calls/tallyofcalls/CountsBetweenPinLaw" (7 : Nat) (100000 : Int32)).before a0 Z = true := hw _ (List.mem_of_getElem? (i := 239) rfl)
theorem ow240 {Z : State} {a0 : Array Value} (hw : HW a0 Z) : (Jvm.Cond.constant "com/example/tally_of_calls/tallyofcalls/CountsBetweenPinLaw" (8 : Nat) (1000000 : Int32)).before a0 Z = true := hw _ (List.mem_of_getElem? (i := 240) rfl)
theorem ow241 {Z : State} {a0 : Array Value} (hw : HW a0 Z) : (Jvm.Cond.constant "com/example/tally_of_calls/tallyofcalls/CountsBetweenPinLaw" (9 : Nat) (10000000 : Int32)).before a0 Z = true := hw _ (List.mem_of_getElem? (i := 241) rfl)
theorem ow242 {Z : State} {a0 : Array Value} (hw : HW a0 Z) : (Jvm.Cond.constant "com/example/tally_of_calls/tallyofcalls/CountsBetweenPinLaw" (10 : Nat) (100000000 : Int32)).before a0 Z = true := hw _ (List.mem_of_getElem? (i := 242) rfl)
theorem ow243 {Z : State} {a0 : Array Value} (hw : HW a0 Z) : (Jvm.Cond.constant "com/example/tally_of_calls/tallyofcalls/CountsBetweenPinLaw" (11 : Nat) (1000000000 : Int32)).before a0 Z = true := hw _ (List.mem_of_getElem? (i := 243) rfl)
theorem ow12 {Z : State} {a0 : Array Value} (hw : HW a0 Z) : (Jvm.Cond.classLink "com/example/tally_of_calls/tallyofcalls/Counts" (35 : Nat) "com/example/tally_of_calls/tallyofcalls/Count").before a0 Z = true := hw _ (List.mem_of_getElem? (i := 12) rfl)
theorem ow13 {Z : State} {a0 : Array Value} (hw : HW a0 Z) : (Jvm.Cond.instantiable "com/example/tally_of_calls/tallyofcalls/Count" (3 : Nat)).before a0 Z = true := hw _ (List.mem_of_getElem? (i := 13) rfl)
theorem ow14 {Z : State} {a0 : Array Value} (hw : HW a0 Z) : (Jvm.Cond.initialized "com/example/tally_of_calls/tallyofcalls/Count").before a0 Z = true := hw _ (List.mem_of_getElem? (i := 14) rfl)
theorem ow176 {Z : State} {a0 : Array Value} (hw : HW a0 Z) : (Jvm.Cond.laysFinal "com/example/tally_of_calls/tallyofcalls/Count" "com/example/tally_of_calls/tallyofcalls/Count" "min" "I").before a0 Z = true := hw _ (List.mem_of_getElem? (i := 176) rfl)
theorem ow178 {Z : State} {a0 : Array Value} (hw : HW a0 Z) : (Jvm.Cond.laysFinal "com/example/tally_of_calls/tallyofcalls/Count" "com/example/tally_of_calls/tallyofcalls/Count" "max" "J").before a0 Z = true := hw _ (List.mem_of_getElem? (i := 178) rfl)
theorem ow180 {Z : State} {a0 : Array Value} (hw : HW a0 Z) : (Jvm.Cond.laysFinal "com/example/tally_of_calls/tallyofcalls/Count" "com/example/tally_of_calls/tallyofcalls/Count" "phrase" "Ljava/lang/String;").before a0 Z = true := hw _ (List.mem_of_getElem? (i := 180) rfl)
theorem ow15 {Z : State} {a0 : Array Value} (hw : HW a0 Z) : (Jvm.Cond.classLink "com/example/tally_of_calls/tallyofcalls/Counts" (13 : Nat) "java/lang/StringBuilder").before a0 Z = true := hw _ (List.mem_of_getElem? (i := 15) rfl)
theorem ow16 {Z : State} {a0 : Array Value} (hw : HW a0 Z) : (Jvm.Cond.instantiable "java/lang/StringBuilder" (4 : Nat)).before a0 Z = true := hw _ (List.mem_of_getElem? (i := 16) rfl)
theorem ow17 {Z : State} {a0 : Array Value} (hw : HW a0 Z) : (Jvm.Cond.initialized "java/lang/StringBuilder").before a0 Z = true := hw _ (List.mem_of_getElem? (i := 17) rfl)
theorem ow34 {Z : State} {a0 : Array Value} (hw : HW a0 Z) : (Jvm.Cond.lays "java/lang/StringBuilder" "java/lang/AbstractStringBuilder" "value" "[B").before a0 Z = true := hw _ (List.mem_of_getElem? (i := 34) rfl)
theorem ow36 {Z : State} {a0 : Array Value} (hw : HW a0 Z) : (Jvm.Cond.lays "java/lang/StringBuilder" "java/lang/AbstractStringBuilder" "coder" "B").before a0 Z = true := hw _ (List.mem_of_getElem? (i := 36) rfl)
theorem ow67 {Z : State} {a0 : Array Value} (hw : HW a0 Z) : (Jvm.Cond.lays "java/lang/StringBuilder" "java/lang/AbstractStringBuilder" "count" "I").before a0 Z = true := hw _ (List.mem_of_getElem? (i := 67) rfl)
theorem ow18 {Z : State} {a0 : Array Value} (hw : HW a0 Z) : (Jvm.Cond.methodLink "com/example/tally_of_calls/tallyofcalls/Counts" (15 : Nat) mn5).before a0 Z = true := hw _ (List.mem_of_getElem? (i := 18) rfl)
theorem ow21 {Z : State} {a0 : Array Value} (hw : HW a0 Z) : (Jvm.Cond.methodLink "java/lang/StringBuilder" (1 : Nat) mn4).before a0 Z = true := hw _ (List.mem_of_getElem? (i := 21) rfl)
theorem ow27 {Z : State} {a0 : Array Value} (hw : HW a0 Z) : (Jvm.Cond.methodLink "java/lang/AbstractStringBuilder" (3 : Nat) ({ cls := "java/lang/Object", name := "<init>", desc := "()V" } : Jvm.MethodName)).before a0 Z = true := hw _ (List.mem_of_getElem? (i := 27) rfl)
theorem ow29 {Z : State} {a0 : Array Value} (hw : HW a0 Z) : (Jvm.Cond.code ({ cls := "java/lang/Object", name := "<init>", desc := "()V" } : Jvm.MethodName) object_method_1_code (1 : Nat) (Option.none : Option Jvm.ClassFile.FieldType)).before a0 Z = true := hw _ (List.mem_of_getElem? (i := 29) rfl)
theorem ow28 {Z : State} {a0 : Array Value} (hw : HW a0 Z) : (Jvm.Cond.instanceMethod ({ cls := "java/lang/Object", name := "<init>", desc := "()V" } : Jvm.MethodName)).before a0 Z = true := hw _ (List.mem_of_getElem? (i := 28) rfl)
theorem ow30 {Z : State} {a0 : Array Value} (hw : HW a0 Z) : (Jvm.Cond.fieldLink "java/lang/AbstractStringBuilder" (18 : Nat) "java/lang/String" "COMPACT_STRINGS" "Z").before a0 Z = true := hw _ (List.mem_of_getElem? (i := 30) rfl)
theorem ow32 {Z : State} {a0 : Array Value} (hw : HW a0 Z) : (Jvm.Cond.arrayClass Jvm.ClassFile.FieldType.byte).before a0 Z = true := hw _ (List.mem_of_getElem? (i := 32) rfl)
def own_ls0 : List Value := [(.int (0 : Int32)), (.int (0 : Int32)), (.int (0 : Int32)), (.int (0 : Int32)), (.int (0 : Int32)), (.int (0 : Int32)), (.int (0 : Int32)), (.int (0 : Int32)), (.int (0 : Int32)), (.int (0 : Int32)), (.int (0 : Int32)), (.int (0 : Int32)), (.int (0 : Int32)), (.int (0 : Int32)), (.int (0 : Int32)), (.int (0 : Int32))]
theorem ow33 {Z : State} {a0 : Array Value} (hw : HW a0 Z) : (Jvm.Cond.fieldLink "java/lang/AbstractStringBuilder" (15 : Nat) "java/lang/AbstractStringBuilder" "value" "[B").before a0 Z = true := hw _ (List.mem_of_getElem? (i := 33) rfl)
theorem ow35 {Z : State} {a0 : Array Value} (hw : HW a0 Z) : (Jvm.Cond.fieldLink "java/lang/AbstractStringBuilder" (22 : Nat) "java/lang/AbstractStringBuilder" "coder" "B").before a0 Z = true := hw _ (List.mem_of_getElem? (i := 35) rfl)
theorem sn_36_34 {Z : State} {a0 : Array Value} (hw : HW a0 Z) : Jvm.RoadKit.slotOf Z "java/lang/AbstractStringBuilder" "coder" "B" ≠ Jvm.RoadKit.slotOf Z "java/lang/AbstractStringBuilder" "value" "[B" := slot_ne (Or.inl (ow36 hw)) (Or.inl (ow34 hw)) (by decide) (t := .byte) (t' := (.array .byte)) (by decide) (by decide)
theorem sn_34_36 {Z : State} {a0 : Array Value} (hw : HW a0 Z) : Jvm.RoadKit.slotOf Z "java/lang/AbstractStringBuilder" "value" "[B" ≠ Jvm.RoadKit.slotOf Z "java/lang/AbstractStringBuilder" "coder" "B" := slot_ne (Or.inl (ow34 hw)) (Or.inl (ow36 hw)) (by decide) (t := (.array .byte)) (t' := .byte) (by decide) (by decide)
theorem sn_67_34 {Z : State} {a0 : Array Value} (hw : HW a0 Z) : Jvm.RoadKit.slotOf Z "java/lang/AbstractStringBuilder" "count" "I" ≠ Jvm.RoadKit.slotOf Z "java/lang/AbstractStringBuilder" "value" "[B" := slot_ne (Or.inl (ow67 hw)) (Or.inl (ow34 hw)) (by decide) (t := .int) (t' := (.array .byte)) (by decide) (by decide)
theorem sn_67_36 {Z : State} {a0 : Array Value} (hw : HW a0 Z) : Jvm.RoadKit.slotOf Z "java/lang/AbstractStringBuilder" "count" "I" ≠ Jvm.RoadKit.slotOf Z "java/lang/AbstractStringBuilder" "coder" "B" := slot_ne (Or.inl (ow67 hw)) (Or.inl (ow36 hw)) (by decide) (t := .int) (t' := .byte) (by decide) (by decide)
theorem ow26 {Z : State} {a0 : Array Value} (hw : HW a0 Z) : (Jvm.Cond.code mn4 jdk_68_method_2_code (2 : Nat) (Option.none : Option Jvm.ClassFile.FieldType)).before a0 Z = true := hw _ (List.mem_of_getElem? (i := 26) rfl)
theorem ow25 {Z : State} {a0 : Array Value} (hw : HW a0 Z) : (Jvm.Cond.initialized "java/lang/AbstractStringBuilder").before a0 Z = true := hw _ (List.mem_of_getElem? (i := 25) rfl)
theorem ow22 {Z : State} {a0 : Array Value} (hw : HW a0 Z) : (Jvm.Cond.instanceMethod mn4).before a0 Z = true := hw _ (List.mem_of_getElem? (i := 22) rfl)
theorem ow20 {Z : State} {a0 : Array Value} (hw : HW a0 Z) : (Jvm.Cond.code mn5 jdk_67_method_1_code (1 : Nat) (Option.none : Option Jvm.ClassFile.FieldType)).before a0 Z = true := hw _ (List.mem_of_getElem? (i := 20) rfl)
theorem ow19 {Z : State} {a0 : Array Value} (hw : HW a0 Z) : (Jvm.Cond.instanceMethod mn5).before a0 Z = true := hw _ (List.mem_of_getElem? (i := 19) rfl)
theorem ow37 {Z : State} {a0 : Array Value} (hw : HW a0 Z) : (Jvm.Cond.stringLink "com/example/tally_of_calls/tallyofcalls/Counts" (65 : Nat) "expected between ").before a0 Z = true := hw _ (List.mem_of_getElem? (i := 37) rfl)
def own_lit0 : List Value := [(.int (101 : Int32)), (.int (120 : Int32)), (.int (112 : Int32)), (.int (101 : Int32)), (.int (99 : Int32)), (.int (116 : Int32)), (.int (101 : Int32)), (.int (100 : Int32)), (.int (32 : Int32)), (.int (98 : Int32)), (.int (101 : Int32)), (.int (116 : Int32)), (.int (119 : Int32)), (.int (101 : Int32)), (.int (101 : Int32)), (.int (110 : Int32)), (.int (32 : Int32))]
theorem own_lit0_ok : (∀ c ∈ "expected between ".toList, c.toNat < 256) ∧ "expected between ".toList.map (fun c => Value.int (Jvm.Lit.byteI c.toNat.toUInt16)) = own_lit0 := ⟨by decide +kernel, by decide +kernel⟩
theorem own_lit0_len : (17 : Int32).toNatClampNeg = own_lit0.length := by decide +kernel
theorem ow43 {Z : State} {a0 : Array Value} (hw : HW a0 Z) : (Jvm.Cond.methodLink "com/example/tally_of_calls/tallyofcalls/Counts" (18 : Nat) mn16).before a0 Z = true := hw _ (List.mem_of_getElem? (i := 43) rfl)
def own_ls1 : List Value := [(.int (101 : Int32)), (.int (120 : Int32)), (.int (112 : Int32)), (.int (101 : Int32)), (.int (99 : Int32)), (.int (116 : Int32)), (.int (101 : Int32)), (.int (100 : Int32)), (.int (32 : Int32)), (.int (98 : Int32)), (.int (101 : Int32)), (.int (116 : Int32)), (.int (119 : Int32)), (.int (101 : Int32)), (.int (101 : Int32)), (.int (110 : Int32)), (.int (32 : Int32))]
theorem ow48 {Z : State} {a0 : Array Value} (hw : HW a0 Z) : (Jvm.Cond.methodLink "java/lang/StringBuilder" (29 : Nat) mn15).before a0 Z = true := hw _ (List.mem_of_getElem? (i := 48) rfl)
theorem ow53 {Z : State} {a0 : Array Value} (hw : HW a0 Z) : (Jvm.Cond.methodLink "java/lang/AbstractStringBuilder" (32 : Nat) mn7).before a0 Z = true := hw _ (List.mem_of_getElem? (i := 53) rfl)
theorem ow58 {Z : State} {a0 : Array Value} (hw : HW a0 Z) : (Jvm.Cond.fieldLink "java/lang/String" (9 : Nat) "java/lang/String" "value" "[B").before a0 Z = true := hw _ (List.mem_of_getElem? (i := 58) rfl)
theorem ow59 {Z : State} {a0 : Array Value} (hw : HW a0 Z) : (Jvm.Cond.methodLink "java/lang/String" (335 : Nat) mn6).before a0 Z = true := hw _ (List.mem_of_getElem? (i := 59) rfl)
theorem ow64 {Z : State} {a0 : Array Value} (hw : HW a0 Z) : (Jvm.Cond.fieldLink "java/lang/String" (38 : Nat) "java/lang/String" "COMPACT_STRINGS" "Z").before a0 Z = true := hw _ (List.mem_of_getElem? (i := 64) rfl)
theorem ow65 {Z : State} {a0 : Array Value} (hw : HW a0 Z) : (Jvm.Cond.fieldLink "java/lang/String" (15 : Nat) "java/lang/String" "coder" "B").before a0 Z = true := hw _ (List.mem_of_getElem? (i := 65) rfl)
theorem ow63 {Z : State} {a0 : Array Value} (hw : HW a0 Z) : (Jvm.Cond.code mn6 jdk_42_method_152_code (1 : Nat) (Option.some Jvm.ClassFile.FieldType.byte)).before a0 Z = true := hw _ (List.mem_of_getElem? (i := 63) rfl)
theorem ow31 {Z : State} {a0 : Array Value} (hw : HW a0 Z) : (Jvm.Cond.initialized "java/lang/String").before a0 Z = true := hw _ (List.mem_of_getElem? (i := 31) rfl)
theorem ow62 {Z : State} {a0 : Array Value} (hw : HW a0 Z) : (Jvm.Cond.selects "java/lang/String" mn6 mn6).before a0 Z = true := hw _ (List.mem_of_getElem? (i := 62) rfl)
theorem ow60 {Z : State} {a0 : Array Value} (hw : HW a0 Z) : (Jvm.Cond.declares mn6).before a0 Z = true := hw _ (List.mem_of_getElem? (i := 60) rfl)
theorem ow61 {Z : State} {a0 : Array Value} (hw : HW a0 Z) : (Jvm.Cond.instanceMethod mn6).before a0 Z = true := hw _ (List.mem_of_getElem? (i := 61) rfl)
theorem ow57 {Z : State} {a0 : Array Value} (hw : HW a0 Z) : (Jvm.Cond.code mn7 jdk_42_method_54_code (1 : Nat) (Option.some Jvm.ClassFile.FieldType.int)).before a0 Z = true := hw _ (List.mem_of_getElem? (i := 57) rfl)
theorem ow56 {Z : State} {a0 : Array Value} (hw : HW a0 Z) : (Jvm.Cond.selects "java/lang/String" mn7 mn7).before a0 Z = true := hw _ (List.mem_of_getElem? (i := 56) rfl)
theorem ow54 {Z : State} {a0 : Array Value} (hw : HW a0 Z) : (Jvm.Cond.declares mn7).before a0 Z = true := hw _ (List.mem_of_getElem? (i := 54) rfl)
theorem ow55 {Z : State} {a0 : Array Value} (hw : HW a0 Z) : (Jvm.Cond.instanceMethod mn7).before a0 Z = true := hw _ (List.mem_of_getElem? (i := 55) rfl)
theorem ow66 {Z : State} {a0 : Array Value} (hw : HW a0 Z) : (Jvm.Cond.fieldLink "java/lang/AbstractStringBuilder" (79 : Nat) "java/lang/AbstractStringBuilder" "count" "I").before a0 Z = true := hw _ (List.mem_of_getElem? (i := 66) rfl)
theorem ow68 {Z : State} {a0 : Array Value} (hw : HW a0 Z) : (Jvm.Cond.methodLink "java/lang/AbstractStringBuilder" (100 : Nat) mn11).before a0 Z = true := hw _ (List.mem_of_getElem? (i := 68) rfl)
theorem ow73 {Z : State} {a0 : Array Value} (hw : HW a0 Z) : (Jvm.Cond.methodLink "java/lang/AbstractStringBuilder" (104 : Nat) mn9).before a0 Z = true := hw _ (List.mem_of_getElem? (i := 73) rfl)
theorem ow78 {Z : State} {a0 : Array Value} (hw : HW a0 Z) : (Jvm.Cond.methodLink "java/lang/AbstractStringBuilder" (114 : Nat) mn8).before a0 Z = true := hw _ (List.mem_of_getElem? (i := 78) rfl)
theorem ow82 {Z : State} {a0 : Array Value} (hw : HW a0 Z) : (Jvm.Cond.methodLink "jdk/internal/util/ArraysSupport" (194 : Nat) mn1).before a0 Z = true := hw _ (List.mem_of_getElem? (i := 82) rfl)
theorem ow7 {Z : State} {a0 : Array Value} (hw : HW a0 Z) : (Jvm.Cond.code mn1 jdk_29_method_65_code (2 : Nat) (Option.some Jvm.ClassFile.FieldType.int)).before a0 Z = true := hw _ (List.mem_of_getElem? (i := 7) rfl)
theorem ow3 {Z : State} {a0 : Array Value} (hw : HW a0 Z) : (Jvm.Cond.initialized "java/lang/Math").before a0 Z = true := hw _ (List.mem_of_getElem? (i := 3) rfl)
theorem ow6 {Z : State} {a0 : Array Value} (hw : HW a0 Z) : (Jvm.Cond.static mn1).before a0 Z = true := hw _ (List.mem_of_getElem? (i := 6) rfl)
theorem ow83 {Z : State} {a0 : Array Value} (hw : HW a0 Z) : (Jvm.Cond.constant "jdk/internal/util/ArraysSupport" (200 : Nat) (2147483639 : Int32)).before a0 Z = true := hw _ (List.mem_of_getElem? (i := 83) rfl)
theorem ow81 {Z : State} {a0 : Array Value} (hw : HW a0 Z) : (Jvm.Cond.code mn8 jdk_48_method_27_code (4 : Nat) (Option.some Jvm.ClassFile.FieldType.int)).before a0 Z = true := hw _ (List.mem_of_getElem? (i := 81) rfl)
theorem ow80 {Z : State} {a0 : Array Value} (hw : HW a0 Z) : (Jvm.Cond.initialized "jdk/internal/util/ArraysSupport").before a0 Z = true := hw _ (List.mem_of_getElem? (i := 80) rfl)
theorem ow79 {Z : State} {a0 : Array Value} (hw : HW a0 Z) : (Jvm.Cond.static mn8).before a0 Z = true := hw _ (List.mem_of_getElem? (i := 79) rfl)
theorem ow84 {Z : State} {a0 : Array Value} (hw : HW a0 Z) : (Jvm.Cond.constant "java/lang/AbstractStringBuilder" (39 : Nat) (2147483647 : Int32)).before a0 Z = true := hw _ (List.mem_of_getElem? (i := 84) rfl)
theorem ow77 {Z : State} {a0 : Array Value} (hw : HW a0 Z) : (Jvm.Cond.code mn9 jdk_68_method_10_code (6 : Nat) (Option.some Jvm.ClassFile.FieldType.int)).before a0 Z = true := hw _ (List.mem_of_getElem? (i := 77) rfl)
theorem ow74 {Z : State} {a0 : Array Value} (hw : HW a0 Z) : (Jvm.Cond.instanceMethod mn9).before a0 Z = true := hw _ (List.mem_of_getElem? (i := 74) rfl)
theorem ow76 {Z : State} {a0 : Array Value} (hw : HW a0 Z) : (Jvm.Cond.selects "java/lang/StringBuilder" mn9 mn9).before a0 Z = true := hw _ (List.mem_of_getElem? (i := 76) rfl)
theorem ow75 {Z : State} {a0 : Array Value} (hw : HW a0 Z) : (Jvm.Cond.privateMethod mn9).before a0 Z = true := hw _ (List.mem_of_getElem? (i := 75) rfl)
theorem ow85 {Z : State} {a0 : Array Value} (hw : HW a0 Z) : (Jvm.Cond.methodLink "java/lang/AbstractStringBuilder" (108 : Nat) mn10).before a0 Z = true := hw _ (List.mem_of_getElem? (i := 85) rfl)
def own_ls2 : List Value := [(.int (0 : Int32)), (.int (0 : Int32)), (.int (0 : Int32)), (.int (0 : Int32)), (.int (0 : Int32)), (.int (0 : Int32)), (.int (0 : Int32)), (.int (0 : Int32)), (.int (0 : Int32)), (.int (0 : Int32)), (.int (0 : Int32)), (.int (0 : Int32)), (.int (0 : Int32)), (.int (0 : Int32)), (.int (0 : Int32)), (.int (0 : Int32)), (.int (0 : Int32)), (.int (0 : Int32)), (.int (0 : Int32)), (.int (0 : Int32)), (.int (0 : Int32)), (.int (0 : Int32)), (.int (0 : Int32)), (.int (0 : Int32)), (.int (0 : Int32)), (.int (0 : Int32)), (.int (0 : Int32)), (.int (0 : Int32)), (.int (0 : Int32)), (.int (0 : Int32)), (.int (0 : Int32)), (.int (0 : Int32)), (.int (0 : Int32)), (.int (0 : Int32))]
theorem ow89 {Z : State} {a0 : Array Value} (hw : HW a0 Z) : (Jvm.Cond.methodLink "java/util/Arrays" (304 : Nat) mn0).before a0 Z = true := hw _ (List.mem_of_getElem? (i := 89) rfl)
theorem ow4 {Z : State} {a0 : Array Value} (hw : HW a0 Z) : (Jvm.Cond.code mn0 jdk_29_method_69_code (2 : Nat) (Option.some Jvm.ClassFile.FieldType.int)).before a0 Z = true := hw _ (List.mem_of_getElem? (i := 4) rfl)
theorem ow2 {Z : State} {a0 : Array Value} (hw : HW a0 Z) : (Jvm.Cond.static mn0).before a0 Z = true := hw _ (List.mem_of_getElem? (i := 2) rfl)
theorem ow90 {Z : State} {a0 : Array Value} (hw : HW a0 Z) : (Jvm.Cond.methodLink "java/util/Arrays" (150 : Nat) ({ cls := "java/lang/System", name := "arraycopy", desc := "(Ljava/lang/Object;ILjava/lang/Object;II)V" } : Jvm.MethodName)).before a0 Z = true := hw _ (List.mem_of_getElem? (i := 90) rfl)
theorem ow93 {Z : State} {a0 : Array Value} (hw : HW a0 Z) : (Jvm.Cond.native ({ cls := "java/lang/System", name := "arraycopy", desc := "(Ljava/lang/Object;ILjava/lang/Object;II)V" } : Jvm.MethodName)).before a0 Z = true := hw _ (List.mem_of_getElem? (i := 93) rfl)
theorem ow91 {Z : State} {a0 : Array Value} (hw : HW a0 Z) : (Jvm.Cond.static ({ cls := "java/lang/System", name := "arraycopy", desc := "(Ljava/lang/Object;ILjava/lang/Object;II)V" } : Jvm.MethodName)).before a0 Z = true := hw _ (List.mem_of_getElem? (i := 91) rfl)
theorem ow92 {Z : State} {a0 : Array Value} (hw : HW a0 Z) : (Jvm.Cond.initialized "java/lang/System").before a0 Z = true := hw _ (List.mem_of_getElem? (i := 92) rfl)
theorem ow88 {Z : State} {a0 : Array Value} (hw : HW a0 Z) : (Jvm.Cond.code mn10 jdk_65_method_121_code (3 : Nat) (Option.some (Jvm.ClassFile.FieldType.array Jvm.ClassFile.FieldType.byte))).before a0 Z = true := hw _ (List.mem_of_getElem? (i := 88) rfl)
theorem ow87 {Z : State} {a0 : Array Value} (hw : HW a0 Z) : (Jvm.Cond.initialized "java/util/Arrays").before a0 Z = true := hw _ (List.mem_of_getElem? (i := 87) rfl)
theorem ow86 {Z : State} {a0 : Array Value} (hw : HW a0 Z) : (Jvm.Cond.static mn10).before a0 Z = true := hw _ (List.mem_of_getElem? (i := 86) rfl)
theorem ow72 {Z : State} {a0 : Array Value} (hw : HW a0 Z) : (Jvm.Cond.code mn11 jdk_68_method_9_code (3 : Nat) (Option.none : Option Jvm.ClassFile.FieldType)).before a0 Z = true := hw _ (List.mem_of_getElem? (i := 72) rfl)
theorem ow69 {Z : State} {a0 : Array Value} (hw : HW a0 Z) : (Jvm.Cond.instanceMethod mn11).before a0 Z = true := hw _ (List.mem_of_getElem? (i := 69) rfl)
theorem ow71 {Z : State} {a0 : Array Value} (hw : HW a0 Z) : (Jvm.Cond.selects "java/lang/StringBuilder" mn11 mn11).before a0 Z = true := hw _ (List.mem_of_getElem? (i := 71) rfl)
theorem ow70 {Z : State} {a0 : Array Value} (hw : HW a0 Z) : (Jvm.Cond.privateMethod mn11).before a0 Z = true := hw _ (List.mem_of_getElem? (i := 70) rfl)
theorem ow94 {Z : State} {a0 : Array Value} (hw : HW a0 Z) : (Jvm.Cond.methodLink "java/lang/AbstractStringBuilder" (208 : Nat) mn14).before a0 Z = true := hw _ (List.mem_of_getElem? (i := 94) rfl)
theorem ow99 {Z : State} {a0 : Array Value} (hw : HW a0 Z) : (Jvm.Cond.methodLink "java/lang/AbstractStringBuilder" (397 : Nat) mn12).before a0 Z = true := hw _ (List.mem_of_getElem? (i := 99) rfl)
theorem ow104 {Z : State} {a0 : Array Value} (hw : HW a0 Z) : (Jvm.Cond.methodLink "java/lang/AbstractStringBuilder" (40 : Nat) mn6).before a0 Z = true := hw _ (List.mem_of_getElem? (i := 104) rfl)
theorem ow103 {Z : State} {a0 : Array Value} (hw : HW a0 Z) : (Jvm.Cond.code mn12 jdk_68_method_71_code (2 : Nat) (Option.none : Option Jvm.ClassFile.FieldType)).before a0 Z = true := hw _ (List.mem_of_getElem? (i := 103) rfl)
theorem ow100 {Z : State} {a0 : Array Value} (hw : HW a0 Z) : (Jvm.Cond.instanceMethod mn12).before a0 Z = true := hw _ (List.mem_of_getElem? (i := 100) rfl)
theorem ow102 {Z : State} {a0 : Array Value} (hw : HW a0 Z) : (Jvm.Cond.selects "java/lang/StringBuilder" mn12 mn12).before a0 Z = true := hw _ (List.mem_of_getElem? (i := 102) rfl)
theorem ow101 {Z : State} {a0 : Array Value} (hw : HW a0 Z) : (Jvm.Cond.privateMethod mn12).before a0 Z = true := hw _ (List.mem_of_getElem? (i := 101) rfl)
theorem ow105 {Z : State} {a0 : Array Value} (hw : HW a0 Z) : (Jvm.Cond.methodLink "java/lang/AbstractStringBuilder" (399 : Nat) mn13).before a0 Z = true := hw _ (List.mem_of_getElem? (i := 105) rfl)
theorem ow110 {Z : State} {a0 : Array Value} (hw : HW a0 Z) : (Jvm.Cond.methodLink "java/lang/String" (212 : Nat) ({ cls := "java/lang/System", name := "arraycopy", desc := "(Ljava/lang/Object;ILjava/lang/Object;II)V" } : Jvm.MethodName)).before a0 Z = true := hw _ (List.mem_of_getElem? (i := 110) rfl)
def own_ls3 : List Value := [(.int (101 : Int32)), (.int (120 : Int32)), (.int (112 : Int32)), (.int (101 : Int32)), (.int (99 : Int32)), (.int (116 : Int32)), (.int (101 : Int32)), (.int (100 : Int32)), (.int (32 : Int32)), (.int (98 : Int32)), (.int (101 : Int32)), (.int (116 : Int32)), (.int (119 : Int32)), (.int (101 : Int32)), (.int (101 : Int32)), (.int (110 : Int32)), (.int (32 : Int32)), (.int (0 : Int32)), (.int (0 : Int32)), (.int (0 : Int32)), (.int (0 : Int32)), (.int (0 : Int32)), (.int (0 : Int32)), (.int (0 : Int32)), (.int (0 : Int32)), (.int (0 : Int32)), (.int (0 : Int32)), (.int (0 : Int32)), (.int (0 : Int32)), (.int (0 : Int32)), (.int (0 : Int32)), (.int (0 : Int32)), (.int (0 : Int32)), (.int (0 : Int32))]
theorem ow109 {Z : State} {a0 : Array Value} (hw : HW a0 Z) : (Jvm.Cond.code mn13 jdk_42_method_147_code (4 : Nat) (Option.none : Option Jvm.ClassFile.FieldType)).before a0 Z = true := hw _ (List.mem_of_getElem? (i := 109) rfl)
theorem ow108 {Z : State} {a0 : Array Value} (hw : HW a0 Z) : (Jvm.Cond.selects "java/lang/String" mn13 mn13).before a0 Z = true := hw _ (List.mem_of_getElem? (i := 108) rfl)
theorem ow106 {Z : State} {a0 : Array Value} (hw : HW a0 Z) : (Jvm.Cond.declares mn13).before a0 Z = true := hw _ (List.mem_of_getElem? (i := 106) rfl)
theorem ow107 {Z : State} {a0 : Array Value} (hw : HW a0 Z) : (Jvm.Cond.instanceMethod mn13).before a0 Z = true := hw _ (List.mem_of_getElem? (i := 107) rfl)
theorem ow98 {Z : State} {a0 : Array Value} (hw : HW a0 Z) : (Jvm.Cond.code mn14 jdk_68_method_73_code (3 : Nat) (Option.none : Option Jvm.ClassFile.FieldType)).before a0 Z = true := hw _ (List.mem_of_getElem? (i := 98) rfl)
theorem ow95 {Z : State} {a0 : Array Value} (hw : HW a0 Z) : (Jvm.Cond.instanceMethod mn14).before a0 Z = true := hw _ (List.mem_of_getElem? (i := 95) rfl)
theorem ow97 {Z : State} {a0 : Array Value} (hw : HW a0 Z) : (Jvm.Cond.selects "java/lang/StringBuilder" mn14 mn14).before a0 Z = true := hw _ (List.mem_of_getElem? (i := 97) rfl)
theorem ow96 {Z : State} {a0 : Array Value} (hw : HW a0 Z) : (Jvm.Cond.privateMethod mn14).before a0 Z = true := hw _ (List.mem_of_getElem? (i := 96) rfl)
theorem sn_34_67 {Z : State} {a0 : Array Value} (hw : HW a0 Z) : Jvm.RoadKit.slotOf Z "java/lang/AbstractStringBuilder" "value" "[B" ≠ Jvm.RoadKit.slotOf Z "java/lang/AbstractStringBuilder" "count" "I" := slot_ne (Or.inl (ow34 hw)) (Or.inl (ow67 hw)) (by decide) (t := (.array .byte)) (t' := .int) (by decide) (by decide)
theorem sn_36_67 {Z : State} {a0 : Array Value} (hw : HW a0 Z) : Jvm.RoadKit.slotOf Z "java/lang/AbstractStringBuilder" "coder" "B" ≠ Jvm.RoadKit.slotOf Z "java/lang/AbstractStringBuilder" "count" "I" := slot_ne (Or.inl (ow36 hw)) (Or.inl (ow67 hw)) (by decide) (t := .byte) (t' := .int) (by decide) (by decide)
theorem ow52 {Z : State} {a0 : Array Value} (hw : HW a0 Z) : (Jvm.Cond.code mn15 jdk_68_method_22_code (3 : Nat) (Option.some (Jvm.ClassFile.FieldType.object "java/lang/AbstractStringBuilder"))).before a0 Z = true := hw _ (List.mem_of_getElem? (i := 52) rfl)
theorem ow49 {Z : State} {a0 : Array Value} (hw : HW a0 Z) : (Jvm.Cond.instanceMethod mn15).before a0 Z = true := hw _ (List.mem_of_getElem? (i := 49) rfl)
theorem ow50 {Z : State} {a0 : Array Value} (hw : HW a0 Z) : (Jvm.Cond.superclass "java/lang/StringBuilder" "java/lang/AbstractStringBuilder").before a0 Z = true := hw _ (List.mem_of_getElem? (i := 50) rfl)
theorem ow47 {Z : State} {a0 : Array Value} (hw : HW a0 Z) : (Jvm.Cond.code mn16 jdk_67_method_7_code (2 : Nat) (Option.some (Jvm.ClassFile.FieldType.object "java/lang/StringBuilder"))).before a0 Z = true := hw _ (List.mem_of_getElem? (i := 47) rfl)
theorem ow46 {Z : State} {a0 : Array Value} (hw : HW a0 Z) : (Jvm.Cond.selects "java/lang/StringBuilder" mn16 mn16).before a0 Z = true := hw _ (List.mem_of_getElem? (i := 46) rfl)
theorem ow44 {Z : State} {a0 : Array Value} (hw : HW a0 Z) : (Jvm.Cond.declares mn16).before a0 Z = true := hw _ (List.mem_of_getElem? (i := 44) rfl)
theorem ow45 {Z : State} {a0 : Array Value} (hw : HW a0 Z) : (Jvm.Cond.instanceMethod mn16).before a0 Z = true := hw _ (List.mem_of_getElem? (i := 45) rfl)
theorem ow111 {Z : State} {a0 : Array Value} (hw : HW a0 Z) : (Jvm.Cond.methodLink "com/example/tally_of_calls/tallyofcalls/Counts" (22 : Nat) mn20).before a0 Z = true := hw _ (List.mem_of_getElem? (i := 111) rfl)
theorem ow116 {Z : State} {a0 : Array Value} (hw : HW a0 Z) : (Jvm.Cond.methodLink "java/lang/StringBuilder" (53 : Nat) mn19).before a0 Z = true := hw _ (List.mem_of_getElem? (i := 116) rfl)
theorem ow120 {Z : State} {a0 : Array Value} (hw : HW a0 Z) : (Jvm.Cond.methodLink "java/lang/AbstractStringBuilder" (245 : Nat) mn3).before a0 Z = true := hw _ (List.mem_of_getElem? (i := 120) rfl)
theorem ow123 {Z : State} {a0 : Array Value} (hw : HW a0 Z) : (Jvm.Cond.code mn3 jdk_33_method_13_code (4 : Nat) (Option.some Jvm.ClassFile.FieldType.int)).before a0 Z = true := hw _ (List.mem_of_getElem? (i := 123) rfl)
theorem ow121 {Z : State} {a0 : Array Value} (hw : HW a0 Z) : (Jvm.Cond.static mn3).before a0 Z = true := hw _ (List.mem_of_getElem? (i := 121) rfl)
theorem ow124 {Z : State} {a0 : Array Value} (hw : HW a0 Z) : (Jvm.Cond.methodLink "java/lang/AbstractStringBuilder" (83 : Nat) mn17).before a0 Z = true := hw _ (List.mem_of_getElem? (i := 124) rfl)
theorem ow128 {Z : State} {a0 : Array Value} (hw : HW a0 Z) : (Jvm.Cond.code mn17 jdk_68_method_68_code (1 : Nat) (Option.some Jvm.ClassFile.FieldType.boolean)).before a0 Z = true := hw _ (List.mem_of_getElem? (i := 128) rfl)
theorem ow127 {Z : State} {a0 : Array Value} (hw : HW a0 Z) : (Jvm.Cond.selects "java/lang/StringBuilder" mn17 mn17).before a0 Z = true := hw _ (List.mem_of_getElem? (i := 127) rfl)
theorem ow125 {Z : State} {a0 : Array Value} (hw : HW a0 Z) : (Jvm.Cond.declares mn17).before a0 Z = true := hw _ (List.mem_of_getElem? (i := 125) rfl)
theorem ow126 {Z : State} {a0 : Array Value} (hw : HW a0 Z) : (Jvm.Cond.instanceMethod mn17).before a0 Z = true := hw _ (List.mem_of_getElem? (i := 126) rfl)
theorem ow129 {Z : State} {a0 : Array Value} (hw : HW a0 Z) : (Jvm.Cond.methodLink "java/lang/AbstractStringBuilder" (248 : Nat) mn18).before a0 Z = true := hw _ (List.mem_of_getElem? (i := 129) rfl)
theorem ow130 {Z : State} {a0 : Array Value} (hw : HW a0 Z) : (Jvm.Cond.static mn18).before a0 Z = true := hw _ (List.mem_of_getElem? (i := 130) rfl)
theorem ow119 {Z : State} {a0 : Array Value} (hw : HW a0 Z) : (Jvm.Cond.code mn19 jdk_68_method_32_code (4 : Nat) (Option.some (Jvm.ClassFile.FieldType.object "java/lang/AbstractStringBuilder"))).before a0 Z = true := hw _ (List.mem_of_getElem? (i := 119) rfl)
theorem ow117 {Z : State} {a0 : Array Value} (hw : HW a0 Z) : (Jvm.Cond.instanceMethod mn19).before a0 Z = true := hw _ (List.mem_of_getElem? (i := 117) rfl)
theorem ow115 {Z : State} {a0 : Array Value} (hw : HW a0 Z) : (Jvm.Cond.code mn20 jdk_67_method_15_code (2 : Nat) (Option.some (Jvm.ClassFile.FieldType.object "java/lang/StringBuilder"))).before a0 Z = true := hw _ (List.mem_of_getElem? (i := 115) rfl)
theorem ow114 {Z : State} {a0 : Array Value} (hw : HW a0 Z) : (Jvm.Cond.selects "java/lang/StringBuilder" mn20 mn20).before a0 Z = true := hw _ (List.mem_of_getElem? (i := 114) rfl)
theorem ow112 {Z : State} {a0 : Array Value} (hw : HW a0 Z) : (Jvm.Cond.declares mn20).before a0 Z = true := hw _ (List.mem_of_getElem? (i := 112) rfl)
theorem ow113 {Z : State} {a0 : Array Value} (hw : HW a0 Z) : (Jvm.Cond.instanceMethod mn20).before a0 Z = true := hw _ (List.mem_of_getElem? (i := 113) rfl)
theorem ow133 {Z : State} {a0 : Array Value} (hw : HW a0 Z) : (Jvm.Cond.stringLink "com/example/tally_of_calls/tallyofcalls/Counts" (67 : Nat) " and ").before a0 Z = true := hw _ (List.mem_of_getElem? (i := 133) rfl)
def own_lit1 : List Value := [(.int (32 : Int32)), (.int (97 : Int32)), (.int (110 : Int32)), (.int (100 : Int32)), (.int (32 : Int32))]
theorem own_lit1_ok : (∀ c ∈ " and ".toList, c.toNat < 256) ∧ " and ".toList.map (fun c => Value.int (Jvm.Lit.byteI c.toNat.toUInt16)) = own_lit1 := ⟨by decide +kernel, by decide +kernel⟩
theorem own_lit1_len : (5 : Int32).toNatClampNeg = own_lit1.length := by decide +kernel
def own_ls4 : List Value := [(.int (32 : Int32)), (.int (97 : Int32)), (.int (110 : Int32)), (.int (100 : Int32)), (.int (32 : Int32))]
theorem ow134 {Z : State} {a0 : Array Value} (hw : HW a0 Z) : (Jvm.Cond.methodLink "com/example/tally_of_calls/tallyofcalls/Counts" (27 : Nat) mn29).before a0 Z = true := hw _ (List.mem_of_getElem? (i := 134) rfl)
theorem ow139 {Z : State} {a0 : Array Value} (hw : HW a0 Z) : (Jvm.Cond.classLink "java/lang/StringBuilder" (18 : Nat) "java/lang/String").before a0 Z = true := hw _ (List.mem_of_getElem? (i := 139) rfl)
theorem ow38 {Z : State} {a0 : Array Value} (hw : HW a0 Z) : (Jvm.Cond.instantiable "java/lang/String" (4 : Nat)).before a0 Z = true := hw _ (List.mem_of_getElem? (i := 38) rfl)
theorem ow39 {Z : State} {a0 : Array Value} (hw : HW a0 Z) : (Jvm.Cond.laysFinal "java/lang/String" "java/lang/String" "value" "[B").before a0 Z = true := hw _ (List.mem_of_getElem? (i := 39) rfl)
theorem ow40 {Z : State} {a0 : Array Value} (hw : HW a0 Z) : (Jvm.Cond.laysFinal "java/lang/String" "java/lang/String" "coder" "B").before a0 Z = true := hw _ (List.mem_of_getElem? (i := 40) rfl)
theorem ow140 {Z : State} {a0 : Array Value} (hw : HW a0 Z) : (Jvm.Cond.methodLink "java/lang/StringBuilder" (137 : Nat) mn28).before a0 Z = true := hw _ (List.mem_of_getElem? (i := 140) rfl)
theorem ow144 {Z : State} {a0 : Array Value} (hw : HW a0 Z) : (Jvm.Cond.methodLink "java/lang/String" (489 : Nat) mn27).before a0 Z = true := hw _ (List.mem_of_getElem? (i := 144) rfl)
theorem ow147 {Z : State} {a0 : Array Value} (hw : HW a0 Z) : (Jvm.Cond.methodLink "java/lang/String" (1 : Nat) ({ cls := "java/lang/Object", name := "<init>", desc := "()V" } : Jvm.MethodName)).before a0 Z = true := hw _ (List.mem_of_getElem? (i := 147) rfl)
theorem ow148 {Z : State} {a0 : Array Value} (hw : HW a0 Z) : (Jvm.Cond.methodLink "java/lang/String" (552 : Nat) mn21).before a0 Z = true := hw _ (List.mem_of_getElem? (i := 148) rfl)
theorem ow152 {Z : State} {a0 : Array Value} (hw : HW a0 Z) : (Jvm.Cond.code mn21 jdk_68_method_64_code (1 : Nat) (Option.some (Jvm.ClassFile.FieldType.array Jvm.ClassFile.FieldType.byte))).before a0 Z = true := hw _ (List.mem_of_getElem? (i := 152) rfl)
theorem ow151 {Z : State} {a0 : Array Value} (hw : HW a0 Z) : (Jvm.Cond.selects "java/lang/StringBuilder" mn21 mn21).before a0 Z = true := hw _ (List.mem_of_getElem? (i := 151) rfl)
theorem ow149 {Z : State} {a0 : Array Value} (hw : HW a0 Z) : (Jvm.Cond.declares mn21).before a0 Z = true := hw _ (List.mem_of_getElem? (i := 149) rfl)
theorem ow150 {Z : State} {a0 : Array Value} (hw : HW a0 Z) : (Jvm.Cond.instanceMethod mn21).before a0 Z = true := hw _ (List.mem_of_getElem? (i := 150) rfl)
theorem ow153 {Z : State} {a0 : Array Value} (hw : HW a0 Z) : (Jvm.Cond.methodLink "java/lang/String" (549 : Nat) mn22).before a0 Z = true := hw _ (List.mem_of_getElem? (i := 153) rfl)
theorem ow159 {Z : State} {a0 : Array Value} (hw : HW a0 Z) : (Jvm.Cond.methodLink "java/lang/StringBuilder" (343 : Nat) mn22).before a0 Z = true := hw _ (List.mem_of_getElem? (i := 159) rfl)
theorem ow160 {Z : State} {a0 : Array Value} (hw : HW a0 Z) : (Jvm.Cond.code mn22 jdk_68_method_6_code (1 : Nat) (Option.some Jvm.ClassFile.FieldType.int)).before a0 Z = true := hw _ (List.mem_of_getElem? (i := 160) rfl)
theorem ow155 {Z : State} {a0 : Array Value} (hw : HW a0 Z) : (Jvm.Cond.instanceMethod mn22).before a0 Z = true := hw _ (List.mem_of_getElem? (i := 155) rfl)
theorem ow158 {Z : State} {a0 : Array Value} (hw : HW a0 Z) : (Jvm.Cond.code mn23 jdk_67_method_93_code (1 : Nat) (Option.some Jvm.ClassFile.FieldType.int)).before a0 Z = true := hw _ (List.mem_of_getElem? (i := 158) rfl)
theorem ow156 {Z : State} {a0 : Array Value} (hw : HW a0 Z) : (Jvm.Cond.selects "java/lang/StringBuilder" mn22 mn23).before a0 Z = true := hw _ (List.mem_of_getElem? (i := 156) rfl)
theorem ow154 {Z : State} {a0 : Array Value} (hw : HW a0 Z) : (Jvm.Cond.declares mn22).before a0 Z = true := hw _ (List.mem_of_getElem? (i := 154) rfl)
theorem ow157 {Z : State} {a0 : Array Value} (hw : HW a0 Z) : (Jvm.Cond.instanceMethod mn23).before a0 Z = true := hw _ (List.mem_of_getElem? (i := 157) rfl)
theorem ow161 {Z : State} {a0 : Array Value} (hw : HW a0 Z) : (Jvm.Cond.methodLink "java/lang/String" (1047 : Nat) mn17).before a0 Z = true := hw _ (List.mem_of_getElem? (i := 161) rfl)
theorem ow162 {Z : State} {a0 : Array Value} (hw : HW a0 Z) : (Jvm.Cond.methodLink "java/lang/String" (54 : Nat) mn26).before a0 Z = true := hw _ (List.mem_of_getElem? (i := 162) rfl)
theorem ow165 {Z : State} {a0 : Array Value} (hw : HW a0 Z) : (Jvm.Cond.methodLink "java/util/Arrays" (339 : Nat) mn25).before a0 Z = true := hw _ (List.mem_of_getElem? (i := 165) rfl)
theorem ow168 {Z : State} {a0 : Array Value} (hw : HW a0 Z) : (Jvm.Cond.methodLink "java/util/Arrays" (343 : Nat) mn24).before a0 Z = true := hw _ (List.mem_of_getElem? (i := 168) rfl)
theorem ow170 {Z : State} {a0 : Array Value} (hw : HW a0 Z) : (Jvm.Cond.code mn24 jdk_65_method_131_code (2 : Nat) (Option.none : Option Jvm.ClassFile.FieldType)).before a0 Z = true := hw _ (List.mem_of_getElem? (i := 170) rfl)
theorem ow169 {Z : State} {a0 : Array Value} (hw : HW a0 Z) : (Jvm.Cond.static mn24).before a0 Z = true := hw _ (List.mem_of_getElem? (i := 169) rfl)
theorem ow167 {Z : State} {a0 : Array Value} (hw : HW a0 Z) : (Jvm.Cond.code mn25 jdk_65_method_133_code (5 : Nat) (Option.some (Jvm.ClassFile.FieldType.array Jvm.ClassFile.FieldType.byte))).before a0 Z = true := hw _ (List.mem_of_getElem? (i := 167) rfl)
theorem ow166 {Z : State} {a0 : Array Value} (hw : HW a0 Z) : (Jvm.Cond.static mn25).before a0 Z = true := hw _ (List.mem_of_getElem? (i := 166) rfl)
theorem ow164 {Z : State} {a0 : Array Value} (hw : HW a0 Z) : (Jvm.Cond.code mn26 jdk_65_method_132_code (3 : Nat) (Option.some (Jvm.ClassFile.FieldType.array Jvm.ClassFile.FieldType.byte))).before a0 Z = true := hw _ (List.mem_of_getElem? (i := 164) rfl)
theorem ow163 {Z : State} {a0 : Array Value} (hw : HW a0 Z) : (Jvm.Cond.static mn26).before a0 Z = true := hw _ (List.mem_of_getElem? (i := 163) rfl)
theorem sn_39_40 {Z : State} {a0 : Array Value} (hw : HW a0 Z) : Jvm.RoadKit.slotOf Z "java/lang/String" "value" "[B" ≠ Jvm.RoadKit.slotOf Z "java/lang/String" "coder" "B" := slot_ne (Or.inr (ow39 hw)) (Or.inr (ow40 hw)) (by decide) (t := (.array .byte)) (t' := .byte) (by decide) (by decide)
theorem sn_40_39 {Z : State} {a0 : Array Value} (hw : HW a0 Z) : Jvm.RoadKit.slotOf Z "java/lang/String" "coder" "B" ≠ Jvm.RoadKit.slotOf Z "java/lang/String" "value" "[B" := slot_ne (Or.inr (ow40 hw)) (Or.inr (ow39 hw)) (by decide) (t := .byte) (t' := (.array .byte)) (by decide) (by decide)
theorem ow146 {Z : State} {a0 : Array Value} (hw : HW a0 Z) : (Jvm.Cond.code mn27 jdk_42_method_150_code (5 : Nat) (Option.none : Option Jvm.ClassFile.FieldType)).before a0 Z = true := hw _ (List.mem_of_getElem? (i := 146) rfl)
theorem ow145 {Z : State} {a0 : Array Value} (hw : HW a0 Z) : (Jvm.Cond.instanceMethod mn27).before a0 Z = true := hw _ (List.mem_of_getElem? (i := 145) rfl)
theorem ow143 {Z : State} {a0 : Array Value} (hw : HW a0 Z) : (Jvm.Cond.code mn28 jdk_42_method_53_code (2 : Nat) (Option.none : Option Jvm.ClassFile.FieldType)).before a0 Z = true := hw _ (List.mem_of_getElem? (i := 143) rfl)
theorem ow141 {Z : State} {a0 : Array Value} (hw : HW a0 Z) : (Jvm.Cond.instanceMethod mn28).before a0 Z = true := hw _ (List.mem_of_getElem? (i := 141) rfl)
theorem ow138 {Z : State} {a0 : Array Value} (hw : HW a0 Z) : (Jvm.Cond.code mn29 jdk_67_method_42_code (1 : Nat) (Option.some (Jvm.ClassFile.FieldType.object "java/lang/String"))).before a0 Z = true := hw _ (List.mem_of_getElem? (i := 138) rfl)
theorem ow137 {Z : State} {a0 : Array Value} (hw : HW a0 Z) : (Jvm.Cond.selects "java/lang/StringBuilder" mn29 mn29).before a0 Z = true := hw _ (List.mem_of_getElem? (i := 137) rfl)
theorem ow135 {Z : State} {a0 : Array Value} (hw : HW a0 Z) : (Jvm.Cond.declares mn29).before a0 Z = true := hw _ (List.mem_of_getElem? (i := 135) rfl)
theorem ow136 {Z : State} {a0 : Array Value} (hw : HW a0 Z) : (Jvm.Cond.instanceMethod mn29).before a0 Z = true := hw _ (List.mem_of_getElem? (i := 136) rfl)
theorem ow171 {Z : State} {a0 : Array Value} (hw : HW a0 Z) : (Jvm.Cond.methodLink "com/example/tally_of_calls/tallyofcalls/Counts" (41 : Nat) mn30).before a0 Z = true := hw _ (List.mem_of_getElem? (i := 171) rfl)
theorem ow174 {Z : State} {a0 : Array Value} (hw : HW a0 Z) : (Jvm.Cond.methodLink "com/example/tally_of_calls/tallyofcalls/Count" (3 : Nat) ({ cls := "java/lang/Object", name := "<init>", desc := "()V" } : Jvm.MethodName)).before a0 Z = true := hw _ (List.mem_of_getElem? (i := 174) rfl)
theorem ow175 {Z : State} {a0 : Array Value} (hw : HW a0 Z) : (Jvm.Cond.fieldLink "com/example/tally_of_calls/tallyofcalls/Count" (9 : Nat) "com/example/tally_of_calls/tallyofcalls/Count" "min" "I").before a0 Z = true := hw _ (List.mem_of_getElem? (i := 175) rfl)
theorem ow177 {Z : State} {a0 : Array Value} (hw : HW a0 Z) : (Jvm.Cond.fieldLink "com/example/tally_of_calls/tallyofcalls/Count" (15 : Nat) "com/example/tally_of_calls/tallyofcalls/Count" "max" "J").before a0 Z = true := hw _ (List.mem_of_getElem? (i := 177) rfl)
theorem sn_178_176 {Z : State} {a0 : Array Value} (hw : HW a0 Z) : Jvm.RoadKit.slotOf Z "com/example/tally_of_calls/tallyofcalls/Count" "max" "J" ≠ Jvm.RoadKit.slotOf Z "com/example/tally_of_calls/tallyofcalls/Count" "min" "I" := slot_ne (Or.inr (ow178 hw)) (Or.inr (ow176 hw)) (by decide) (t := .long) (t' := .int) (by decide) (by decide)
theorem ow179 {Z : State} {a0 : Array Value} (hw : HW a0 Z) : (Jvm.Cond.fieldLink "com/example/tally_of_calls/tallyofcalls/Count" (19 : Nat) "com/example/tally_of_calls/tallyofcalls/Count" "phrase" "Ljava/lang/String;").before a0 Z = true := hw _ (List.mem_of_getElem? (i := 179) rfl)
theorem sn_180_176 {Z : State} {a0 : Array Value} (hw : HW a0 Z) : Jvm.RoadKit.slotOf Z "com/example/tally_of_calls/tallyofcalls/Count" "phrase" "Ljava/lang/String;" ≠ Jvm.RoadKit.slotOf Z "com/example/tally_of_calls/tallyofcalls/Count" "min" "I" := slot_ne (Or.inr (ow180 hw)) (Or.inr (ow176 hw)) (by decide) (t := (.object "java/lang/String")) (t' := .int) (by decide) (by decide)
theorem sn_180_178 {Z : State} {a0 : Array Value} (hw : HW a0 Z) : Jvm.RoadKit.slotOf Z "com/example/tally_of_calls/tallyofcalls/Count" "phrase" "Ljava/lang/String;" ≠ Jvm.RoadKit.slotOf Z "com/example/tally_of_calls/tallyofcalls/Count" "max" "J" := slot_ne (Or.inr (ow180 hw)) (Or.inr (ow178 hw)) (by decide) (t := (.object "java/lang/String")) (t' := .long) (by decide) (by decide)
theorem sn_176_178 {Z : State} {a0 : Array Value} (hw : HW a0 Z) : Jvm.RoadKit.slotOf Z "com/example/tally_of_calls/tallyofcalls/Count" "min" "I" ≠ Jvm.RoadKit.slotOf Z "com/example/tally_of_calls/tallyofcalls/Count" "max" "J" := slot_ne (Or.inr (ow176 hw)) (Or.inr (ow178 hw)) (by decide) (t := .int) (t' := .long) (by decide) (by decide)
theorem sn_176_180 {Z : State} {a0 : Array Value} (hw : HW a0 Z) : Jvm.RoadKit.slotOf Z "com/example/tally_of_calls/tallyofcalls/Count" "min" "I" ≠ Jvm.RoadKit.slotOf Z "com/example/tally_of_calls/tallyofcalls/Count" "phrase" "Ljava/lang/String;" := slot_ne (Or.inr (ow176 hw)) (Or.inr (ow180 hw)) (by decide) (t := .int) (t' := (.object "java/lang/String")) (by decide) (by decide)
theorem sn_178_180 {Z : State} {a0 : Array Value} (hw : HW a0 Z) : Jvm.RoadKit.slotOf Z "com/example/tally_of_calls/tallyofcalls/Count" "max" "J" ≠ Jvm.RoadKit.slotOf Z "com/example/tally_of_calls/tallyofcalls/Count" "phrase" "Ljava/lang/String;" := slot_ne (Or.inr (ow178 hw)) (Or.inr (ow180 hw)) (by decide) (t := .long) (t' := (.object "java/lang/String")) (by decide) (by decide)
theorem ow173 {Z : State} {a0 : Array Value} (hw : HW a0 Z) : (Jvm.Cond.code mn30 prog_4_method_1_code (5 : Nat) (Option.none : Option Jvm.ClassFile.FieldType)).before a0 Z = true := hw _ (List.mem_of_getElem? (i := 173) rfl)
theorem ow172 {Z : State} {a0 : Array Value} (hw : HW a0 Z) : (Jvm.Cond.instanceMethod mn30).before a0 Z = true := hw _ (List.mem_of_getElem? (i := 172) rfl)
theorem ow230 {Z : State} {a0 : Array Value} (hw : HW a0 Z) : (Jvm.Cond.methodLink "java/util/Arrays" (310 : Nat) ({ cls := "[B", name := "clone", desc := "()Ljava/lang/Object;" } : Jvm.MethodName)).before a0 Z = true := hw _ (List.mem_of_getElem? (i := 230) rfl)
theorem ow231 {Z : State} {a0 : Array Value} (hw : HW a0 Z) : (Jvm.Cond.sameMethod "[B" "java/lang/Object" "clone" "()Ljava/lang/Object;").before a0 Z = true := hw _ (List.mem_of_getElem? (i := 231) rfl)
theorem ow235 {Z : State} {a0 : Array Value} (hw : HW a0 Z) : (Jvm.Cond.native ({ cls := "java/lang/Object", name := "clone", desc := "()Ljava/lang/Object;" } : Jvm.MethodName)).before a0 Z = true := hw _ (List.mem_of_getElem? (i := 235) rfl)
theorem ow233 {Z : State} {a0 : Array Value} (hw : HW a0 Z) : (Jvm.Cond.instanceMethod ({ cls := "java/lang/Object", name := "clone", desc := "()Ljava/lang/Object;" } : Jvm.MethodName)).before a0 Z = true := hw _ (List.mem_of_getElem? (i := 233) rfl)
theorem ow234 {Z : State} {a0 : Array Value} (hw : HW a0 Z) : (Jvm.Cond.selects "[B" ({ cls := "[B", name := "clone", desc := "()Ljava/lang/Object;" } : Jvm.MethodName) ({ cls := "java/lang/Object", name := "clone", desc := "()Ljava/lang/Object;" } : Jvm.MethodName)).before a0 Z = true := hw _ (List.mem_of_getElem? (i := 234) rfl)
theorem ow236 {Z : State} {a0 : Array Value} (hw : HW a0 Z) : (Jvm.Cond.castable "[B" "java/lang/Cloneable").before a0 Z = true := hw _ (List.mem_of_getElem? (i := 236) rfl)
theorem ow237 {Z : State} {a0 : Array Value} (hw : HW a0 Z) : (Jvm.Cond.classLink "java/util/Arrays" (311 : Nat) "[B").before a0 Z = true := hw _ (List.mem_of_getElem? (i := 237) rfl)
def own_ls5 : List Value := [(.int (0 : Int32)), (.int (0 : Int32)), (.int (0 : Int32)), (.int (0 : Int32)), (.int (0 : Int32)), (.int (0 : Int32)), (.int (0 : Int32)), (.int (0 : Int32)), (.int (0 : Int32)), (.int (0 : Int32)), (.int (0 : Int32)), (.int (0 : Int32)), (.int (0 : Int32)), (.int (0 : Int32)), (.int (0 : Int32)), (.int (0 : Int32)), (.int (0 : Int32)), (.int (0 : Int32)), (.int (0 : Int32)), (.int (0 : Int32)), (.int (0 : Int32)), (.int (0 : Int32)), (.int (0 : Int32)), (.int (0 : Int32))]
theorem ow0 {Z : State} {a0 : Array Value} (hw : HW a0 Z) : (Jvm.Cond.constant "com/example/tally_of_calls/tallyofcalls/CountsBetweenPinLaw" (12 : Nat) (2147483647 : Int32)).before a0 Z = true := hw _ (List.mem_of_getElem? (i := 0) rfl)
theorem ow1 {Z : State} {a0 : Array Value} (hw : HW a0 Z) : (Jvm.Cond.methodLink "com/example/tally_of_calls/tallyofcalls/CountsBetweenPinLaw" (13 : Nat) mn0).before a0 Z = true := hw _ (List.mem_of_getElem? (i := 1) rfl)
theorem ow5 {Z : State} {a0 : Array Value} (hw : HW a0 Z) : (Jvm.Cond.methodLink "com/example/tally_of_calls/tallyofcalls/CountsBetweenPinLaw" (19 : Nat) mn1).before a0 Z = true := hw _ (List.mem_of_getElem? (i := 5) rfl)
theorem ow8 {Z : State} {a0 : Array Value} (hw : HW a0 Z) : (Jvm.Cond.methodLink "com/example/tally_of_calls/tallyofcalls/CountsBetweenPinLaw" (22 : Nat) mn31).before a0 Z = true := hw _ (List.mem_of_getElem? (i := 8) rfl)
theorem ow11 {Z : State} {a0 : Array Value} (hw : HW a0 Z) : (Jvm.Cond.code mn31 prog_5_method_6_code (3 : Nat) (Option.some (Jvm.ClassFile.FieldType.object "com/example/tally_of_calls/tallyofcalls/Count"))).before a0 Z = true := hw _ (List.mem_of_getElem? (i := 11) rfl)
theorem ow10 {Z : State} {a0 : Array Value} (hw : HW a0 Z) : (Jvm.Cond.initialized "com/example/tally_of_calls/tallyofcalls/Counts").before a0 Z = true := hw _ (List.mem_of_getElem? (i := 10) rfl)
theorem ow9 {Z : State} {a0 : Array Value} (hw : HW a0 Z) : (Jvm.Cond.static mn31).before a0 Z = true := hw _ (List.mem_of_getElem? (i := 9) rfl)
theorem ow181 {Z : State} {a0 : Array Value} (hw : HW a0 Z) : (Jvm.Cond.methodLink "com/example/tally_of_calls/tallyofcalls/CountsBetweenPinLaw" (28 : Nat) mn32).before a0 Z = true := hw _ (List.mem_of_getElem? (i := 181) rfl)
theorem ow185 {Z : State} {a0 : Array Value} (hw : HW a0 Z) : (Jvm.Cond.code mn32 prog_4_method_2_code (1 : Nat) (Option.some Jvm.ClassFile.FieldType.int)).before a0 Z = true := hw _ (List.mem_of_getElem? (i := 185) rfl)
theorem ow184 {Z : State} {a0 : Array Value} (hw : HW a0 Z) : (Jvm.Cond.selects "com/example/tally_of_calls/tallyofcalls/Count" mn32 mn32).before a0 Z = true := hw _ (List.mem_of_getElem? (i := 184) rfl)
theorem ow182 {Z : State} {a0 : Array Value} (hw : HW a0 Z) : (Jvm.Cond.declares mn32).before a0 Z = true := hw _ (List.mem_of_getElem? (i := 182) rfl)
theorem ow183 {Z : State} {a0 : Array Value} (hw : HW a0 Z) : (Jvm.Cond.instanceMethod mn32).before a0 Z = true := hw _ (List.mem_of_getElem? (i := 183) rfl)
theorem ow186 {Z : State} {a0 : Array Value} (hw : HW a0 Z) : (Jvm.Cond.methodLink "com/example/tally_of_calls/tallyofcalls/CountsBetweenPinLaw" (33 : Nat) mn33).before a0 Z = true := hw _ (List.mem_of_getElem? (i := 186) rfl)
theorem ow190 {Z : State} {a0 : Array Value} (hw : HW a0 Z) : (Jvm.Cond.code mn33 prog_4_method_3_code (1 : Nat) (Option.some Jvm.ClassFile.FieldType.long)).before a0 Z = true := hw _ (List.mem_of_getElem? (i := 190) rfl)
theorem ow189 {Z : State} {a0 : Array Value} (hw : HW a0 Z) : (Jvm.Cond.selects "com/example/tally_of_calls/tallyofcalls/Count" mn33 mn33).before a0 Z = true := hw _ (List.mem_of_getElem? (i := 189) rfl)
theorem ow187 {Z : State} {a0 : Array Value} (hw : HW a0 Z) : (Jvm.Cond.declares mn33).before a0 Z = true := hw _ (List.mem_of_getElem? (i := 187) rfl)
theorem ow188 {Z : State} {a0 : Array Value} (hw : HW a0 Z) : (Jvm.Cond.instanceMethod mn33).before a0 Z = true := hw _ (List.mem_of_getElem? (i := 188) rfl)
theorem ow191 {Z : State} {a0 : Array Value} (hw : HW a0 Z) : (Jvm.Cond.methodLink "com/example/tally_of_calls/tallyofcalls/CountsBetweenPinLaw" (36 : Nat) mn34).before a0 Z = true := hw _ (List.mem_of_getElem? (i := 191) rfl)
theorem ow195 {Z : State} {a0 : Array Value} (hw : HW a0 Z) : (Jvm.Cond.code mn34 prog_4_method_4_code (1 : Nat) (Option.some (Jvm.ClassFile.FieldType.object "java/lang/String"))).before a0 Z = true := hw _ (List.mem_of_getElem? (i := 195) rfl)
theorem ow194 {Z : State} {a0 : Array Value} (hw : HW a0 Z) : (Jvm.Cond.selects "com/example/tally_of_calls/tallyofcalls/Count" mn34 mn34).before a0 Z = true := hw _ (List.mem_of_getElem? (i := 194) rfl)
theorem ow192 {Z : State} {a0 : Array Value} (hw : HW a0 Z) : (Jvm.Cond.declares mn34).before a0 Z = true := hw _ (List.mem_of_getElem? (i := 192) rfl)
theorem ow193 {Z : State} {a0 : Array Value} (hw : HW a0 Z) : (Jvm.Cond.instanceMethod mn34).before a0 Z = true := hw _ (List.mem_of_getElem? (i := 193) rfl)
theorem ow196 {Z : State} {a0 : Array Value} (hw : HW a0 Z) : (Jvm.Cond.methodLink "com/example/tally_of_calls/tallyofcalls/CountsBetweenPinLaw" (40 : Nat) mn7).before a0 Z = true := hw _ (List.mem_of_getElem? (i := 196) rfl)
theorem ow197 {Z : State} {a0 : Array Value} (hw : HW a0 Z) : (Jvm.Cond.methodLink "com/example/tally_of_calls/tallyofcalls/CountsBetweenPinLaw" (45 : Nat) mn2).before a0 Z = true := hw _ (List.mem_of_getElem? (i := 197) rfl)
theorem ow200 {Z : State} {a0 : Array Value} (hw : HW a0 Z) : (Jvm.Cond.code mn2 method_2_code (1 : Nat) (Option.some Jvm.ClassFile.FieldType.int)).before a0 Z = true := hw _ (List.mem_of_getElem? (i := 200) rfl)
theorem ow199 {Z : State} {a0 : Array Value} (hw : HW a0 Z) : (Jvm.Cond.initialized "com/example/tally_of_calls/tallyofcalls/CountsBetweenPinLaw").before a0 Z = true := hw _ (List.mem_of_getElem? (i := 199) rfl)
theorem ow198 {Z : State} {a0 : Array Value} (hw : HW a0 Z) : (Jvm.Cond.static mn2).before a0 Z = true := hw _ (List.mem_of_getElem? (i := 198) rfl)
theorem ow201 {Z : State} {a0 : Array Value} (hw : HW a0 Z) : (Jvm.Cond.arrayClass Jvm.ClassFile.FieldType.char).before a0 Z = true := hw _ (List.mem_of_getElem? (i := 201) rfl)
def own_ls6 : List Value := [(.int (101 : Int32)), (.int (0 : Int32)), (.int (0 : Int32)), (.int (0 : Int32)), (.int (0 : Int32)), (.int (0 : Int32)), (.int (0 : Int32)), (.int (0 : Int32)), (.int (0 : Int32)), (.int (0 : Int32)), (.int (0 : Int32)), (.int (0 : Int32)), (.int (0 : Int32)), (.int (0 : Int32)), (.int (0 : Int32)), (.int (0 : Int32)), (.int (0 : Int32)), (.int (0 : Int32)), (.int (0 : Int32)), (.int (0 : Int32)), (.int (0 : Int32)), (.int (0 : Int32)), (.int (0 : Int32)), (.int (0 : Int32))]
def own_ls7 : List Value := [(.int (101 : Int32)), (.int (120 : Int32)), (.int (0 : Int32)), (.int (0 : Int32)), (.int (0 : Int32)), (.int (0 : Int32)), (.int (0 : Int32)), (.int (0 : Int32)), (.int (0 : Int32)), (.int (0 : Int32)), (.int (0 : Int32)), (.int (0 : Int32)), (.int (0 : Int32)), (.int (0 : Int32)), (.int (0 : Int32)), (.int (0 : Int32)), (.int (0 : Int32)), (.int (0 : Int32)), (.int (0 : Int32)), (.int (0 : Int32)), (.int (0 : Int32)), (.int (0 : Int32)), (.int (0 : Int32)), (.int (0 : Int32))]
def own_ls8 : List Value := [(.int (101 : Int32)), (.int (120 : Int32)), (.int (112 : Int32)), (.int (0 : Int32)), (.int (0 : Int32)), (.int (0 : Int32)), (.int (0 : Int32)), (.int (0 : Int32)), (.int (0 : Int32)), (.int (0 : Int32)), (.int (0 : Int32)), (.int (0 : Int32)), (.int (0 : Int32)), (.int (0 : Int32)), (.int (0 : Int32)), (.int (0 : Int32)), (.int (0 : Int32)), (.int (0 : Int32)), (.int (0 : Int32)), (.int (0 : Int32)), (.int (0 : Int32)), (.int (0 : Int32)), (.int (0 : Int32)), (.int (0 : Int32))]
def own_ls9 : List Value := [(.int (101 : Int32)), (.int (120 : Int32)), (.int (112 : Int32)), (.int (101 : Int32)), (.int (0 : Int32)), (.int (0 : Int32)), (.int (0 : Int32)), (.int (0 : Int32)), (.int (0 : Int32)), (.int (0 : Int32)), (.int (0 : Int32)), (.int (0 : Int32)), (.int (0 : Int32)), (.int (0 : Int32)), (.int (0 : Int32)), (.int (0 : Int32)), (.int (0 : Int32)), (.int (0 : Int32)), (.int (0 : Int32)), (.int (0 : Int32)), (.int (0 : Int32)), (.int (0 : Int32)), (.int (0 : Int32)), (.int (0 : Int32))]
def own_ls10 : List Value := [(.int (101 : Int32)), (.int (120 : Int32)), (.int (112 : Int32)), (.int (101 : Int32)), (.int (99 : Int32)), (.int (0 : Int32)), (.int (0 : Int32)), (.int (0 : Int32)), (.int (0 : Int32)), (.int (0 : Int32)), (.int (0 : Int32)), (.int (0 : Int32)), (.int (0 : Int32)), (.int (0 : Int32)), (.int (0 : Int32)), (.int (0 : Int32)), (.int (0 : Int32)), (.int (0 : Int32)), (.int (0 : Int32)), (.int (0 : Int32)), (.int (0 : Int32)), (.int (0 : Int32)), (.int (0 : Int32)), (.int (0 : Int32))]
def own_ls11 : List Value := [(.int (101 : Int32)), (.int (120 : Int32)), (.int (112 : Int32)), (.int (101 : Int32)), (.int (99 : Int32)), (.int (116 : Int32)), (.int (0 : Int32)), (.int (0 : Int32)), (.int (0 : Int32)), (.int (0 : Int32)), (.int (0 : Int32)), (.int (0 : Int32)), (.int (0 : Int32)), (.int (0 : Int32)), (.int (0 : Int32)), (.int (0 : Int32)), (.int (0 : Int32)), (.int (0 : Int32)), (.int (0 : Int32)), (.int (0 : Int32)), (.int (0 : Int32)), (.int (0 : Int32)), (.int (0 : Int32)), (.int (0 : Int32))]
def own_ls12 : List Value := [(.int (101 : Int32)), (.int (120 : Int32)), (.int (112 : Int32)), (.int (101 : Int32)), (.int (99 : Int32)), (.int (116 : Int32)), (.int (101 : Int32)), (.int (0 : Int32)), (.int (0 : Int32)), (.int (0 : Int32)), (.int (0 : Int32)), (.int (0 : Int32)), (.int (0 : Int32)), (.int (0 : Int32)), (.int (0 : Int32)), (.int (0 : Int32)), (.int (0 : Int32)), (.int (0 : Int32)), (.int (0 : Int32)), (.int (0 : Int32)), (.int (0 : Int32)), (.int (0 : Int32)), (.int (0 : Int32)), (.int (0 : Int32))]
def own_ls13 : List Value := [(.int (101 : Int32)), (.int (120 : Int32)), (.int (112 : Int32)), (.int (101 : Int32)), (.int (99 : Int32)), (.int (116 : Int32)), (.int (101 : Int32)), (.int (100 : Int32)), (.int (0 : Int32)), (.int (0 : Int32)), (.int (0 : Int32)), (.int (0 : Int32)), (.int (0 : Int32)), (.int (0 : Int32)), (.int (0 : Int32)), (.int (0 : Int32)), (.int (0 : Int32)), (.int (0 : Int32)), (.int (0 : Int32)), (.int (0 : Int32)), (.int (0 : Int32)), (.int (0 : Int32)), (.int (0 : Int32)), (.int (0 : Int32))]
def own_ls14 : List Value := [(.int (101 : Int32)), (.int (120 : Int32)), (.int (112 : Int32)), (.int (101 : Int32)), (.int (99 : Int32)), (.int (116 : Int32)), (.int (101 : Int32)), (.int (100 : Int32)), (.int (32 : Int32)), (.int (0 : Int32)), (.int (0 : Int32)), (.int (0 : Int32)), (.int (0 : Int32)), (.int (0 : Int32)), (.int (0 : Int32)), (.int (0 : Int32)), (.int (0 : Int32)), (.int (0 : Int32)), (.int (0 : Int32)), (.int (0 : Int32)), (.int (0 : Int32)), (.int (0 : Int32)), (.int (0 : Int32)), (.int (0 : Int32))]
def own_ls15 : List Value := [(.int (101 : Int32)), (.int (120 : Int32)), (.int (112 : Int32)), (.int (101 : Int32)), (.int (99 : Int32)), (.int (116 : Int32)), (.int (101 : Int32)), (.int (100 : Int32)), (.int (32 : Int32)), (.int (98 : Int32)), (.int (0 : Int32)), (.int (0 : Int32)), (.int (0 : Int32)), (.int (0 : Int32)), (.int (0 : Int32)), (.int (0 : Int32)), (.int (0 : Int32)), (.int (0 : Int32)), (.int (0 : Int32)), (.int (0 : Int32)), (.int (0 : Int32)), (.int (0 : Int32)), (.int (0 : Int32)), (.int (0 : Int32))]
def own_ls16 : List Value := [(.int (101 : Int32)), (.int (120 : Int32)), (.int (112 : Int32)), (.int (101 : Int32)), (.int (99 : Int32)), (.int (116 : Int32)), (.int (101 : Int32)), (.int (100 : Int32)), (.int (32 : Int32)), (.int (98 : Int32)), (.int (101 : Int32)), (.int (0 : Int32)), (.int (0 : Int32)), (.int (0 : Int32)), (.int (0 : Int32)), (.int (0 : Int32)), (.int (0 : Int32)), (.int (0 : Int32)), (.int (0 : Int32)), (.int (0 : Int32)), (.int (0 : Int32)), (.int (0 : Int32)), (.int (0 : Int32)), (.int (0 : Int32))]
def own_ls17 : List Value := [(.int (101 : Int32)), (.int (120 : Int32)), (.int (112 : Int32)), (.int (101 : Int32)), (.int (99 : Int32)), (.int (116 : Int32)), (.int (101 : Int32)), (.int (100 : Int32)), (.int (32 : Int32)), (.int (98 : Int32)), (.int (101 : Int32)), (.int (116 : Int32)), (.int (0 : Int32)), (.int (0 : Int32)), (.int (0 : Int32)), (.int (0 : Int32)), (.int (0 : Int32)), (.int (0 : Int32)), (.int (0 : Int32)), (.int (0 : Int32)), (.int (0 : Int32)), (.int (0 : Int32)), (.int (0 : Int32)), (.int (0 : Int32))]
def own_ls18 : List Value := [(.int (101 : Int32)), (.int (120 : Int32)), (.int (112 : Int32)), (.int (101 : Int32)), (.int (99 : Int32)), (.int (116 : Int32)), (.int (101 : Int32)), (.int (100 : Int32)), (.int (32 : Int32)), (.int (98 : Int32)), (.int (101 : Int32)), (.int (116 : Int32)), (.int (119 : Int32)), (.int (0 : Int32)), (.int (0 : Int32)), (.int (0 : Int32)), (.int (0 : Int32)), (.int (0 : Int32)), (.int (0 : Int32)), (.int (0 : Int32)), (.int (0 : Int32)), (.int (0 : Int32)), (.int (0 : Int32)), (.int (0 : Int32))]
def own_ls19 : List Value := [(.int (101 : Int32)), (.int (120 : Int32)), (.int (112 : Int32)), (.int (101 : Int32)), (.int (99 : Int32)), (.int (116 : Int32)), (.int (101 : Int32)), (.int (100 : Int32)), (.int (32 : Int32)), (.int (98 : Int32)), (.int (101 : Int32)), (.int (116 : Int32)), (.int (119 : Int32)), (.int (101 : Int32)), (.int (0 : Int32)), (.int (0 : Int32)), (.int (0 : Int32)), (.int (0 : Int32)), (.int (0 : Int32)), (.int (0 : Int32)), (.int (0 : Int32)), (.int (0 : Int32)), (.int (0 : Int32)), (.int (0 : Int32))]
def own_ls20 : List Value := [(.int (101 : Int32)), (.int (120 : Int32)), (.int (112 : Int32)), (.int (101 : Int32)), (.int (99 : Int32)), (.int (116 : Int32)), (.int (101 : Int32)), (.int (100 : Int32)), (.int (32 : Int32)), (.int (98 : Int32)), (.int (101 : Int32)), (.int (116 : Int32)), (.int (119 : Int32)), (.int (101 : Int32)), (.int (101 : Int32)), (.int (0 : Int32)), (.int (0 : Int32)), (.int (0 : Int32)), (.int (0 : Int32)), (.int (0 : Int32)), (.int (0 : Int32)), (.int (0 : Int32)), (.int (0 : Int32)), (.int (0 : Int32))]
def own_ls21 : List Value := [(.int (101 : Int32)), (.int (120 : Int32)), (.int (112 : Int32)), (.int (101 : Int32)), (.int (99 : Int32)), (.int (116 : Int32)), (.int (101 : Int32)), (.int (100 : Int32)), (.int (32 : Int32)), (.int (98 : Int32)), (.int (101 : Int32)), (.int (116 : Int32)), (.int (119 : Int32)), (.int (101 : Int32)), (.int (101 : Int32)), (.int (110 : Int32)), (.int (0 : Int32)), (.int (0 : Int32)), (.int (0 : Int32)), (.int (0 : Int32)), (.int (0 : Int32)), (.int (0 : Int32)), (.int (0 : Int32)), (.int (0 : Int32))]
def own_ls22 : List Value := [(.int (101 : Int32)), (.int (120 : Int32)), (.int (112 : Int32)), (.int (101 : Int32)), (.int (99 : Int32)), (.int (116 : Int32)), (.int (101 : Int32)), (.int (100 : Int32)), (.int (32 : Int32)), (.int (98 : Int32)), (.int (101 : Int32)), (.int (116 : Int32)), (.int (119 : Int32)), (.int (101 : Int32)), (.int (101 : Int32)), (.int (110 : Int32)), (.int (32 : Int32)), (.int (0 : Int32)), (.int (0 : Int32)), (.int (0 : Int32)), (.int (0 : Int32)), (.int (0 : Int32)), (.int (0 : Int32)), (.int (0 : Int32))]
theorem ow202 {Z : State} {a0 : Array Value} (hw : HW a0 Z) : (Jvm.Cond.classLink "com/example/tally_of_calls/tallyofcalls/CountsBetweenPinLaw" (41 : Nat) "java/lang/String").before a0 Z = true := hw _ (List.mem_of_getElem? (i := 202) rfl)
theorem ow203 {Z : State} {a0 : Array Value} (hw : HW a0 Z) : (Jvm.Cond.methodLink "com/example/tally_of_calls/tallyofcalls/CountsBetweenPinLaw" (51 : Nat) mn39).before a0 Z = true := hw _ (List.mem_of_getElem? (i := 203) rfl)
theorem ow206 {Z : State} {a0 : Array Value} (hw : HW a0 Z) : (Jvm.Cond.methodLink "java/lang/String" (27 : Nat) mn38).before a0 Z = true := hw _ (List.mem_of_getElem? (i := 206) rfl)
theorem ow209 {Z : State} {a0 : Array Value} (hw : HW a0 Z) : (Jvm.Cond.methodLink "java/lang/String" (177 : Nat) mn36).before a0 Z = true := hw _ (List.mem_of_getElem? (i := 209) rfl)
theorem ow213 {Z : State} {a0 : Array Value} (hw : HW a0 Z) : (Jvm.Cond.methodLink "java/lang/StringUTF16" (115 : Nat) mn35).before a0 Z = true := hw _ (List.mem_of_getElem? (i := 213) rfl)
theorem ow215 {Z : State} {a0 : Array Value} (hw : HW a0 Z) : (Jvm.Cond.code mn35 jdk_52_method_21_code (7 : Nat) (Option.some Jvm.ClassFile.FieldType.int)).before a0 Z = true := hw _ (List.mem_of_getElem? (i := 215) rfl)
theorem ow211 {Z : State} {a0 : Array Value} (hw : HW a0 Z) : (Jvm.Cond.initialized "java/lang/StringUTF16").before a0 Z = true := hw _ (List.mem_of_getElem? (i := 211) rfl)
theorem ow214 {Z : State} {a0 : Array Value} (hw : HW a0 Z) : (Jvm.Cond.static mn35).before a0 Z = true := hw _ (List.mem_of_getElem? (i := 214) rfl)
theorem ow212 {Z : State} {a0 : Array Value} (hw : HW a0 Z) : (Jvm.Cond.code mn36 jdk_52_method_16_code (6 : Nat) (Option.some (Jvm.ClassFile.FieldType.array Jvm.ClassFile.FieldType.byte))).before a0 Z = true := hw _ (List.mem_of_getElem? (i := 212) rfl)
theorem ow210 {Z : State} {a0 : Array Value} (hw : HW a0 Z) : (Jvm.Cond.static mn36).before a0 Z = true := hw _ (List.mem_of_getElem? (i := 210) rfl)
theorem ow216 {Z : State} {a0 : Array Value} (hw : HW a0 Z) : (Jvm.Cond.methodLink "java/lang/String" (47 : Nat) mn37).before a0 Z = true := hw _ (List.mem_of_getElem? (i := 216) rfl)
theorem ow218 {Z : State} {a0 : Array Value} (hw : HW a0 Z) : (Jvm.Cond.code mn37 jdk_52_method_15_code (2 : Nat) (Option.some Jvm.ClassFile.FieldType.byte)).before a0 Z = true := hw _ (List.mem_of_getElem? (i := 218) rfl)
theorem ow217 {Z : State} {a0 : Array Value} (hw : HW a0 Z) : (Jvm.Cond.static mn37).before a0 Z = true := hw _ (List.mem_of_getElem? (i := 217) rfl)
theorem ow208 {Z : State} {a0 : Array Value} (hw : HW a0 Z) : (Jvm.Cond.code mn38 jdk_42_method_149_code (6 : Nat) (Option.none : Option Jvm.ClassFile.FieldType)).before a0 Z = true := hw _ (List.mem_of_getElem? (i := 208) rfl)
theorem ow207 {Z : State} {a0 : Array Value} (hw : HW a0 Z) : (Jvm.Cond.instanceMethod mn38).before a0 Z = true := hw _ (List.mem_of_getElem? (i := 207) rfl)
theorem ow205 {Z : State} {a0 : Array Value} (hw : HW a0 Z) : (Jvm.Cond.code mn39 jdk_42_method_3_code (2 : Nat) (Option.none : Option Jvm.ClassFile.FieldType)).before a0 Z = true := hw _ (List.mem_of_getElem? (i := 205) rfl)
theorem ow204 {Z : State} {a0 : Array Value} (hw : HW a0 Z) : (Jvm.Cond.instanceMethod mn39).before a0 Z = true := hw _ (List.mem_of_getElem? (i := 204) rfl)
theorem ow219 {Z : State} {a0 : Array Value} (hw : HW a0 Z) : (Jvm.Cond.methodLink "com/example/tally_of_calls/tallyofcalls/CountsBetweenPinLaw" (54 : Nat) mn41).before a0 Z = true := hw _ (List.mem_of_getElem? (i := 219) rfl)
theorem ow224 {Z : State} {a0 : Array Value} (hw : HW a0 Z) : (Jvm.Cond.classLink "java/lang/String" (10 : Nat) "java/lang/String").before a0 Z = true := hw _ (List.mem_of_getElem? (i := 224) rfl)
theorem ow225 {Z : State} {a0 : Array Value} (hw : HW a0 Z) : (Jvm.Cond.methodLink "java/lang/String" (541 : Nat) mn40).before a0 Z = true := hw _ (List.mem_of_getElem? (i := 225) rfl)
theorem ow228 {Z : State} {a0 : Array Value} (hw : HW a0 Z) : (Jvm.Cond.code mn40 jdk_43_method_13_code (3 : Nat) (Option.some Jvm.ClassFile.FieldType.boolean)).before a0 Z = true := hw _ (List.mem_of_getElem? (i := 228) rfl)
theorem ow227 {Z : State} {a0 : Array Value} (hw : HW a0 Z) : (Jvm.Cond.initialized "java/lang/StringLatin1").before a0 Z = true := hw _ (List.mem_of_getElem? (i := 227) rfl)
theorem ow226 {Z : State} {a0 : Array Value} (hw : HW a0 Z) : (Jvm.Cond.static mn40).before a0 Z = true := hw _ (List.mem_of_getElem? (i := 226) rfl)
theorem ow223 {Z : State} {a0 : Array Value} (hw : HW a0 Z) : (Jvm.Cond.code mn41 jdk_42_method_66_code (3 : Nat) (Option.some Jvm.ClassFile.FieldType.boolean)).before a0 Z = true := hw _ (List.mem_of_getElem? (i := 223) rfl)
theorem ow222 {Z : State} {a0 : Array Value} (hw : HW a0 Z) : (Jvm.Cond.selects "java/lang/String" mn41 mn41).before a0 Z = true := hw _ (List.mem_of_getElem? (i := 222) rfl)
theorem ow220 {Z : State} {a0 : Array Value} (hw : HW a0 Z) : (Jvm.Cond.declares mn41).before a0 Z = true := hw _ (List.mem_of_getElem? (i := 220) rfl)
theorem ow221 {Z : State} {a0 : Array Value} (hw : HW a0 Z) : (Jvm.Cond.instanceMethod mn41).before a0 Z = true := hw _ (List.mem_of_getElem? (i := 221) rfl)
section Run
variable {p : Program} {l : Launch} {e : Env} {R : Room} {s : State} {m : MethodId} {args : Array Value} {below : List Frame} {meth : Method} {c : Code} {T : State} {locs : List Loc} {cells slots cc nn : Nat}
abbrev own_R := Option (Nat × Array Slot × List Value)
variable {pc k n a b : Nat} {ls : Array Slot} {st : List Value} {r : Nat × Array Slot × List Value} {q : own_R}
def own_g (a b : Nat) (q : own_R) : own_R := bif Nat.beq a b then q else none
theorem own_g_ok (h : own_g a b q = some r) : a = b ∧ q = some r := by
  unfold own_g at h
  cases w : Nat.beq a b with
  | true => rw [w] at h; exact ⟨Nat.eq_of_beq_eq_true w, h⟩
  | false => rw [w] at h; exact nomatch h
def own_ldi (pc : Nat) (ls : Array Slot) (st : List Value) (k n : Nat) : own_R := match ls[k]? with
  | some (.val (.int v)) => some (pc + n, ls, (.int v) :: st)
  | _ => none
theorem own_ldi_ok (h : own_ldi pc ls st k n = some r) : ∃ v, ls[k]? = some (.val (.int v)) ∧ r = (pc + n, ls, (.int v) :: st) := by
  unfold own_ldi at h
  split at h
  · exact ⟨_, by assumption, (Option.some.inj h).symm⟩
  · exact nomatch h
def own_ldl (pc : Nat) (ls : Array Slot) (st : List Value) (k n : Nat) : own_R := match ls[k]? with
  | some (.val (.long v)) => some (pc + n, ls, (.long v) :: st)
  | _ => none
theorem own_ldl_ok (h : own_ldl pc ls st k n = some r) : ∃ v, ls[k]? = some (.val (.long v)) ∧ r = (pc + n, ls, (.long v) :: st) := by
  unfold own_ldl at h
  split at h
  · exact ⟨_, by assumption, (Option.some.inj h).symm⟩
  · exact nomatch h
def own_lda (pc : Nat) (ls : Array Slot) (st : List Value) (k n : Nat) : own_R := match ls[k]? with
  | some (.val (.ref v)) => some (pc + n, ls, (.ref v) :: st)
  | some (.val .null) => some (pc + n, ls, .null :: st)
  | _ => none
theorem own_lda_ok (h : own_lda pc ls st k n = some r) : ∃ v, ls[k]? = some (.val v) ∧ v.isRef = true ∧ r = (pc + n, ls, v :: st) := by
  unfold own_lda at h
  split at h
  · exact ⟨_, by assumption, rfl, (Option.some.inj h).symm⟩
  · exact ⟨_, by assumption, rfl, (Option.some.inj h).symm⟩
  · exact nomatch h
def own_sti (pc : Nat) (ls : Array Slot) (st : List Value) (k n : Nat) : own_R := match st with
  | (.int v) :: u => (match storeLocals ls k (.int v) with | some l' => some (pc + n, l', u) | none => none)
  | _ => none
theorem own_sti_ok (h : own_sti pc ls st k n = some r) : ∃ v u l', st = (.int v) :: u ∧ storeLocals ls k (.int v) = some l' ∧ r = (pc + n, l', u) := by
  unfold own_sti at h
  split at h
  · split at h
    · exact ⟨_, _, _, rfl, by assumption, (Option.some.inj h).symm⟩
    · exact nomatch h
  · exact nomatch h
def own_stl (pc : Nat) (ls : Array Slot) (st : List Value) (k n : Nat) : own_R := match st with
  | (.long v) :: u => (match storeLocals ls k (.long v) with | some l' => some (pc + n, l', u) | none => none)
  | _ => none
theorem own_stl_ok (h : own_stl pc ls st k n = some r) : ∃ v u l', st = (.long v) :: u ∧ storeLocals ls k (.long v) = some l' ∧ r = (pc + n, l', u) := by
  unfold own_stl at h
  split at h
  · split at h
    · exact ⟨_, _, _, rfl, by assumption, (Option.some.inj h).symm⟩
    · exact nomatch h
  · exact nomatch h
def own_sta (pc : Nat) (ls : Array Slot) (st : List Value) (k n : Nat) : own_R := match st with
  | (.ref v) :: u => (match storeLocals ls k (.ref v) with | some l' => some (pc + n, l', u) | none => none)
  | .null :: u => (match storeLocals ls k .null with | some l' => some (pc + n, l', u) | none => none)
  | _ => none
theorem own_sta_ok (h : own_sta pc ls st k n = some r) : ∃ v u l', st = v :: u ∧ v.isRef = true ∧ storeLocals ls k v = some l' ∧ r = (pc + n, l', u) := by
  unfold own_sta at h
  split at h
  · split at h
    · exact ⟨_, _, _, rfl, rfl, by assumption, (Option.some.inj h).symm⟩
    · exact nomatch h
  · split at h
    · exact ⟨_, _, _, rfl, rfl, by assumption, (Option.some.inj h).symm⟩
    · exact nomatch h
  · exact nomatch h
def own_bii (f : Int32 → Int32 → Int32) (pc : Nat) (ls : Array Slot) (st : List Value) : own_R := match st with
  | .int y :: .int x :: u => some (pc + 1, ls, .int (f x y) :: u)
  | _ => none
theorem own_bii_ok {f : Int32 → Int32 → Int32} (h : own_bii f pc ls st = some r) : ∃ x y u, st = .int y :: .int x :: u ∧ r = (pc + 1, ls, .int (f x y) :: u) := by
  unfold own_bii at h
  split at h
  · exact ⟨_, _, _, rfl, (Option.some.inj h).symm⟩
  · exact nomatch h
def own_bll (f : Int64 → Int64 → Int64) (pc : Nat) (ls : Array Slot) (st : List Value) : own_R := match st with
  | .long y :: .long x :: u => some (pc + 1, ls, .long (f x y) :: u)
  | _ => none
theorem own_bll_ok {f : Int64 → Int64 → Int64} (h : own_bll f pc ls st = some r) : ∃ x y u, st = .long y :: .long x :: u ∧ r = (pc + 1, ls, .long (f x y) :: u) := by
  unfold own_bll at h
  split at h
  · exact ⟨_, _, _, rfl, (Option.some.inj h).symm⟩
  · exact nomatch h
def own_bli (f : Int64 → Int32 → Int64) (pc : Nat) (ls : Array Slot) (st : List Value) : own_R := match st with
  | .int y :: .long x :: u => some (pc + 1, ls, .long (f x y) :: u)
  | _ => none
theorem own_bli_ok {f : Int64 → Int32 → Int64} (h : own_bli f pc ls st = some r) : ∃ x y u, st = .int y :: .long x :: u ∧ r = (pc + 1, ls, .long (f x y) :: u) := by
  unfold own_bli at h
  split at h
  · exact ⟨_, _, _, rfl, (Option.some.inj h).symm⟩
  · exact nomatch h
def own_bci (f : Int64 → Int64 → Int32) (pc : Nat) (ls : Array Slot) (st : List Value) : own_R := match st with
  | .long y :: .long x :: u => some (pc + 1, ls, .int (f x y) :: u)
  | _ => none
theorem own_bci_ok {f : Int64 → Int64 → Int32} (h : own_bci f pc ls st = some r) : ∃ x y u, st = .long y :: .long x :: u ∧ r = (pc + 1, ls, .int (f x y) :: u) := by
  unfold own_bci at h
  split at h
  · exact ⟨_, _, _, rfl, (Option.some.inj h).symm⟩
  · exact nomatch h
def own_uii (f : Int32 → Int32) (pc : Nat) (ls : Array Slot) (st : List Value) : own_R := match st with
  | .int x :: u => some (pc + 1, ls, .int (f x) :: u)
  | _ => none
theorem own_uii_ok {f : Int32 → Int32} (h : own_uii f pc ls st = some r) : ∃ x u, st = .int x :: u ∧ r = (pc + 1, ls, .int (f x) :: u) := by
  unfold own_uii at h
  split at h
  · exact ⟨_, _, rfl, (Option.some.inj h).symm⟩
  · exact nomatch h
def own_uil (f : Int32 → Int64) (pc : Nat) (ls : Array Slot) (st : List Value) : own_R := match st with
  | .int x :: u => some (pc + 1, ls, .long (f x) :: u)
  | _ => none
theorem own_uil_ok {f : Int32 → Int64} (h : own_uil f pc ls st = some r) : ∃ x u, st = .int x :: u ∧ r = (pc + 1, ls, .long (f x) :: u) := by
  unfold own_uil at h
  split at h
  · exact ⟨_, _, rfl, (Option.some.inj h).symm⟩
  · exact nomatch h
def own_uli (f : Int64 → Int32) (pc : Nat) (ls : Array Slot) (st : List Value) : own_R := match st with
  | .long x :: u => some (pc + 1, ls, .int (f x) :: u)
  | _ => none
theorem own_uli_ok {f : Int64 → Int32} (h : own_uli f pc ls st = some r) : ∃ x u, st = .long x :: u ∧ r = (pc + 1, ls, .int (f x) :: u) := by
  unfold own_uli at h
  split at h
  · exact ⟨_, _, rfl, (Option.some.inj h).symm⟩
  · exact nomatch h
def own_ull (f : Int64 → Int64) (pc : Nat) (ls : Array Slot) (st : List Value) : own_R := match st with
  | .long x :: u => some (pc + 1, ls, .long (f x) :: u)
  | _ => none
theorem own_ull_ok {f : Int64 → Int64} (h : own_ull f pc ls st = some r) : ∃ x u, st = .long x :: u ∧ r = (pc + 1, ls, .long (f x) :: u) := by
  unfold own_ull at h
  split at h
  · exact ⟨_, _, rfl, (Option.some.inj h).symm⟩
  · exact nomatch h
def own_inc (pc : Nat) (ls : Array Slot) (st : List Value) (k : Nat) (z : Int) : own_R := match ls[k]? with
  | some (.val (.int x)) => (match storeLocals ls k (.int (x + Int32.ofInt z)) with | some l' => some (pc + 3, l', st) | none => none)
  | _ => none
theorem own_inc_ok {z : Int} (h : own_inc pc ls st k z = some r) : ∃ x l', ls[k]? = some (.val (.int x)) ∧ storeLocals ls k (.int (x + Int32.ofInt z)) = some l' ∧ r = (pc + 3, l', st) := by
  unfold own_inc at h
  split at h
  · split at h
    · exact ⟨_, _, by assumption, by assumption, (Option.some.inj h).symm⟩
    · exact nomatch h
  · exact nomatch h
def own_dp1 (pc : Nat) (ls : Array Slot) (st : List Value) : own_R := match st with
  | x :: u => own_g x.category 1 (some (pc + 1, ls, x :: x :: u))
  | _ => none
theorem own_dp1_ok (h : own_dp1 pc ls st = some r) : ∃ x u, st = x :: u ∧ x.category = 1 ∧ r = (pc + 1, ls, x :: x :: u) := by
  unfold own_dp1 at h
  split at h
  · obtain ⟨w, h⟩ := own_g_ok h; exact ⟨_, _, rfl, w, (Option.some.inj h).symm⟩
  · exact nomatch h
def own_pp1 (pc : Nat) (ls : Array Slot) (st : List Value) : own_R := match st with
  | x :: u => own_g x.category 1 (some (pc + 1, ls, u))
  | _ => none
theorem own_pp1_ok (h : own_pp1 pc ls st = some r) : ∃ x u, st = x :: u ∧ x.category = 1 ∧ r = (pc + 1, ls, u) := by
  unfold own_pp1 at h
  split at h
  · obtain ⟨w, h⟩ := own_g_ok h; exact ⟨_, _, rfl, w, (Option.some.inj h).symm⟩
  · exact nomatch h
def own_dx1 (pc : Nat) (ls : Array Slot) (st : List Value) : own_R := match st with
  | x :: y :: u => own_g x.category 1 (own_g y.category 1 (some (pc + 1, ls, x :: y :: x :: u)))
  | _ => none
theorem own_dx1_ok (h : own_dx1 pc ls st = some r) : ∃ x y u, st = x :: y :: u ∧ x.category = 1 ∧ y.category = 1 ∧ r = (pc + 1, ls, x :: y :: x :: u) := by
  unfold own_dx1 at h
  split at h
  · obtain ⟨w, h⟩ := own_g_ok h; obtain ⟨w', h⟩ := own_g_ok h; exact ⟨_, _, _, rfl, w, w', (Option.some.inj h).symm⟩
  · exact nomatch h
def own_dp2 (pc : Nat) (ls : Array Slot) (st : List Value) : own_R := match st with
  | x :: y :: u => own_g x.category 1 (own_g y.category 1 (some (pc + 1, ls, x :: y :: x :: y :: u)))
  | _ => none
theorem own_dp2_ok (h : own_dp2 pc ls st = some r) : ∃ x y u, st = x :: y :: u ∧ x.category = 1 ∧ y.category = 1 ∧ r = (pc + 1, ls, x :: y :: x :: y :: u) := by
  unfold own_dp2 at h
  split at h
  · obtain ⟨w, h⟩ := own_g_ok h; obtain ⟨w', h⟩ := own_g_ok h; exact ⟨_, _, _, rfl, w, w', (Option.some.inj h).symm⟩
  · exact nomatch h
def own_jmp (pc : Nat) (ls : Array Slot) (st : List Value) (o : Int) : own_R := match (pc : Int) + o with
  | .ofNat n => some (n, ls, st)
  | .negSucc _ => none
theorem own_jmp_ok {o : Int} (h : own_jmp pc ls st o = some r) : 0 ≤ (pc : Int) + o ∧ r = (((pc : Int) + o).toNat, ls, st) := by
  unfold own_jmp at h
  split at h
  · rename_i n w; rw [w]; exact ⟨Int.natCast_nonneg n, (Option.some.inj h).symm⟩
  · exact nomatch h
def own_ifc (cd : ClassFile.Cond) (o : Int) (pc : Nat) (ls : Array Slot) (st : List Value) : own_R := match st with
  | .int x :: u => (match ifCond.holds cd x with | true => own_jmp pc ls u o | false => some (pc + 3, ls, u))
  | _ => none
theorem own_ifc_ok {cd : ClassFile.Cond} {o : Int} (h : own_ifc cd o pc ls st = some r) : ∃ x u, st = .int x :: u ∧ ((ifCond.holds cd x = true ∧ 0 ≤ (pc : Int) + o ∧ r = (((pc : Int) + o).toNat, ls, u)) ∨ (ifCond.holds cd x = false ∧ r = (pc + 3, ls, u))) := by
  unfold own_ifc at h
  split at h
  · refine ⟨_, _, rfl, ?_⟩
    split at h
    · exact Or.inl ⟨by assumption, own_jmp_ok h⟩
    · exact Or.inr ⟨by assumption, (Option.some.inj h).symm⟩
  · exact nomatch h
def own_icm (cd : ClassFile.Cond) (o : Int) (pc : Nat) (ls : Array Slot) (st : List Value) : own_R := match st with
  | .int y :: .int x :: u => (match if_icmp.holds cd x y with | true => own_jmp pc ls u o | false => some (pc + 3, ls, u))
  | _ => none
theorem own_icm_ok {cd : ClassFile.Cond} {o : Int} (h : own_icm cd o pc ls st = some r) : ∃ x y u, st = .int y :: .int x :: u ∧ ((if_icmp.holds cd x y = true ∧ 0 ≤ (pc : Int) + o ∧ r = (((pc : Int) + o).toNat, ls, u)) ∨ (if_icmp.holds cd x y = false ∧ r = (pc + 3, ls, u))) := by
  unfold own_icm at h
  split at h
  · refine ⟨_, _, _, rfl, ?_⟩
    split at h
    · exact Or.inl ⟨by assumption, own_jmp_ok h⟩
    · exact Or.inr ⟨by assumption, (Option.some.inj h).symm⟩
  · exact nomatch h
def own_ifn (o : Int) (pc : Nat) (ls : Array Slot) (st : List Value) : own_R := match st with
  | .null :: u => own_jmp pc ls u o
  | .ref b :: u => some (pc + 3, ls, u)
  | _ => none
theorem own_ifn_ok {o : Int} (h : own_ifn o pc ls st = some r) : ∃ u, (st = .null :: u ∧ 0 ≤ (pc : Int) + o ∧ r = (((pc : Int) + o).toNat, ls, u)) ∨ (∃ b, st = .ref b :: u ∧ r = (pc + 3, ls, u)) := by
  unfold own_ifn at h
  split at h
  · exact ⟨_, Or.inl ⟨rfl, own_jmp_ok h⟩⟩
  · exact ⟨_, Or.inr ⟨_, rfl, (Option.some.inj h).symm⟩⟩
  · exact nomatch h
def own_inn (o : Int) (pc : Nat) (ls : Array Slot) (st : List Value) : own_R := match st with
  | .ref b :: u => own_jmp pc ls u o
  | .null :: u => some (pc + 3, ls, u)
  | _ => none
theorem own_inn_ok {o : Int} (h : own_inn o pc ls st = some r) : ∃ u, (∃ b, st = .ref b :: u ∧ 0 ≤ (pc : Int) + o ∧ r = (((pc : Int) + o).toNat, ls, u)) ∨ (st = .null :: u ∧ r = (pc + 3, ls, u)) := by
  unfold own_inn at h
  split at h
  · exact ⟨_, Or.inl ⟨_, rfl, own_jmp_ok h⟩⟩
  · exact ⟨_, Or.inr ⟨rfl, (Option.some.inj h).symm⟩⟩
  · exact nomatch h
def own_step (i : Instr) (ln : Nat) (pc : Nat) (ls : Array Slot) (st : List Value) : own_R := match i with
  | .iload k => own_g ln 2 (own_ldi pc ls st k 2)
  | .iload_n k => own_g ln 1 (own_ldi pc ls st k.val 1)
  | .lload k => own_g ln 2 (own_ldl pc ls st k 2)
  | .lload_n k => own_g ln 1 (own_ldl pc ls st k.val 1)
  | .aload k => own_g ln 2 (own_lda pc ls st k 2)
  | .aload_n k => own_g ln 1 (own_lda pc ls st k.val 1)
  | .istore k => own_g ln 2 (own_sti pc ls st k 2)
  | .istore_n k => own_g ln 1 (own_sti pc ls st k.val 1)
  | .lstore k => own_g ln 2 (own_stl pc ls st k 2)
  | .lstore_n k => own_g ln 1 (own_stl pc ls st k.val 1)
  | .astore k => own_g ln 2 (own_sta pc ls st k 2)
  | .astore_n k => own_g ln 1 (own_sta pc ls st k.val 1)
  | .iconst i => own_g ln 1 (some (pc + 1, ls, .int (Int32.ofInt i) :: st))
  | .bipush i => own_g ln 2 (some (pc + 2, ls, .int (Int8.ofInt i).toInt32 :: st))
  | .sipush i => own_g ln 3 (some (pc + 3, ls, .int (Int16.ofInt i).toInt32 :: st))
  | .lconst i => own_g ln 1 (some (pc + 1, ls, .long (Int64.ofNat i) :: st))
  | .aconst_null => own_g ln 1 (some (pc + 1, ls, .null :: st))
  | .iadd => own_g ln 1 (own_bii (fun x y => x + y) pc ls st)
  | .ladd => own_g ln 1 (own_bll (fun x y => x + y) pc ls st)
  | .isub => own_g ln 1 (own_bii (fun x y => x - y) pc ls st)
  | .lsub => own_g ln 1 (own_bll (fun x y => x - y) pc ls st)
  | .imul => own_g ln 1 (own_bii (fun x y => x * y) pc ls st)
  | .lmul => own_g ln 1 (own_bll (fun x y => x * y) pc ls st)
  | .iand => own_g ln 1 (own_bii (fun x y => x &&& y) pc ls st)
  | .land => own_g ln 1 (own_bll (fun x y => x &&& y) pc ls st)
  | .ior => own_g ln 1 (own_bii (fun x y => x ||| y) pc ls st)
  | .lor => own_g ln 1 (own_bll (fun x y => x ||| y) pc ls st)
  | .ixor => own_g ln 1 (own_bii (fun x y => x ^^^ y) pc ls st)
  | .lxor => own_g ln 1 (own_bll (fun x y => x ^^^ y) pc ls st)
  | .ishl => own_g ln 1 (own_bii (fun x y => x <<< (y &&& 31)) pc ls st)
  | .ishr => own_g ln 1 (own_bii (fun x y => x >>> (y &&& 31)) pc ls st)
  | .iushr => own_g ln 1 (own_bii (fun x y => (x.toUInt32 >>> (y &&& 31).toUInt32).toInt32) pc ls st)
  | .lshl => own_g ln 1 (own_bli (fun x y => x <<< (y &&& 0x3f).toInt64) pc ls st)
  | .lshr => own_g ln 1 (own_bli (fun x y => x >>> (y &&& 0x3f).toInt64) pc ls st)
  | .lushr => own_g ln 1 (own_bli (fun x y => (x.toUInt64 >>> (y &&& 0x3f).toInt64.toUInt64).toInt64) pc ls st)
  | .lcmp => own_g ln 1 (own_bci (fun x y => if x > y then 1 else if x = y then 0 else -1) pc ls st)
  | .ineg => own_g ln 1 (own_uii (fun x => -x) pc ls st)
  | .lneg => own_g ln 1 (own_ull (fun x => -x) pc ls st)
  | .i2l => own_g ln 1 (own_uil (fun x => x.toInt64) pc ls st)
  | .l2i => own_g ln 1 (own_uli (fun x => x.toInt32) pc ls st)
  | .i2b => own_g ln 1 (own_uii (fun x => x.toInt8.toInt32) pc ls st)
  | .i2s => own_g ln 1 (own_uii (fun x => x.toInt16.toInt32) pc ls st)
  | .i2c => own_g ln 1 (own_uii (fun x => x.toUInt32.toUInt16.toUInt32.toInt32) pc ls st)
  | .iinc k z => own_g ln 3 (own_inc pc ls st k z)
  | .dup => own_g ln 1 (own_dp1 pc ls st)
  | .pop => own_g ln 1 (own_pp1 pc ls st)
  | .dup_x1 => own_g ln 1 (own_dx1 pc ls st)
  | .dup2 => own_g ln 1 (own_dp2 pc ls st)
  | .goto o => own_g ln 3 (own_jmp pc ls st o)
  | .ifCond cd o => own_g ln 3 (own_ifc cd o pc ls st)
  | .if_icmp cd o => own_g ln 3 (own_icm cd o pc ls st)
  | .ifnull o => own_g ln 3 (own_ifn o pc ls st)
  | .ifnonnull o => own_g ln 3 (own_inn o pc ls st)
  | _ => none
theorem own_step_ok (X : Stand p l e R s m args below meth c T locs cells slots) (hx : p.tables.exec = Jvm.exec) {ln : Nat} (i : Instr) (hd : decode c.code pc = .ok (i, ln)) (h : own_step i ln pc ls st = some r) {t : State} (kk : Steps p.tables e below (T.setTop (mkF m r.1 r.2.1 r.2.2)) t) : Steps p.tables e below (T.setTop (mkF m pc ls st)) t := by
  cases i
  case iload k =>
    obtain ⟨rfl, h⟩ := own_g_ok h
    obtain ⟨v, hl, rfl⟩ := own_ldi_ok h
    exact XS.iload X.here hx rfl hd hl kk
  case iload_n k =>
    obtain ⟨rfl, h⟩ := own_g_ok h
    obtain ⟨v, hl, rfl⟩ := own_ldi_ok h
    exact XS.iloadN X.here hx rfl hd hl kk
  case lload k =>
    obtain ⟨rfl, h⟩ := own_g_ok h
    obtain ⟨v, hl, rfl⟩ := own_ldl_ok h
    exact XS.lload X.here hx rfl hd hl kk
  case lload_n k =>
    obtain ⟨rfl, h⟩ := own_g_ok h
    obtain ⟨v, hl, rfl⟩ := own_ldl_ok h
    exact XS.lloadN X.here hx rfl hd hl kk
  case aload k =>
    obtain ⟨rfl, h⟩ := own_g_ok h
    obtain ⟨v, hl, hv, rfl⟩ := own_lda_ok h
    exact XS.aload X.here hx rfl hd hl hv kk
  case aload_n k =>
    obtain ⟨rfl, h⟩ := own_g_ok h
    obtain ⟨v, hl, hv, rfl⟩ := own_lda_ok h
    exact XS.aloadN X.here hx rfl hd hl hv kk
  case istore k =>
    obtain ⟨rfl, h⟩ := own_g_ok h
    obtain ⟨v, u, l', rfl, hl, rfl⟩ := own_sti_ok h
    exact XS.istore X.here hx rfl hd rfl hl kk
  case istore_n k =>
    obtain ⟨rfl, h⟩ := own_g_ok h
    obtain ⟨v, u, l', rfl, hl, rfl⟩ := own_sti_ok h
    exact XS.istoreN X.here hx rfl hd rfl hl kk
  case lstore k =>
    obtain ⟨rfl, h⟩ := own_g_ok h
    obtain ⟨v, u, l', rfl, hl, rfl⟩ := own_stl_ok h
    exact XS.lstore X.here hx rfl hd rfl hl kk
  case lstore_n k =>
    obtain ⟨rfl, h⟩ := own_g_ok h
    obtain ⟨v, u, l', rfl, hl, rfl⟩ := own_stl_ok h
    exact XS.lstoreN X.here hx rfl hd rfl hl kk
  case astore k =>
    obtain ⟨rfl, h⟩ := own_g_ok h
    obtain ⟨v, u, l', rfl, hv, hl, rfl⟩ := own_sta_ok h
    exact XS.astore X.here hx rfl hd rfl hv hl kk
  case astore_n k =>
    obtain ⟨rfl, h⟩ := own_g_ok h
    obtain ⟨v, u, l', rfl, hv, hl, rfl⟩ := own_sta_ok h
    exact XS.astoreN X.here hx rfl hd rfl hv hl kk
  case iconst i =>
    obtain ⟨rfl, h⟩ := own_g_ok h
    obtain rfl := Option.some.inj h
    exact XS.iconst X.here hx rfl hd kk
  case bipush i =>
    obtain ⟨rfl, h⟩ := own_g_ok h
    obtain rfl := Option.some.inj h
    exact XS.bipush X.here hx rfl hd kk
  case sipush i =>
    obtain ⟨rfl, h⟩ := own_g_ok h
    obtain rfl := Option.some.inj h
    exact XS.sipush X.here hx rfl hd kk
  case lconst i =>
    obtain ⟨rfl, h⟩ := own_g_ok h
    obtain rfl := Option.some.inj h
    exact XS.lconst X.here hx rfl hd kk
  case aconst_null =>
    obtain ⟨rfl, h⟩ := own_g_ok h
    obtain rfl := Option.some.inj h
    exact XS.aconstNull X.here hx rfl hd kk
  case iadd =>
    obtain ⟨rfl, h⟩ := own_g_ok h
    obtain ⟨x, y, u, rfl, rfl⟩ := own_bii_ok h
    exact XS.iadd X.here hx rfl hd rfl kk
  case ladd =>
    obtain ⟨rfl, h⟩ := own_g_ok h
    obtain ⟨x, y, u, rfl, rfl⟩ := own_bll_ok h
    exact XS.ladd X.here hx rfl hd rfl kk
  case isub =>
    obtain ⟨rfl, h⟩ := own_g_ok h
    obtain ⟨x, y, u, rfl, rfl⟩ := own_bii_ok h
    exact XS.isub X.here hx rfl hd rfl kk
  case lsub =>
    obtain ⟨rfl, h⟩ := own_g_ok h
    obtain ⟨x, y, u, rfl, rfl⟩ := own_bll_ok h
    exact XS.lsub X.here hx rfl hd rfl kk
  case imul =>
    obtain ⟨rfl, h⟩ := own_g_ok h
    obtain ⟨x, y, u, rfl, rfl⟩ := own_bii_ok h
    exact XS.imul X.here hx rfl hd rfl kk
  case lmul =>
    obtain ⟨rfl, h⟩ := own_g_ok h
    obtain ⟨x, y, u, rfl, rfl⟩ := own_bll_ok h
    exact XS.lmul X.here hx rfl hd rfl kk
  case iand =>
    obtain ⟨rfl, h⟩ := own_g_ok h
    obtain ⟨x, y, u, rfl, rfl⟩ := own_bii_ok h
    exact XS.iand X.here hx rfl hd rfl kk
  case land =>
    obtain ⟨rfl, h⟩ := own_g_ok h
    obtain ⟨x, y, u, rfl, rfl⟩ := own_bll_ok h
    exact XS.land X.here hx rfl hd rfl kk
  case ior =>
    obtain ⟨rfl, h⟩ := own_g_ok h
    obtain ⟨x, y, u, rfl, rfl⟩ := own_bii_ok h
    exact XS.ior X.here hx rfl hd rfl kk
  case lor =>
    obtain ⟨rfl, h⟩ := own_g_ok h
    obtain ⟨x, y, u, rfl, rfl⟩ := own_bll_ok h
    exact XS.lor X.here hx rfl hd rfl kk
  case ixor =>
    obtain ⟨rfl, h⟩ := own_g_ok h
    obtain ⟨x, y, u, rfl, rfl⟩ := own_bii_ok h
    exact XS.ixor X.here hx rfl hd rfl kk
  case lxor =>
    obtain ⟨rfl, h⟩ := own_g_ok h
    obtain ⟨x, y, u, rfl, rfl⟩ := own_bll_ok h
    exact XS.lxor X.here hx rfl hd rfl kk
  case ishl =>
    obtain ⟨rfl, h⟩ := own_g_ok h
    obtain ⟨x, y, u, rfl, rfl⟩ := own_bii_ok h
    exact XS.ishl X.here hx rfl hd rfl kk
  case ishr =>
    obtain ⟨rfl, h⟩ := own_g_ok h
    obtain ⟨x, y, u, rfl, rfl⟩ := own_bii_ok h
    exact XS.ishr X.here hx rfl hd rfl kk
  case iushr =>
    obtain ⟨rfl, h⟩ := own_g_ok h
    obtain ⟨x, y, u, rfl, rfl⟩ := own_bii_ok h
    exact XS.iushr X.here hx rfl hd rfl kk
  case lshl =>
    obtain ⟨rfl, h⟩ := own_g_ok h
    obtain ⟨x, y, u, rfl, rfl⟩ := own_bli_ok h
    exact XS.lshl X.here hx rfl hd rfl kk
  case lshr =>
    obtain ⟨rfl, h⟩ := own_g_ok h
    obtain ⟨x, y, u, rfl, rfl⟩ := own_bli_ok h
    exact XS.lshr X.here hx rfl hd rfl kk
  case lushr =>
    obtain ⟨rfl, h⟩ := own_g_ok h
    obtain ⟨x, y, u, rfl, rfl⟩ := own_bli_ok h
    exact XS.lushr X.here hx rfl hd rfl kk
  case lcmp =>
    obtain ⟨rfl, h⟩ := own_g_ok h
    obtain ⟨x, y, u, rfl, rfl⟩ := own_bci_ok h
    exact XS.lcmp X.here hx rfl hd rfl kk
  case ineg =>
    obtain ⟨rfl, h⟩ := own_g_ok h
    obtain ⟨x, u, rfl, rfl⟩ := own_uii_ok h
    exact XS.ineg X.here hx rfl hd rfl kk
  case lneg =>
    obtain ⟨rfl, h⟩ := own_g_ok h
    obtain ⟨x, u, rfl, rfl⟩ := own_ull_ok h
    exact XS.lneg X.here hx rfl hd rfl kk
  case i2l =>
    obtain ⟨rfl, h⟩ := own_g_ok h
    obtain ⟨x, u, rfl, rfl⟩ := own_uil_ok h
    exact XS.i2l X.here hx rfl hd rfl kk
  case l2i =>
    obtain ⟨rfl, h⟩ := own_g_ok h
    obtain ⟨x, u, rfl, rfl⟩ := own_uli_ok h
    exact XS.l2i X.here hx rfl hd rfl kk
  case i2b =>
    obtain ⟨rfl, h⟩ := own_g_ok h
    obtain ⟨x, u, rfl, rfl⟩ := own_uii_ok h
    exact XS.i2b X.here hx rfl hd rfl kk
  case i2s =>
    obtain ⟨rfl, h⟩ := own_g_ok h
    obtain ⟨x, u, rfl, rfl⟩ := own_uii_ok h
    exact XS.i2s X.here hx rfl hd rfl kk
  case i2c =>
    obtain ⟨rfl, h⟩ := own_g_ok h
    obtain ⟨x, u, rfl, rfl⟩ := own_uii_ok h
    exact XS.i2c X.here hx rfl hd rfl kk
  case iinc k z =>
    obtain ⟨rfl, h⟩ := own_g_ok h
    obtain ⟨x, l', hl, hl', rfl⟩ := own_inc_ok h
    exact XS.iinc X.here hx rfl hd hl hl' kk
  case dup =>
    obtain ⟨rfl, h⟩ := own_g_ok h
    obtain ⟨x, u, rfl, w, rfl⟩ := own_dp1_ok h
    exact XS.dup X.here hx rfl hd rfl w kk
  case pop =>
    obtain ⟨rfl, h⟩ := own_g_ok h
    obtain ⟨x, u, rfl, w, rfl⟩ := own_pp1_ok h
    exact XS.pop X.here hx rfl hd rfl w kk
  case dup_x1 =>
    obtain ⟨rfl, h⟩ := own_g_ok h
    obtain ⟨x, y, u, rfl, w, w', rfl⟩ := own_dx1_ok h
    exact XS.dupX1 X.here hx rfl hd rfl w w' kk
  case dup2 =>
    obtain ⟨rfl, h⟩ := own_g_ok h
    obtain ⟨x, y, u, rfl, w, w', rfl⟩ := own_dp2_ok h
    exact own_dup2 X.here hx rfl hd rfl w w' kk
  case goto o =>
    obtain ⟨rfl, h⟩ := own_g_ok h
    obtain ⟨w, rfl⟩ := own_jmp_ok h
    exact XS.goto X.here hx rfl (pc0 := pc) rfl hd w rfl kk
  case ifCond cd o =>
    obtain ⟨rfl, h⟩ := own_g_ok h
    obtain ⟨x, u, rfl, ⟨w, w', rfl⟩ | ⟨w, rfl⟩⟩ := own_ifc_ok h
    · exact XS.ifYes X.here hx rfl (pc0 := pc) rfl hd rfl w w' rfl kk
    · exact XS.ifNo X.here hx rfl hd rfl w kk
  case if_icmp cd o =>
    obtain ⟨rfl, h⟩ := own_g_ok h
    obtain ⟨x, y, u, rfl, ⟨w, w', rfl⟩ | ⟨w, rfl⟩⟩ := own_icm_ok h
    · exact XS.icmpYes X.here hx rfl (pc0 := pc) rfl hd rfl w w' rfl kk
    · exact XS.icmpNo X.here hx rfl hd rfl w kk
  case ifnull o =>
    obtain ⟨rfl, h⟩ := own_g_ok h
    obtain ⟨u, ⟨rfl, w', rfl⟩ | ⟨b, rfl, rfl⟩⟩ := own_ifn_ok h
    · exact XS.ifnullYes X.here hx rfl (pc0 := pc) rfl hd rfl w' rfl kk
    · exact XS.ifnullNo X.here hx rfl hd rfl kk
  case ifnonnull o =>
    obtain ⟨rfl, h⟩ := own_g_ok h
    obtain ⟨u, ⟨b, rfl, w', rfl⟩ | ⟨rfl, rfl⟩⟩ := own_inn_ok h
    · exact XS.ifnonnullYes X.here hx rfl (pc0 := pc) rfl hd rfl w' rfl kk
    · exact XS.ifnonnullNo X.here hx rfl hd rfl kk
  all_goals exact nomatch (show (none : own_R) = some _ from h)
def own_fetch (M : Nat) (f : Nat → Option (Instr × Nat)) (pc : Nat) : Option (Instr × Nat) := bif Nat.ble pc M then f pc else none
def own_exec (M : Nat) (f : Nat → Option (Instr × Nat)) : Nat → Nat → Array Slot → List Value → own_R
  | 0, pc, ls, st => some (pc, ls, st)
  | n + 1, pc, ls, st => match own_fetch M f pc with
    | some (i, ln) => (match own_step i ln pc ls st with
      | some (pc', ls', st') => own_exec M f n pc' ls' st'
      | none => none)
    | none => none
def own_chk (code : ByteArray) (f : Nat → Option (Instr × Nat)) (pc : Nat) : Bool := match f pc with
  | some q => decide (decode code pc = .ok q)
  | none => true
theorem own_tab {M : Nat} {f : Nat → Option (Instr × Nat)} {code : ByteArray} (H : ∀ pc, pc < M + 1 → own_chk code f pc = true) (pc : Nat) (q : Instr × Nat) (h : own_fetch M f pc = some q) : decode code pc = .ok q := by
  unfold own_fetch at h
  cases w : Nat.ble pc M with
  | false => rw [w] at h; exact nomatch h
  | true =>
    rw [w] at h
    have h' : f pc = some q := h
    have u := H pc (Nat.lt_succ_of_le (Nat.le_of_ble_eq_true w))
    unfold own_chk at u
    rw [h'] at u
    exact of_decide_eq_true u
def own_T (p : Program) (c : Code) (M : Nat) (f : Nat → Option (Instr × Nat)) : Prop := p.tables.exec = Jvm.exec ∧ ∀ pc q, own_fetch M f pc = some q → decode c.code pc = .ok q
theorem own_tt {M : Nat} {f : Nat → Option (Instr × Nat)} {code : ByteArray} (hx : p.tables.exec = Jvm.exec) (hby : c.code = code) (H : ∀ pc q, own_fetch M f pc = some q → decode code pc = .ok q) : own_T p c M f := ⟨hx, fun pc q h => hb hby (H pc q h)⟩
theorem own_r {M : Nat} {f : Nat → Option (Instr × Nat)} (X : Stand p l e R s m args below meth c T locs cells slots) (tt : own_T p c M f) (pc n : Nat) {ls : Array Slot} {st : List Value} {pc' : Nat} {ls' : Array Slot} {st' : List Value} (h : own_exec M f n pc ls st = some (pc', ls', st')) {t : State} (kk : Steps p.tables e below (T.setTop (mkF m pc' ls' st')) t) : Steps p.tables e below (T.setTop (mkF m pc ls st)) t := by
  induction n generalizing pc ls st with
  | zero => cases h; exact kk
  | succ n ih =>
    unfold own_exec at h
    split at h
    · split at h
      · exact own_step_ok X tt.1 _ (tt.2 _ _ (by assumption)) (by assumption) (ih _ h)
      · exact nomatch h
    · exact nomatch h
theorem own_e {M : Nat} {f : Nat → Option (Instr × Nat)} (X : Stand p l e R s m args below meth c T locs cells slots) (tt : own_T p c M f) (pc n : Nat) {ls : Array Slot} {st : List Value} {pc' : Nat} {ls' : Array Slot} {st' : List Value} {t : State} (kk : Steps p.tables e below (T.setTop (mkF m pc' ls' st')) t) (h : own_exec M f n pc ls st = some (pc', ls', st')) : Steps p.tables e below (T.setTop (mkF m pc ls st)) t := own_r X tt pc n h kk
theorem oN {r : Option FieldType} {t : FieldType} {v : Option Value} (h : r = some t) : r = none → v = none := fun q => by rw [h] at q; cases q
theorem oL {a b c : Nat} (h : a < b) (h2 : b ≤ c) : a ≠ c := Nat.ne_of_lt (oW h h2)
theorem oM {a b c : Nat} (h : a < b) (h2 : b ≤ c) : c ≠ a := Nat.ne_of_gt (oW h h2)
abbrev oRm (f c s l : Nat) : Room := { frames := f, cells := c, slots := s, locals := l }
abbrev own_Met (l : Launch) (y : MethodName) (b : ByteArray) (ml : Nat) (ret : Option FieldType) (ws : List Jvm.Cond) (rm : Room) (A : Array Value) (Z : State) (h0 : Heap) (Q : Option Value → Heap → List Loc → Prop) : Prop :=
  MetFree l y (head1 (Jvm.Cond.code y b ml ret :: ws) rm) (fun a U => a = A ∧ Z.Warmed39 U.vm ∧ U.heap = h0) (fun _ _ _ _ _ => True) (fun _ U o U' => ∃ v L, o = .returned v ∧ Q v U'.heap L ∧ FrameEnd U o U' L rm.cells rm.slots)
theorem own_met {l : Launch} {y : MethodName} {b : ByteArray} {ml : Nat} {ret : Option FieldType} {ws : List Jvm.Cond} {rm : Room} {A : Array Value} {Z : State} {h0 : Heap} {Q : Option Value → Heap → List Loc → Prop} {own : String} (ho : y.cls = own) (hp : plainFor y = true)
    (H : ∀ (p : Program) (e : Env) (s : State) (m : MethodId) (below : List Frame) (meth : Method) (c : Code) (s₁ : State), p.tables.exec = Jvm.exec → c.code = b → c.maxLocals = ml → Z.Warmed39 s.vm → s.vm.findClass own = some m.cls → meth.name = y.name → Stand p l e rm s m A below meth c s₁ [] 0 0 → s₁.heap = h0 → meth.sig.returnType = ret → meth.locks = false → own_Ends p e below s Q rm.cells rm.slots s₁ (entryFrame m A ml)) : own_Met l y b ml ret ws rm A Z h0 Q := by
  subst ho
  refine MetFree.of_bodySF hp hisR ?_
  intro p e s m args below meth c s₁ Bd hml0 hP hK
  obtain ⟨rfl, hZ, hh⟩ := hP
  exact H p e s m below meth c s₁ Bd.exec Bd.bytes hml0 hZ (findClass_of_methodNamed Bd.named) (name_of_methodNamed Bd.named Bd.method).1 (Stand.of_body Bd) (by rw [← hh, Bd.state]; rfl) Bd.returns Bd.notSynchronized
end Run
theorem own_addI {a b : Int32} (h1 : -2147483648 ≤ a.toInt + b.toInt) (h2 : a.toInt + b.toInt < 2147483648) : (a + b).toInt = a.toInt + b.toInt := by
  rw [Int32.toInt_add]; exact Int.bmod_eq_of_le (by omega) (by omega)
theorem own_subI {a b : Int32} (h1 : -2147483648 ≤ a.toInt - b.toInt) (h2 : a.toInt - b.toInt < 2147483648) : (a - b).toInt = a.toInt - b.toInt := by
  rw [Int32.toInt_sub]; exact Int.bmod_eq_of_le (by omega) (by omega)
theorem own_nat32 (x : Int32) (h : 0 ≤ x.toInt) : x.toInt = (x.toBitVec.toNat : Int) := by
  have e : x.toInt = x.toBitVec.toInt := rfl
  rw [BitVec.toInt_eq_toNat_cond] at e
  have := x.toBitVec.isLt
  split at e <;> omega
theorem own_maskI (x m : Int32) (h : 0 ≤ m.toInt) : 0 ≤ (x &&& m).toInt ∧ (x &&& m).toInt ≤ m.toInt := by
  have hm := own_nat32 m h
  have h1 : (x &&& m).toBitVec.toNat ≤ m.toBitVec.toNat := by rw [Int32.toBitVec_and, BitVec.toNat_and]; exact Nat.and_le_right
  have e : (x &&& m).toInt = (x &&& m).toBitVec.toInt := rfl
  have hl := Int32.toInt_lt m
  rw [e, BitVec.toInt_eq_toNat_cond]
  split <;> omega
theorem own_ltI {a b : Int32} : a < b ↔ a.toInt < b.toInt := Int32.lt_iff_toInt_lt
section OwnW
variable {p : Program} {l : Launch} {e : Env} {R : Room} {s : State} {m : MethodId} {args : Array Value} {below : List Frame} {meth : Method} {c : Code} {T T' : State} {locs : List Loc} {cells slots cc nn : Nat} {f f' : JFrame} {Q : Option Value → Heap → Vm → List Loc → Prop} {Z B : State} {h h' : Heap} {a0 : Array Value}
/-- the same where String constants may have been loaded since the start -/
def own_EndsW (p : Program) (e : Env) (below : List Frame) (s : State) (Q : Option Value → Heap → Vm → List Loc → Prop) (cc nn : Nat) (T : State) (f : JFrame) : Prop :=
  ∃ s₂ o, Steps p.tables e below (T.setTop f) s₂ ∧ s₂.status = .running ∧ Ended s₂ below o ∧ ∃ v L, o = .returned v ∧ Q v s₂.heap s₂.vm L ∧ ReturnedEndW s o s₂ L cc nn
theorem own_goW (k : ∀ t, Steps p.tables e below (T'.setTop f') t → Steps p.tables e below (T.setTop f) t) (h : own_EndsW p e below s Q cc nn T' f') : own_EndsW p e below s Q cc nn T f := by
  obtain ⟨s₂, o, h1, h2⟩ := h
  exact ⟨s₂, o, k _ h1, h2⟩
theorem own_retW {vm₁ : Vm} {n : Nat} (X : Stand p l e R (s.setVm vm₁) m args below meth c T locs cells slots) (hS : s.Since vm₁ n) (hn : n ≤ T.heap.size) {v : Option Value} (hv : meth.sig.returnType = none → v = none) (hlk : meth.locks = false)
    (st : ∀ fs, (∀ (f : JFrame) (acts : List Action), f.method = m → f.locked = none → f.entered = [] → (doReturn e (T.setTop f) acts v).1 = T.setFrames fs) → Steps p.tables e below (T.setTop f) (T.setFrames fs)) (hQ : Q v T.heap T.vm locs) (h1 : cells ≤ cc) (h2 : slots ≤ nn) :
    own_EndsW p e below s Q cc nn T f := by
  obtain ⟨fs, hr, hrun, hended, ⟨ha, hb, hc, hd⟩⟩ := X.leaveW hS hn (v := v) hv hlk
  exact ⟨_, _, st fs hr, hrun, hended, _, _, rfl, hQ, ha, hb, hc, hd.mono h1 h2⟩
theorem own_sm {vm₁ : Vm} {n n' : Nat} (h : s.Since vm₁ n) (hn : n ≤ n') : s.Since vm₁ n' := ⟨h.1, fun j p hj hp => by obtain ⟨x, y⟩ := h.2 j p hj hp; exact ⟨x, oW y hn⟩⟩
theorem own_ib {Ts : List String} (I : IB Z B.vm Ts) (hB : B.WarmedH s.vm) : IB Z s.vm Ts := by
  obtain ⟨more, h1, h2⟩ := I
  exact ⟨more, by rw [hB.interned_eq]; exact h1, h2⟩
theorem own_backS {y : MethodName} {bytes : ByteArray} {maxL : Nat} {ret : Option FieldType} {rm : Room} {len W : Nat} {as' : Array Value}
    (hM : MetFree l y (head1 [Cond.code y bytes maxL ret] rm) (fun a U => a = as' ∧ Z.Warmed39 U.vm ∧ s.WarmedH U.vm ∧ U.heap = h) (fun _ _ _ _ _ => True) (fun _ U o U' => ∃ v L, o = .returned v ∧ Q v U'.heap U'.vm L ∧ ReturnedEndW U o U' L rm.cells rm.slots))
    (hZ : Z.Warmed39 s.vm) (wc : (Cond.code y bytes maxL ret).before a0 Z = true) (wz : (Cond.initialized y.cls).before a0 Z = true) (hf : rm.frames + 1 ≤ R.frames) (hl : W + (maxL + 11) + rm.locals ≤ R.locals) :
    BackS l R p e below s args y len W (fun A a => a = as' ∧ A.U.heap = h ∧ A.cells + rm.cells ≤ R.cells ∧ A.slots + rm.slots ≤ R.slots)
      (fun A _ v B => ∃ L, Q v B.U.heap B.U.vm L ∧ B.locs = A.locs ++ L ∧ B.cells = A.cells + rm.cells ∧ B.slots = A.slots + rm.slots) :=
  BackS.of_freeW (bytes := bytes) (maxL := maxL) (ret := ret) (E := fun _ _ o t L k n => k = rm.cells ∧ n = rm.slots ∧ ∃ v, o = .returned v ∧ Q v t.heap t.vm L) hM hf hl
    (fun _ _ _ A a Y hp => have hU : Z.Warmed39 A.U.vm := wtrans hZ Y.warmed
      ⟨by show (Cond.and _ .tt).before a A.U = true; rw [Cond.before_and, mv hU wc]; rfl, mv hU wc, mv hU wz, hp.2.2.1, hp.2.2.2⟩)
    (fun _ _ _ _ _ _ _ Y hp => ⟨hp.1, wtrans hZ Y.warmed, Y.warmed, hp.2.1⟩) (fun _ _ _ _ _ _ _ _ _ => trivial)
    (fun _ _ _ _ ⟨v, L, h1, h2, h3⟩ => ⟨L, _, _, h3, rfl, rfl, v, h1, h2⟩)
    (fun _ _ _ _ _ _ _ _ _ L _ _ _ _ _ _ ⟨e1, e2, _, e3, e4⟩ => by cases e3; subst e1 e2; exact ⟨L, e4, rfl, rfl, rfl⟩)
end OwnW
theorem own_wS {Z : State} {a0 : Array Value} (hw : HW a0 Z) : ∀ a ∈ Bundle.stringAtoms, a.before a0 Z = true := by
  intro a ha
  have H := fun (k : Nat) (d : Jvm.Cond) (e : tables_1[k]? = some d) => hw d (List.mem_of_getElem? e)
  simp only [Bundle.stringAtoms, List.mem_cons, List.not_mem_nil, or_false] at ha
  rcases ha with rfl | rfl | rfl | rfl | rfl | rfl | rfl
  all_goals first | exact H 31 _ rfl | exact H 38 _ rfl | exact H 32 _ rfl | exact H 39 _ rfl | exact H 40 _ rfl | exact H 41 _ rfl | exact H 42 _ rfl
def own_min (x y : Int32) : Int32 := if y < x then y else x
def own_max (x y : Int32) : Int32 := if x < y then y else x
def own_dg (x : Int32) : Int32 := if x < 10 then 1 else if x < 100 then 2 else if x < 1000 then 3 else if x < 10000 then 4 else if x < 100000 then 5 else if x < 1000000 then 6 else if x < 10000000 then 7 else if x < 100000000 then 8 else if x < 1000000000 then 9 else 10
theorem own_dgb (x : Int32) : 1 ≤ (own_dg x).toInt ∧ (own_dg x).toInt ≤ 10 := by
  unfold own_dg
  repeat' split
  all_goals decide
theorem own_negI {a : Int32} (h : -2147483648 < a.toInt) : (-a).toInt = -a.toInt := by
  have h2 := Int32.toInt_lt a
  rw [Int32.toInt_neg]; exact Int.bmod_eq_of_le (by omega) (by omega)
theorem own_z32 : (0 : Int32).toInt = 0 := rfl
theorem own_ngc {x k m : Int32} (hx : ¬ x < (0 : Int32)) (h1 : m.toInt = -k.toInt) (h2 : 0 ≤ k.toInt) (h3 : k.toInt < 2147483648) : m < -x ↔ x < k := by
  have e := mt own_ltI.mpr hx
  rw [own_z32] at e
  rw [own_ltI, own_ltI, own_negI (by omega), h1]
  omega
theorem own_cl0 {nn z : Int32} (h : ¬ z < nn) : (0 : Int32).toNatClampNeg + nn.toNatClampNeg ≤ z.toNatClampNeg := by
  have e := mt own_ltI.mpr h
  show (0 : Int32).toInt.toNat + nn.toInt.toNat ≤ z.toInt.toNat
  rw [own_z32]; omega
theorem own_cl {dp nn z k : Int32} (h1 : k.toInt + nn.toInt = z.toInt) (h2 : 0 ≤ nn.toInt) (h3 : 0 ≤ k.toInt) (h : ¬ k < dp) : dp.toNatClampNeg + nn.toNatClampNeg ≤ z.toNatClampNeg := by
  have e := mt own_ltI.mpr h
  show dp.toInt.toNat + nn.toInt.toNat ≤ z.toInt.toNat
  omega
theorem own_cap {z k : Int32} {c : Nat} (h1 : k.toInt = c) (h : ¬ k < z) : z.toNatClampNeg ≤ c := by
  have e := mt own_ltI.mpr h
  show z.toInt.toNat ≤ c
  omega
theorem own_shr0 (x : Int32) : (x >>> ((0 : Int32) &&& 31)) = x := by
  rw [show ((0 : Int32) &&& 31) = 0 from by decide]
  first | exact Int32.shiftRight_zero | simp
theorem own_shl0 (x : Int32) : (x <<< ((0 : Int32) &&& 31)) = x := by
  rw [show ((0 : Int32) &&& 31) = 0 from by decide]
  first | exact Int32.shiftLeft_zero | simp
theorem own_mm {x y : Int32} (hx : ¬ x < (0 : Int32)) (hy : ¬ y < (0 : Int32)) : ¬ own_min x y < (0 : Int32) ∧ ¬ own_max x y < own_min x y := by
  have e1 := mt own_ltI.mpr hx
  have e2 := mt own_ltI.mpr hy
  unfold own_min own_max
  by_cases q : y < x
  · have q' := own_ltI.mp q
    rw [if_pos q, if_neg (fun r => by have := own_ltI.mp r; omega)]
    exact ⟨hy, fun r => by have := own_ltI.mp r; omega⟩
  · rw [if_neg q]
    refine ⟨hx, ?_⟩
    by_cases r : x < y
    · rw [if_pos r]; exact fun t => q t
    · rw [if_neg r]; exact fun t => by have := own_ltI.mp t; omega
theorem own_mk (x : Int32) : ¬ (x &&& (2147483647 : Int32)) < (0 : Int32) := by
  have h := own_maskI x 2147483647 (by decide)
  intro q
  have := own_ltI.mp q
  rw [own_z32] at this
  omega
theorem own_m10 {x : Int32} (hx : ¬ x < (0 : Int32)) : ¬ (x % (10 : Int32)) < (0 : Int32) ∧ (x % (10 : Int32)) < (10 : Int32) := by
  have e := mt own_ltI.mpr hx
  rw [own_z32] at e
  have t : (10 : Int32).toInt = 10 := rfl
  have h : (x % (10 : Int32)).toInt = x.toInt.tmod 10 := Int32.toInt_mod _ _
  rw [Int.tmod_eq_emod_of_nonneg (by omega)] at h
  refine ⟨fun q => ?_, own_ltI.mpr ?_⟩
  · have := own_ltI.mp q; rw [own_z32] at this; omega
  · rw [t]; omega
theorem own_mx10 {x y : Int32} (hx : x < (10 : Int32)) (hy : y < (10 : Int32)) : own_max x y < (10 : Int32) := by
  unfold own_max
  split
  · exact hy
  · exact hx
theorem own_ll {x y : Int32} (h : ¬ y < x) (h2 : y < (10 : Int32)) : x < (10 : Int32) := by
  have a := mt own_ltI.mpr h
  have b := own_ltI.mp h2
  exact own_ltI.mpr (by omega)
theorem own_l0 {x y : Int32} (h : ¬ x < (0 : Int32)) (h2 : ¬ y < x) : ¬ y < (0 : Int32) := by
  have a := mt own_ltI.mpr h
  have b := mt own_ltI.mpr h2
  exact fun q => by have := own_ltI.mp q; omega
theorem own_dg1 {x : Int32} (h : x < (10 : Int32)) : own_dg x = 1 := by rw [own_dg, if_pos h]
theorem own_l24 {x y : Int32} (hl : ¬ x < (0 : Int32)) (hle : ¬ y < x) (h : y < (10 : Int32)) : (24 : Int32) = (((22 : Int32) + (own_dg x)) + (own_dg y)) := by
  rw [own_dg1 h, own_dg1 (own_ll hle h)]; decide
theorem own_lg (x y : Int32) : (((((17 : Int32) + (own_dg x)) + (5 : Int32)) + (own_dg y)) >>> ((0 : Int32) &&& 31)) = (((22 : Int32) + (own_dg x)) + (own_dg y)) := by
  rw [own_shr0]
  have a := own_dgb x
  have b := own_dgb y
  have e17 : (17 : Int32).toInt = 17 := rfl
  have e5 : (5 : Int32).toInt = 5 := rfl
  have e22 : (22 : Int32).toInt = 22 := rfl
  have t1 : ((17 : Int32) + (own_dg x)).toInt = (17 : Int32).toInt + (own_dg x).toInt := own_addI (by omega) (by omega)
  have t2 : (((17 : Int32) + (own_dg x)) + (5 : Int32)).toInt = ((17 : Int32) + (own_dg x)).toInt + (5 : Int32).toInt := own_addI (by omega) (by omega)
  have t3 : ((((17 : Int32) + (own_dg x)) + (5 : Int32)) + (own_dg y)).toInt = (((17 : Int32) + (own_dg x)) + (5 : Int32)).toInt + (own_dg y).toInt := own_addI (by omega) (by omega)
  have t4 : ((22 : Int32) + (own_dg x)).toInt = (22 : Int32).toInt + (own_dg x).toInt := own_addI (by omega) (by omega)
  have t5 : (((22 : Int32) + (own_dg x)) + (own_dg y)).toInt = ((22 : Int32) + (own_dg x)).toInt + (own_dg y).toInt := own_addI (by omega) (by omega)
  exact Int32.toInt_inj.mp (by omega)
theorem own_10 {z : Int32} (h1 : ¬ z < (0 : Int32)) (h2 : z < (10 : Int32)) : z = 0 ∨ z = 1 ∨ z = 2 ∨ z = 3 ∨ z = 4 ∨ z = 5 ∨ z = 6 ∨ z = 7 ∨ z = 8 ∨ z = 9 := by
  have a := mt own_ltI.mpr h1
  have b := own_ltI.mp h2
  have t : (10 : Int32).toInt = 10 := rfl
  rw [own_z32] at a
  rw [t] at b
  have c : z.toInt = 0 ∨ z.toInt = 1 ∨ z.toInt = 2 ∨ z.toInt = 3 ∨ z.toInt = 4 ∨ z.toInt = 5 ∨ z.toInt = 6 ∨ z.toInt = 7 ∨ z.toInt = 8 ∨ z.toInt = 9 := by omega
  rcases c with q | q | q | q | q | q | q | q | q | q
  · exact Or.inl (Int32.toInt_inj.mp q)
  · exact Or.inr (Or.inl (Int32.toInt_inj.mp q))
  · exact Or.inr (Or.inr (Or.inl (Int32.toInt_inj.mp q)))
  · exact Or.inr (Or.inr (Or.inr (Or.inl (Int32.toInt_inj.mp q))))
  · exact Or.inr (Or.inr (Or.inr (Or.inr (Or.inl (Int32.toInt_inj.mp q)))))
  · exact Or.inr (Or.inr (Or.inr (Or.inr (Or.inr (Or.inl (Int32.toInt_inj.mp q))))))
  · exact Or.inr (Or.inr (Or.inr (Or.inr (Or.inr (Or.inr (Or.inl (Int32.toInt_inj.mp q)))))))
  · exact Or.inr (Or.inr (Or.inr (Or.inr (Or.inr (Or.inr (Or.inr (Or.inl (Int32.toInt_inj.mp q))))))))
  · exact Or.inr (Or.inr (Or.inr (Or.inr (Or.inr (Or.inr (Or.inr (Or.inr (Or.inl (Int32.toInt_inj.mp q)))))))))
  · exact Or.inr (Or.inr (Or.inr (Or.inr (Or.inr (Or.inr (Or.inr (Or.inr (Or.inr (Int32.toInt_inj.mp q)))))))))
theorem own_c255 {z : Int32} (h1 : ¬ z < (0 : Int32)) (h2 : z < (10 : Int32)) : ¬ (255 : Int32) < (nar .char (((48 : Int32) + z).toUInt32.toUInt16.toUInt32.toInt32)) := by
  rcases own_10 h1 h2 with rfl | rfl | rfl | rfl | rfl | rfl | rfl | rfl | rfl | rfl <;> decide +kernel
theorem own_bc {z : Int32} (h1 : ¬ z < (0 : Int32)) (h2 : z < (10 : Int32)) : (nar .byte ((48 : Int32) + z)) = (nar .byte ((nar .char (((48 : Int32) + z).toUInt32.toUInt16.toUInt32.toInt32)).toInt8.toInt32)) := by
  rcases own_10 h1 h2 with rfl | rfl | rfl | rfl | rfl | rfl | rfl | rfl | rfl | rfl <;> decide +kernel
def own_D10 (vd : List Value) : Prop := ∀ x : Int32, ¬ x < (0 : Int32) → x < (10 : Int32) → vd.getD x.toNatClampNeg (.int (0 : Int32)) = .int ((48 : Int32) + x)
theorem own_d10 {vd : List Value} {x : Int32} (h : own_D10 vd) (h1 : ¬ x < (0 : Int32)) (h2 : x < (10 : Int32)) : vd.getD (-(-x)).toNatClampNeg (.int (0 : Int32)) = .int ((48 : Int32) + x) := by
  rw [Int32.neg_neg]; exact h x h1 h2
def own_SameSt (Z : State) : Prop := ∀ (cf1 i1 : Nat) (k1 : Class) (f1 : Field) (cf2 i2 : Nat) (k2 : Class) (f2 : Field), Z.fieldFound? "java/lang/Integer" "DigitOnes" "[B" = some (cf1, k1, i1, f1) → Z.fieldFound? "java/lang/Integer" "DigitTens" "[B" = some (cf2, k2, i2, f2) → k1.statics = k2.statics
theorem own_gd {n : Nat} {f : Nat → Value} {dv : Value} {i : Nat} (h : i < n) : ((List.range n).map f).getD i dv = f i := by
  simp [List.getD_eq_getElem?_getD, h]
theorem own_open {Z : State} {h : Heap} {a : Addr} {k : ClassId} {ty : FieldType} {z : Int32} {vs : List Value} {dv : Value} (V : Arv Z h a k ty z vs dv) : ∃ us : List Value, us.length = (z).toNatClampNeg ∧ Arv Z h a k ty z us dv := by
  obtain ⟨c, A, q1, S, q3, H, G⟩ := V
  refine ⟨(List.range c.slots.size).map fun i => vs.getD i dv, by simp [S], c, A, q1, S, q3, fun i hi => ?_, fun i hi => ?_⟩
  · rw [own_gd hi]; exact H i hi
  · rw [own_gd hi]; exact G i hi
theorem own_fr {m n : Nat} {L : List Loc} (N : Fr n L) (h : m ≤ n) : Fr m L := fun y hy => oT h (N y hy)
theorem own_dgd {x : Int32} (hx : ¬ x < (0 : Int32)) : (own_dg x).toInt = (Jvm.Free.SBG.digits x.toInt.toNat : Int) := by
  have e := mt own_ltI.mpr hx
  rw [own_z32] at e
  have key : ∀ (k : Int32) (n : Nat), k.toInt = n → (x < k ↔ x.toInt.toNat < n) := fun k n hk => by rw [own_ltI, hk]; omega
  have d : Jvm.Free.SBG.digits x.toInt.toNat = if x.toInt.toNat < 10 then 1 else if x.toInt.toNat < 100 then 2 else if x.toInt.toNat < 1000 then 3 else if x.toInt.toNat < 10000 then 4 else if x.toInt.toNat < 100000 then 5 else if x.toInt.toNat < 1000000 then 6 else if x.toInt.toNat < 10000000 then 7 else if x.toInt.toNat < 100000000 then 8 else if x.toInt.toNat < 1000000000 then 9 else 10 := rfl
  rw [d]
  unfold own_dg
  simp only [key 10 10 rfl, key 100 100 rfl, key 1000 1000 rfl, key 10000 10000 rfl, key 100000 100000 rfl, key 1000000 1000000 rfl, key 10000000 10000000 rfl, key 100000000 100000000 rfl, key 1000000000 1000000000 rfl]
  repeat' split
  all_goals rfl
def own_gcQ (Z : State) (h : Heap) (n0 : Nat) (da : Addr) (kb : ClassId) (z : Int32) (v : Option Value) (h' : Heap) (L : List Loc) : Prop := ∃ (r : Int32) (us : List Value), v = some (.int r) ∧ Fr n0 L ∧ Keep h h' [da] ∧ us.length = (z).toNatClampNeg ∧ Arv Z h' da kb .byte z us (.int (0 : Int32))
theorem own_byteInt {v : Value} (h : fits .byte v = true) : ∃ x, v = .int x := fit_I h (by simp)
theorem own_tbl {Z : State} {h : Heap} {nm : String} {d st : Addr} {k : ClassId} {vs : List Value} {cf i : Nat} {kc : Class} {f : Field} {cell : Cell} (V : Arv Z h d k .byte (100 : Int32) vs (.int (0 : Int32))) (s1 : Z.fieldFound? "java/lang/Integer" nm "[B" = some (cf, kc, i, f)) (s2 : f.isStatic = true) (s3 : kc.init = .initialized) (s4 : kc.statics = some st) (s5 : h[st]? = some cell) (s6 : cell.vm.isStatics = true) (s7 : cell.slots[f.slot]? = some (.ref d)) :
    ∃ D : Cell, h[d]? = some D ∧ Jvm.Free.SBG.Tbl { Z with heap := h } nm st d D := by
  obtain ⟨c, ⟨A1, A2, A3⟩, -, S, -, H, G⟩ := V
  have hs : c.slots.size = 100 := S.trans (by decide)
  refine ⟨c, A1, cf, i, kc, f, cell, s1, s2, s3, s4, s5, (fun q => by rw [q] at s6; cases s6), s7, A1, A2, A3, hs, fun r hr => ?_⟩
  have hr' : r < c.slots.size := by rw [hs]; exact hr
  obtain ⟨x, hx⟩ := own_byteInt (G r hr')
  have e := H r hr'
  rw [hx] at e
  have e2 : c.slots.getD r .null = .int x := by rw [Array.getD_eq_getD_getElem?, e]; rfl
  have e3 : Jvm.Free.SBG.iAt c r = x := by show (match c.slots.getD r .null with | .int x => x | _ => 0) = x; rw [e2]
  rw [e3]; exact e
theorem own_gcBack {p : Program} {l : Launch} {e : Env} {R : Room} {s : State} {args : Array Value} {below : List Frame} {Z : State} {a0 : Array Value} {h : Heap} {n0 W : Nat} {x i z : Int32} {da wd wt : Addr} {kb kd kt : ClassId} {us vd vt : List Value} (hZ : Z.Warmed39 s.vm) (hw : HW a0 Z)
    (V : Arv Z h da kb .byte z us (.int (0 : Int32))) (S1 : Sta Z h "java/lang/Integer" "DigitOnes" "[B" (.ref wd)) (V1 : Arv Z h wd kd .byte (100 : Int32) vd (.int (0 : Int32))) (S2 : Sta Z h "java/lang/Integer" "DigitTens" "[B" (.ref wt)) (V2 : Arv Z h wt kt .byte (100 : Int32) vt (.int (0 : Int32)))
    (n1 : da ≠ wd) (n2 : da ≠ wt) (hst : own_SameSt Z) (hx : ¬ x < (0 : Int32)) (hi : ¬ i < own_dg x) (hz : ¬ z < i) (hn : n0 ≤ da) (hfr : 2 ≤ R.frames) (hlo : W + 78 ≤ R.locals) :
    Back l R p e below s args Jvm.Free.SBG.GetChars.gcN 3 W (fun A a => a = #[.int x, .int i, .ref da] ∧ A.U.heap = h ∧ A.cells + 0 ≤ R.cells ∧ A.slots + 0 ≤ R.slots) (fun A _ v B => ∃ L, own_gcQ Z h n0 da kb z v B.U.heap L ∧ B.locs = A.locs ++ L ∧ B.cells = A.cells + 0 ∧ B.slots = A.slots + 0) := by
  intro m meth c A g ig mk a X hg hsize hdg hW hn' hp
  obtain ⟨rfl, hh, hc, hs⟩ := hp
  have hZU : Z.Warmed39 A.U.vm := wtrans hZ X.warmed
  obtain ⟨cl, Ar, hk, Sz, Ng, Hs, Ft⟩ := V
  obtain ⟨cf1, i1, k1, f1, st1, ce1, s11, s12, s13, s14, s15, s16, s17⟩ := S1
  obtain ⟨cf2, i2, k2, f2, st2, ce2, s21, s22, s23, s24, s25, s26, s27⟩ := S2
  have hst' : st1 = st2 := Option.some.inj (s14.symm.trans ((hst _ _ _ _ _ _ _ _ s11 s21).trans s24))
  subst hst'
  obtain ⟨D1, h1, T1⟩ := own_tbl V1 s11 s12 s13 s14 s15 s16 s17
  obtain ⟨D2, h2, T2⟩ := own_tbl V2 s21 s22 s23 s24 s25 s26 s27
  have ex := mt own_ltI.mpr hx
  have ei := mt own_ltI.mpr hi
  have ez := mt own_ltI.mpr hz
  have en := mt own_ltI.mpr Ng
  have eb := own_dgb x
  have ed := own_dgd hx
  have xl := Int32.toInt_lt x
  have zl := Int32.toInt_lt z
  rw [own_z32] at ex en
  have ei' : ((i.toInt.toNat).toInt32).toInt = (i.toInt.toNat : Int) := len_toInt (by omega)
  have hi' : Int32.ofNat i.toInt.toNat = i := Int32.toInt_inj.mp (ei'.trans (by omega))
  have Sz' : cl.slots.size = z.toInt.toNat := Sz
  have sg : Jvm.Free.SBG.GetChars.sgn x = 0 := if_neg hx
  have hby : ∀ j, j < cl.slots.size → fits .byte (cl.slots.getD j .null) = true := fun j hj => by
    rw [Array.getD_eq_getD_getElem?, Hs j hj]; exact Ft j hj
  have hroom : Jvm.Free.SBG.digits x.toInt.toNat + Jvm.Free.SBG.GetChars.sgn x ≤ i.toInt.toNat := by rw [sg]; omega
  have hneg : (if x < 0 then x else -x) = Jvm.Free.SBG.negI x.toInt.toNat := by
    rw [if_neg hx]
    apply Int32.toInt_inj.mp
    rw [own_negI (by omega), Jvm.Free.SBG.negI_toInt (by omega)]
    omega
  have dst : da ≠ st1 := fun q => by
    subst q
    have e1 := Ar.1
    cases e1.symm.trans s15
    have e2 := Ar.plain
    rw [s16] at e2; cases e2
  have htab : Jvm.Free.SBG.GetChars.tab.before args s = true := by
    show (Cond.and _ (Cond.and _ _)).before args s = true
    rw [Cond.before_and, Cond.before_and, Bool.and_eq_true, Bool.and_eq_true]
    exact ⟨mvT hZ (ow131 hw), mvT hZ (ow132 hw), mvT hZ (ow229 hw)⟩
  obtain ⟨v, B, X', ⟨q1, q2, q3, q4, q5, q6, L, q7, q8⟩, hs'⟩ := Jvm.Free.SBG.GetChars.pays (⟨x, x.toInt.toNat, i.toInt.toNat, da, cl, st1, wd, D1, wt, D2⟩ : Jvm.Free.SBG.GetChars.G) W htab (mvT hZ (ow122 hw)) hfr hlo m meth c A g ig mk #[.int x, .int i, .ref da] X hg hsize hdg hW hn'
    ⟨by show _ = #[Value.int x, .int (Int32.ofNat i.toInt.toNat), .ref da]; rw [hi'], hc, hs, by show _ = #[Value.int x, .int (Int32.ofNat i.toInt.toNat), .ref da]; rw [hi'], by rw [hh]; exact Ar.1, State.isArrayOf_alike hZU.alike Ar.2.1, Ar.2.2, by show cl.slots.size < 2 ^ 31; omega, by show i.toInt.toNat ≤ cl.slots.size; omega, hroom, by show x.toInt.toNat ≤ 2 ^ 31; omega, hneg,
      T1.move (U := { Z with heap := h }) (U' := A.U) hZU.alike (fun c q => by rw [hh]; exact q) (by rw [hh]; exact h1), T2.move (U := { Z with heap := h }) (U' := A.U) hZU.alike (fun c q => by rw [hh]; exact q) (by rw [hh]; exact h2), dst, n1, n2⟩
  obtain ⟨o1, o2, o3, o4, o5⟩ := Jvm.Free.SBG.GetChars.outCell_facts (⟨x, x.toInt.toNat, i.toInt.toNat, da, cl, st1, wd, D1, wt, D2⟩ : Jvm.Free.SBG.GetChars.G) (by show x.toInt.toNat ≤ 2 ^ 31; omega) hroom hby
  refine ⟨v, B, X', ⟨L, ⟨_, (Jvm.Free.SBG.GetChars.outCell (⟨x, x.toInt.toNat, i.toInt.toNat, da, cl, st1, wd, D1, wt, D2⟩ : Jvm.Free.SBG.GetChars.G)).slots.toList, q1, fun w hw => ?_, ⟨by rw [q5, hh]; exact Nat.le_refl _, fun y cy hy hne => ?_, fun y cy hy => ?_⟩, ?_, ⟨_, ⟨q2, ?_, ?_⟩, ?_, ?_, Ng, fun j hj => ?_, fun j hj => ?_⟩⟩, q7, q3, q4⟩, hs'⟩
  · rw [q8 w hw]; exact hn
  · exact q6 y cy (fun q => hne (by rw [q]; exact List.mem_singleton.mpr rfl)) (by rw [hh]; exact hy)
  · by_cases q : y = da
    · subst q
      cases Ar.1.symm.trans hy
      exact ⟨_, q2, o1, o2, o3⟩
    · exact ⟨cy, q6 y cy q (by rw [hh]; exact hy), rfl, rfl, rfl⟩
  · rw [Array.length_toList, o3]; exact Sz
  · obtain ⟨a1, kA, a2, comp, a3⟩ := Ar.2.1
    exact ⟨fun j hj => a1 j (o2 ▸ hj), kA, by rw [o1]; exact a2, comp, a3⟩
  · rw [o2]; exact Ar.2.2
  · rw [o1]; exact hk
  · rw [o3]; exact Sz
  · rw [List.getD_eq_getElem?_getD, Array.getElem?_toList, Array.getElem?_eq_getElem hj]; rfl
  · have u := o4 j hj
    rw [Array.getD_eq_getD_getElem?, Array.getElem?_eq_getElem hj] at u
    rw [List.getD_eq_getElem?_getD, Array.getElem?_toList, Array.getElem?_eq_getElem hj]; exact u
theorem own_hasV {cl : Cell} {dv : Value} : ∀ (l : List Value) (i : Nat), (∀ k, (hk : k < l.length) → cl.slots[i + k]? = some (l.getD k dv)) → HasL cl i l
  | [], _, _ => trivial
  | x :: l, i, H => ⟨H 0 (Nat.zero_lt_succ _), own_hasV l (i + 1) fun k hk => by have := H (k + 1) (Nat.succ_lt_succ hk); rwa [show i + (k + 1) = i + 1 + k by omega] at this⟩
theorem own_digits {s : State} {args a0 : Array Value} {t : Term} {a : Addr} (hf : Fit s) (ev : t.eval args s none [] s = some (.ref a)) (hex : (Cond.exactly t "[B").before args s = true) (hlen : (Cond.eq (.length t) (.int (100 : Int32))).before args s = true) (hac : (Cond.arrayClass .byte).before a0 s = true) :
    ∃ (k : ClassId) (vs : List Value) (D : Cell), Arv s s.heap a k .byte (100 : Int32) vs (.int (0 : Int32)) ∧ D.slots.size = 100 ∧ s.arrayAt? a = some D ∧ vs = D.slots.toList ∧ ∀ n, n < 100 → D.slots[n]? = some (.int (Jvm.Free.SBG.iAt D n)) := by
  obtain ⟨a', c', cell, k, e1, e2, e3, e4, e5, rfl, e7⟩ := Cond.exactly_spec hex
  cases ev.symm.trans e1
  obtain ⟨c2, k2, comp, g1, g2, g3⟩ := Cond.arrayClass_spec hac
  have g1' : s.vm.findClass "[B" = some c2 := g1
  cases g1'.symm.trans e2
  obtain ⟨x, y, h1, h2, -, -⟩ := cmp_v (Or.inl (Cond.before_iff.mp hlen))
  obtain ⟨a2, cell2, q1, q2, q3⟩ := Term.length_spec h1
  cases ev.symm.trans q1
  have hk := arrayAt_known q2
  cases e3.symm.trans (arrayAt_spec q2).1
  have A : Arr s s.heap a cell .byte := ⟨e3, ⟨fun j hj => (by rw [hj] at e5; cases e5), k2, g2, comp, g3⟩, hk⟩
  obtain ⟨hsz, hsize⟩ := Jvm.Free.IntBox.length_fwd hlen ev A.1 A.2.1 A.2.2
  have hn : cell.slots.size = 100 := by
    have e : (cell.slots.size.toInt32).toInt = cell.slots.size := len_toInt hsz
    rw [hsize] at e
    have : ((100 : Int32)).toInt = 100 := by decide
    omega
  have hg : ∀ n, n < cell.slots.size → ∃ z, cell.slots[n]? = some (.int z) := fun n hn => by
    obtain ⟨v, h1, h2⟩ := elem_fit (j := Nat.toInt32 n) hf A (idx_in hn hsz)
    obtain ⟨x, rfl⟩ := fit_I h2 (by simp)
    have e1 : (Nat.toInt32 n).toNatClampNeg = n := by simp only [Int32.toNatClampNeg, len_toInt (Nat.lt_trans hn hsz)]; rfl
    rw [e1] at h1
    exact ⟨x, h1⟩
  have hl : ∀ n, cell.slots.toList[n]? = cell.slots[n]? := fun n => Array.getElem?_toList
  refine ⟨cell.cls, cell.slots.toList, cell, Arv.start hf A hsz hsize (by decide) ?_ (own_hasV (dv := .int 0) _ 0 fun n hn => ?_), hn, q2, rfl, fun n hn' => ?_⟩
  · show (100 : Int32).toNatClampNeg = cell.slots.toList.length
    rw [Array.length_toList, hn]; rfl
  · rw [Array.length_toList] at hn
    obtain ⟨z, hz⟩ := hg n hn
    rw [Nat.zero_add, hz, List.getD_eq_getElem?_getD, hl, hz]; rfl
  · obtain ⟨z, hz⟩ := hg n (by rw [hn]; exact hn')
    have e2 : cell.slots.getD n .null = .int z := by rw [Array.getD_eq_getD_getElem?, hz]; rfl
    have e3 : Jvm.Free.SBG.iAt cell n = z := by show (match cell.slots.getD n .null with | .int x => x | _ => 0) = z; rw [e2]
    rw [e3]; exact hz
theorem own_ones {s : State} {args : Array Value} {a : Addr} {D : Cell} {vs : List Value} (ev : (Term.static "java/lang/Integer" "DigitOnes" "[B").eval args s none [] s = some (.ref a)) (hs : D.slots.size = 100) (ha : s.arrayAt? a = some D) (hv : vs = D.slots.toList) (hint : ∀ n, n < 100 → D.slots[n]? = some (.int (Jvm.Free.SBG.iAt D n)))
    (hw : (Cond.all (Term.static "java/lang/Integer" "DigitOnes" "[B") (.eq (.elem (Term.static "java/lang/Integer" "DigitOnes" "[B") (.index 0)) (.add (.int (48 : Int32)) (.rem (.index 0) (.int (10 : Int32)))))).before args s = true) : own_D10 vs := by
  have ho := Jvm.Free.SBG.held_of_word (name := "DigitOnes") (F := fun r => 48 + r % 10) (fun idx => by rw [← ev]; rfl) ha hs hint (fun r hr => by rw [← Jvm.Free.SBG.ones_num r hr]; rfl) hw
  intro x h1 h2
  have hlt : x.toNatClampNeg < 100 := by rcases own_10 h1 h2 with rfl | rfl | rfl | rfl | rfl | rfl | rfl | rfl | rfl | rfl <;> decide
  have e : Int32.ofNat (48 + x.toNatClampNeg % 10) = (48 : Int32) + x := by rcases own_10 h1 h2 with rfl | rfl | rfl | rfl | rfl | rfl | rfl | rfl | rfl | rfl <;> decide
  rw [hv, List.getD_eq_getElem?_getD, Array.getElem?_toList, hint _ hlt, ho _ hlt]
  show Value.int (Int32.ofNat (48 + x.toNatClampNeg % 10)) = _
  rw [e]
theorem own_sameSt {s : State} {args : Array Value} (w1 : (Cond.laysStatic "java/lang/Integer" "DigitOnes" "[B").before args s = true) (w2 : (Cond.laysStatic "java/lang/Integer" "DigitTens" "[B").before args s = true) : own_SameSt s := by
  intro cf1 i1 k1 f1 cf2 i2 k2 f2 h1 h2
  obtain ⟨c, k, i, f, a, cell, hc, hi, -⟩ := Cond.laysStatic_spec w1
  obtain ⟨c', k', i', f', a', cell', hc', hi', -⟩ := Cond.laysStatic_spec w2
  cases h1.symm.trans hi
  cases h2.symm.trans hi'
  cases hc.symm.trans hc'
  have e1 := (State.fieldFound?_spec hi).1
  have e2 := (State.fieldFound?_spec hi').1
  rw [Option.some.inj (e1.symm.trans e2)]
def own_t1 (pc : Nat) : Option (Instr × Nat) := bif Nat.ble pc 2 then (bif Nat.ble pc 0 then (bif Nat.beq pc 0 then some (.iload_n 0, 1) else none) else (bif Nat.ble pc 1 then (bif Nat.beq pc 1 then some (.iload_n 1, 1) else none) else (bif Nat.beq pc 2 then some (.if_icmp .gt 7, 3) else none))) else (bif Nat.ble pc 5 then (bif Nat.beq pc 5 then some (.iload_n 0, 1) else none) else (bif Nat.ble pc 6 then (bif Nat.beq pc 6 then some (.goto 4, 3) else none) else (bif Nat.beq pc 9 then some (.iload_n 1, 1) else none)))
theorem own_ok1 : ∀ pc q, own_fetch 11 own_t1 pc = some q → decode jdk_29_method_69_code pc = .ok q := own_tab (by decide +kernel)
theorem d1_2 : decode jdk_29_method_69_code 2 = .ok (.if_icmp .gt 7, 3) := by decide +kernel
theorem d1_10 : decode jdk_29_method_69_code 10 = .ok (.ireturn, 1) := by decide +kernel
def Q1 (Z : State) (y0 : Int32) (y1 : Int32) (h0 : Heap) (n0 : Nat) (v : Option Value) (h : Heap) (L : List Loc) : Prop := v = some (.int (own_min y0 y1)) ∧ Fr n0 L ∧ h = h0
set_option maxRecDepth 65536 in
set_option maxHeartbeats 40000000 in
theorem rm1 (l : Launch) (Z : State) (a0 : Array Value) (hw : HW a0 Z) (ws : List Jvm.Cond) (y0 : Int32) (y1 : Int32) (h0 : Heap) (n0 : Nat) (Z0 : n0 ≤ h0.size) :
    own_Met l mn0 jdk_29_method_69_code 2 (some .int) ws (oRm 0 0 0 0) #[(.int y0), (.int y1)] Z h0 (Q1 Z y0 y1 h0 n0) := by
  refine own_met (own := "java/lang/Math") rfl (Jvm.Free.JP.mathPlain rfl (by decide +kernel)) ?_
  intro p e s m below meth c s₁ hx hby hml hZ hown hnm X0 e0 Br Bs
  have N0 := Fr.nil n0
  have tt := own_tt hx hby own_ok1
  show own_Ends p e below s _ _ _ s₁ (mkF m 0 #[.val (.int y0), .val (.int y1)] [])
  refine own_go (T' := s₁) (f' := (mkF m 2 #[.val (.int y0), .val (.int y1)] [(.int y1), (.int y0)])) (fun _ k => own_e X0 tt 0 2 k rfl) ?_
  by_cases hc1 : y1 < y0
  · refine own_go (T' := s₁) (f' := (mkF m 10 #[.val (.int y0), .val (.int y1)] [(.int y1)])) (fun _ k => XS.icmpYes X0.here hx rfl (pc0 := 2) (pc' := 9) rfl (hb hby d1_2) rfl (tlt hc1).2.2.1 (by decide) (by decide) (own_e X0 tt 9 1 k rfl)) ?_
    refine own_ret X0 (v := some (.int y1)) (oN Br) Bs (fun fs hr => retI X0 hx Br (hb hby d1_10) hr) ?_ (by decide) (by decide)
    unfold Q1
    exact ⟨by rw [own_min, if_pos hc1], N0, e0⟩
  · refine own_go (T' := s₁) (f' := (mkF m 10 #[.val (.int y0), .val (.int y1)] [(.int y0)])) (fun _ k => XS.icmpNo X0.here hx rfl (hb hby d1_2) rfl (flt hc1).2.2.1 (own_e X0 tt 5 2 k rfl)) ?_
    refine own_ret X0 (v := some (.int y0)) (oN Br) Bs (fun fs hr => retI X0 hx Br (hb hby d1_10) hr) ?_ (by decide) (by decide)
    unfold Q1
    exact ⟨by rw [own_min, if_neg hc1], N0, e0⟩
def own_t2 (pc : Nat) : Option (Instr × Nat) := bif Nat.ble pc 2 then (bif Nat.ble pc 0 then (bif Nat.beq pc 0 then some (.iload_n 0, 1) else none) else (bif Nat.ble pc 1 then (bif Nat.beq pc 1 then some (.iload_n 1, 1) else none) else (bif Nat.beq pc 2 then some (.if_icmp .lt 7, 3) else none))) else (bif Nat.ble pc 5 then (bif Nat.beq pc 5 then some (.iload_n 0, 1) else none) else (bif Nat.ble pc 6 then (bif Nat.beq pc 6 then some (.goto 4, 3) else none) else (bif Nat.beq pc 9 then some (.iload_n 1, 1) else none)))
theorem own_ok2 : ∀ pc q, own_fetch 11 own_t2 pc = some q → decode jdk_29_method_65_code pc = .ok q := own_tab (by decide +kernel)
theorem d2_2 : decode jdk_29_method_65_code 2 = .ok (.if_icmp .lt 7, 3) := by decide +kernel
theorem d2_10 : decode jdk_29_method_65_code 10 = .ok (.ireturn, 1) := by decide +kernel
def Q2 (Z : State) (y0 : Int32) (y1 : Int32) (h0 : Heap) (n0 : Nat) (v : Option Value) (h : Heap) (L : List Loc) : Prop := v = some (.int (own_max y0 y1)) ∧ Fr n0 L ∧ h = h0
set_option maxRecDepth 65536 in
set_option maxHeartbeats 40000000 in
theorem rm2 (l : Launch) (Z : State) (a0 : Array Value) (hw : HW a0 Z) (ws : List Jvm.Cond) (y0 : Int32) (y1 : Int32) (h0 : Heap) (n0 : Nat) (Z0 : n0 ≤ h0.size) :
    own_Met l mn1 jdk_29_method_65_code 2 (some .int) ws (oRm 0 0 0 0) #[(.int y0), (.int y1)] Z h0 (Q2 Z y0 y1 h0 n0) := by
  refine own_met (own := "java/lang/Math") rfl (Jvm.Free.JP.mathPlain rfl (by decide +kernel)) ?_
  intro p e s m below meth c s₁ hx hby hml hZ hown hnm X0 e0 Br Bs
  have N0 := Fr.nil n0
  have tt := own_tt hx hby own_ok2
  show own_Ends p e below s _ _ _ s₁ (mkF m 0 #[.val (.int y0), .val (.int y1)] [])
  refine own_go (T' := s₁) (f' := (mkF m 2 #[.val (.int y0), .val (.int y1)] [(.int y1), (.int y0)])) (fun _ k => own_e X0 tt 0 2 k rfl) ?_
  by_cases hc1 : y0 < y1
  · refine own_go (T' := s₁) (f' := (mkF m 10 #[.val (.int y0), .val (.int y1)] [(.int y1)])) (fun _ k => XS.icmpYes X0.here hx rfl (pc0 := 2) (pc' := 9) rfl (hb hby d2_2) rfl (tlt hc1).1 (by decide) (by decide) (own_e X0 tt 9 1 k rfl)) ?_
    refine own_ret X0 (v := some (.int y1)) (oN Br) Bs (fun fs hr => retI X0 hx Br (hb hby d2_10) hr) ?_ (by decide) (by decide)
    unfold Q2
    exact ⟨by rw [own_max, if_pos hc1], N0, e0⟩
  · refine own_go (T' := s₁) (f' := (mkF m 10 #[.val (.int y0), .val (.int y1)] [(.int y0)])) (fun _ k => XS.icmpNo X0.here hx rfl (hb hby d2_2) rfl (flt hc1).1 (own_e X0 tt 5 2 k rfl)) ?_
    refine own_ret X0 (v := some (.int y0)) (oN Br) Bs (fun fs hr => retI X0 hx Br (hb hby d2_10) hr) ?_ (by decide) (by decide)
    unfold Q2
    exact ⟨by rw [own_max, if_neg hc1], N0, e0⟩
def own_t36 (pc : Nat) : Option (Instr × Nat) := bif Nat.ble pc 32 then (bif Nat.ble pc 14 then (bif Nat.ble pc 6 then (bif Nat.ble pc 1 then (bif Nat.ble pc 0 then (bif Nat.beq pc 0 then some (.iload_n 0, 1) else none) else (bif Nat.beq pc 1 then some (.bipush 10, 2) else none)) else (bif Nat.ble pc 3 then (bif Nat.beq pc 3 then some (.if_icmp .ge 5, 3) else none) else (bif Nat.beq pc 6 then some (.iconst 1, 1) else none))) else (bif Nat.ble pc 9 then (bif Nat.ble pc 8 then (bif Nat.beq pc 8 then some (.iload_n 0, 1) else none) else (bif Nat.beq pc 9 then some (.bipush 100, 2) else none)) else (bif Nat.ble pc 11 then (bif Nat.beq pc 11 then some (.if_icmp .ge 5, 3) else none) else (bif Nat.beq pc 14 then some (.iconst 2, 1) else none)))) else (bif Nat.ble pc 23 then (bif Nat.ble pc 17 then (bif Nat.ble pc 16 then (bif Nat.beq pc 16 then some (.iload_n 0, 1) else none) else (bif Nat.beq pc 17 then some (.sipush 1000, 3) else none)) else (bif Nat.ble pc 20 then (bif Nat.beq pc 20 then some (.if_icmp .ge 5, 3) else none) else (bif Nat.beq pc 23 then some (.iconst 3, 1) else none))) else (bif Nat.ble pc 26 then (bif Nat.ble pc 25 then (bif Nat.beq pc 25 then some (.iload_n 0, 1) else none) else (bif Nat.beq pc 26 then some (.sipush 10000, 3) else none)) else (bif Nat.ble pc 29 then (bif Nat.beq pc 29 then some (.if_icmp .ge 5, 3) else none) else (bif Nat.beq pc 32 then some (.iconst 4, 1) else none))))) else (bif Nat.ble pc 54 then (bif Nat.ble pc 42 then (bif Nat.ble pc 37 then (bif Nat.ble pc 34 then (bif Nat.beq pc 34 then some (.iload_n 0, 1) else none) else (bif Nat.beq pc 37 then some (.if_icmp .ge 5, 3) else none)) else (bif Nat.ble pc 40 then (bif Nat.beq pc 40 then some (.iconst 5, 1) else none) else (bif Nat.beq pc 42 then some (.iload_n 0, 1) else none))) else (bif Nat.ble pc 48 then (bif Nat.ble pc 45 then (bif Nat.beq pc 45 then some (.if_icmp .ge 6, 3) else none) else (bif Nat.beq pc 48 then some (.bipush 6, 2) else none)) else (bif Nat.ble pc 51 then (bif Nat.beq pc 51 then some (.iload_n 0, 1) else none) else (bif Nat.beq pc 54 then some (.if_icmp .ge 6, 3) else none)))) else (bif Nat.ble pc 66 then (bif Nat.ble pc 60 then (bif Nat.ble pc 57 then (bif Nat.beq pc 57 then some (.bipush 7, 2) else none) else (bif Nat.beq pc 60 then some (.iload_n 0, 1) else none)) else (bif Nat.ble pc 63 then (bif Nat.beq pc 63 then some (.if_icmp .ge 6, 3) else none) else (bif Nat.beq pc 66 then some (.bipush 8, 2) else none))) else (bif Nat.ble pc 72 then (bif Nat.ble pc 69 then (bif Nat.beq pc 69 then some (.iload_n 0, 1) else none) else (bif Nat.beq pc 72 then some (.if_icmp .ge 6, 3) else none)) else (bif Nat.ble pc 75 then (bif Nat.beq pc 75 then some (.bipush 9, 2) else none) else (bif Nat.beq pc 78 then some (.bipush 10, 2) else none)))))
theorem own_ok36 : ∀ pc q, own_fetch 81 own_t36 pc = some q → decode method_2_code pc = .ok q := own_tab (by decide +kernel)
theorem d36_3 : decode method_2_code 3 = .ok (.if_icmp .ge 5, 3) := by decide +kernel
theorem d36_7 : decode method_2_code 7 = .ok (.ireturn, 1) := by decide +kernel
theorem d36_11 : decode method_2_code 11 = .ok (.if_icmp .ge 5, 3) := by decide +kernel
theorem d36_15 : decode method_2_code 15 = .ok (.ireturn, 1) := by decide +kernel
theorem d36_20 : decode method_2_code 20 = .ok (.if_icmp .ge 5, 3) := by decide +kernel
theorem d36_24 : decode method_2_code 24 = .ok (.ireturn, 1) := by decide +kernel
theorem d36_29 : decode method_2_code 29 = .ok (.if_icmp .ge 5, 3) := by decide +kernel
theorem d36_33 : decode method_2_code 33 = .ok (.ireturn, 1) := by decide +kernel
theorem d36_35 : decode method_2_code 35 = .ok (.ldc 7, 2) := by decide +kernel
theorem d36_37 : decode method_2_code 37 = .ok (.if_icmp .ge 5, 3) := by decide +kernel
theorem d36_41 : decode method_2_code 41 = .ok (.ireturn, 1) := by decide +kernel
theorem d36_43 : decode method_2_code 43 = .ok (.ldc 8, 2) := by decide +kernel
theorem d36_45 : decode method_2_code 45 = .ok (.if_icmp .ge 6, 3) := by decide +kernel
theorem d36_50 : decode method_2_code 50 = .ok (.ireturn, 1) := by decide +kernel
theorem d36_52 : decode method_2_code 52 = .ok (.ldc 9, 2) := by decide +kernel
theorem d36_54 : decode method_2_code 54 = .ok (.if_icmp .ge 6, 3) := by decide +kernel
theorem d36_59 : decode method_2_code 59 = .ok (.ireturn, 1) := by decide +kernel
theorem d36_61 : decode method_2_code 61 = .ok (.ldc 10, 2) := by decide +kernel
theorem d36_63 : decode method_2_code 63 = .ok (.if_icmp .ge 6, 3) := by decide +kernel
theorem d36_68 : decode method_2_code 68 = .ok (.ireturn, 1) := by decide +kernel
theorem d36_70 : decode method_2_code 70 = .ok (.ldc 11, 2) := by decide +kernel
theorem d36_72 : decode method_2_code 72 = .ok (.if_icmp .ge 6, 3) := by decide +kernel
theorem d36_77 : decode method_2_code 77 = .ok (.ireturn, 1) := by decide +kernel
theorem d36_80 : decode method_2_code 80 = .ok (.ireturn, 1) := by decide +kernel
theorem pn_2 : plainName "com/example/tally_of_calls/tallyofcalls/CountsBetweenPinLaw" = true := by first | (simp [plainName, overriddenIn]; done) | decide +kernel
def Q36 (Z : State) (y0 : Int32) (h0 : Heap) (n0 : Nat) (v : Option Value) (h : Heap) (L : List Loc) : Prop := v = some (.int (own_dg y0)) ∧ Fr n0 L ∧ h = h0
set_option maxRecDepth 65536 in
set_option maxHeartbeats 40000000 in
theorem rm36 (l : Launch) (Z : State) (a0 : Array Value) (hw : HW a0 Z) (ws : List Jvm.Cond) (y0 : Int32) (h0 : Heap) (n0 : Nat) (Z0 : n0 ≤ h0.size) :
    own_Met l mn2 method_2_code 1 (some .int) ws (oRm 0 0 0 0) #[(.int y0)] Z h0 (Q36 Z y0 h0 n0) := by
  refine own_met (own := "com/example/tally_of_calls/tallyofcalls/CountsBetweenPinLaw") rfl (plainFor_of_name pn_2) ?_
  intro p e s m below meth c s₁ hx hby hml hZ hown hnm X0 e0 Br Bs
  have N0 := Fr.nil n0
  have tt := own_tt hx hby own_ok36
  show own_Ends p e below s _ _ _ s₁ (mkF m 0 #[.val (.int y0)] [])
  refine own_go (T' := s₁) (f' := (mkF m 3 #[.val (.int y0)] [vI 10, (.int y0)])) (fun _ k => own_e X0 tt 0 2 k rfl) ?_
  by_cases hc1 : y0 < (10 : Int32)
  · refine own_go (T' := s₁) (f' := (mkF m 7 #[.val (.int y0)] [vI 1])) (fun _ k => XS.icmpNo X0.here hx rfl (hb hby d36_3) rfl (tlt hc1).2.1 (own_e X0 tt 6 1 k rfl)) ?_
    refine own_ret X0 (v := some (.int (1 : Int32))) (oN Br) Bs (fun fs hr => retI X0 hx Br (hb hby d36_7) hr) ?_ (by decide) (by decide)
    unfold Q36
    exact ⟨by rw [own_dg, if_pos hc1], N0, e0⟩
  · refine own_go (T' := s₁) (f' := (mkF m 11 #[.val (.int y0)] [vI 100, (.int y0)])) (fun _ k => XS.icmpYes X0.here hx rfl (pc0 := 3) (pc' := 8) rfl (hb hby d36_3) rfl (flt hc1).2.1 (by decide) (by decide) (own_e X0 tt 8 2 k rfl)) ?_
    by_cases hc2 : y0 < (100 : Int32)
    · refine own_go (T' := s₁) (f' := (mkF m 15 #[.val (.int y0)] [vI 2])) (fun _ k => XS.icmpNo X0.here hx rfl (hb hby d36_11) rfl (tlt hc2).2.1 (own_e X0 tt 14 1 k rfl)) ?_
      refine own_ret X0 (v := some (.int (2 : Int32))) (oN Br) Bs (fun fs hr => retI X0 hx Br (hb hby d36_15) hr) ?_ (by decide) (by decide)
      unfold Q36
      exact ⟨by rw [own_dg, if_neg hc1, if_pos hc2], N0, e0⟩
    · refine own_go (T' := s₁) (f' := (mkF m 20 #[.val (.int y0)] [vI 1000, (.int y0)])) (fun _ k => XS.icmpYes X0.here hx rfl (pc0 := 11) (pc' := 16) rfl (hb hby d36_11) rfl (flt hc2).2.1 (by decide) (by decide) (own_e X0 tt 16 2 k rfl)) ?_
      by_cases hc3 : y0 < (1000 : Int32)
      · refine own_go (T' := s₁) (f' := (mkF m 24 #[.val (.int y0)] [vI 3])) (fun _ k => XS.icmpNo X0.here hx rfl (hb hby d36_20) rfl (tlt hc3).2.1 (own_e X0 tt 23 1 k rfl)) ?_
        refine own_ret X0 (v := some (.int (3 : Int32))) (oN Br) Bs (fun fs hr => retI X0 hx Br (hb hby d36_24) hr) ?_ (by decide) (by decide)
        unfold Q36
        exact ⟨by rw [own_dg, if_neg hc1, if_neg hc2, if_pos hc3], N0, e0⟩
      · refine own_go (T' := s₁) (f' := (mkF m 29 #[.val (.int y0)] [vI 10000, (.int y0)])) (fun _ k => XS.icmpYes X0.here hx rfl (pc0 := 20) (pc' := 25) rfl (hb hby d36_20) rfl (flt hc3).2.1 (by decide) (by decide) (own_e X0 tt 25 2 k rfl)) ?_
        by_cases hc4 : y0 < (10000 : Int32)
        · refine own_go (T' := s₁) (f' := (mkF m 33 #[.val (.int y0)] [vI 4])) (fun _ k => XS.icmpNo X0.here hx rfl (hb hby d36_29) rfl (tlt hc4).2.1 (own_e X0 tt 32 1 k rfl)) ?_
          refine own_ret X0 (v := some (.int (4 : Int32))) (oN Br) Bs (fun fs hr => retI X0 hx Br (hb hby d36_33) hr) ?_ (by decide) (by decide)
          unfold Q36
          exact ⟨by rw [own_dg, if_neg hc1, if_neg hc2, if_neg hc3, if_pos hc4], N0, e0⟩
        · refine own_go (T' := s₁) (f' := (mkF m 35 #[.val (.int y0)] [(.int y0)])) (fun _ k => XS.icmpYes X0.here hx rfl (pc0 := 29) (pc' := 34) rfl (hb hby d36_29) rfl (flt hc4).2.1 (by decide) (by decide) (own_e X0 tt 34 1 k rfl)) ?_
          refine own_go (T' := s₁) (f' := (mkF m 37 #[.val (.int y0)] [vI 100000, (.int y0)])) (fun _ k => X0.ldcInt hx hown (mvT hZ (ow239 hw)) (g := (mkF m 35 #[.val (.int y0)] [(.int y0)])) rfl (hb hby d36_35) _ k) ?_
          by_cases hc5 : y0 < (100000 : Int32)
          · refine own_go (T' := s₁) (f' := (mkF m 41 #[.val (.int y0)] [vI 5])) (fun _ k => XS.icmpNo X0.here hx rfl (hb hby d36_37) rfl (tlt hc5).2.1 (own_e X0 tt 40 1 k rfl)) ?_
            refine own_ret X0 (v := some (.int (5 : Int32))) (oN Br) Bs (fun fs hr => retI X0 hx Br (hb hby d36_41) hr) ?_ (by decide) (by decide)
            unfold Q36
            exact ⟨by rw [own_dg, if_neg hc1, if_neg hc2, if_neg hc3, if_neg hc4, if_pos hc5], N0, e0⟩
          · refine own_go (T' := s₁) (f' := (mkF m 43 #[.val (.int y0)] [(.int y0)])) (fun _ k => XS.icmpYes X0.here hx rfl (pc0 := 37) (pc' := 42) rfl (hb hby d36_37) rfl (flt hc5).2.1 (by decide) (by decide) (own_e X0 tt 42 1 k rfl)) ?_
            refine own_go (T' := s₁) (f' := (mkF m 45 #[.val (.int y0)] [vI 1000000, (.int y0)])) (fun _ k => X0.ldcInt hx hown (mvT hZ (ow240 hw)) (g := (mkF m 43 #[.val (.int y0)] [(.int y0)])) rfl (hb hby d36_43) _ k) ?_
            by_cases hc6 : y0 < (1000000 : Int32)
            · refine own_go (T' := s₁) (f' := (mkF m 50 #[.val (.int y0)] [vI 6])) (fun _ k => XS.icmpNo X0.here hx rfl (hb hby d36_45) rfl (tlt hc6).2.1 (own_e X0 tt 48 1 k rfl)) ?_
              refine own_ret X0 (v := some (.int (6 : Int32))) (oN Br) Bs (fun fs hr => retI X0 hx Br (hb hby d36_50) hr) ?_ (by decide) (by decide)
              unfold Q36
              exact ⟨by rw [own_dg, if_neg hc1, if_neg hc2, if_neg hc3, if_neg hc4, if_neg hc5, if_pos hc6], N0, e0⟩
            · refine own_go (T' := s₁) (f' := (mkF m 52 #[.val (.int y0)] [(.int y0)])) (fun _ k => XS.icmpYes X0.here hx rfl (pc0 := 45) (pc' := 51) rfl (hb hby d36_45) rfl (flt hc6).2.1 (by decide) (by decide) (own_e X0 tt 51 1 k rfl)) ?_
              refine own_go (T' := s₁) (f' := (mkF m 54 #[.val (.int y0)] [vI 10000000, (.int y0)])) (fun _ k => X0.ldcInt hx hown (mvT hZ (ow241 hw)) (g := (mkF m 52 #[.val (.int y0)] [(.int y0)])) rfl (hb hby d36_52) _ k) ?_
              by_cases hc7 : y0 < (10000000 : Int32)
              · refine own_go (T' := s₁) (f' := (mkF m 59 #[.val (.int y0)] [vI 7])) (fun _ k => XS.icmpNo X0.here hx rfl (hb hby d36_54) rfl (tlt hc7).2.1 (own_e X0 tt 57 1 k rfl)) ?_
                refine own_ret X0 (v := some (.int (7 : Int32))) (oN Br) Bs (fun fs hr => retI X0 hx Br (hb hby d36_59) hr) ?_ (by decide) (by decide)
                unfold Q36
                exact ⟨by rw [own_dg, if_neg hc1, if_neg hc2, if_neg hc3, if_neg hc4, if_neg hc5, if_neg hc6, if_pos hc7], N0, e0⟩
              · refine own_go (T' := s₁) (f' := (mkF m 61 #[.val (.int y0)] [(.int y0)])) (fun _ k => XS.icmpYes X0.here hx rfl (pc0 := 54) (pc' := 60) rfl (hb hby d36_54) rfl (flt hc7).2.1 (by decide) (by decide) (own_e X0 tt 60 1 k rfl)) ?_
                refine own_go (T' := s₁) (f' := (mkF m 63 #[.val (.int y0)] [vI 100000000, (.int y0)])) (fun _ k => X0.ldcInt hx hown (mvT hZ (ow242 hw)) (g := (mkF m 61 #[.val (.int y0)] [(.int y0)])) rfl (hb hby d36_61) _ k) ?_
                by_cases hc8 : y0 < (100000000 : Int32)
                · refine own_go (T' := s₁) (f' := (mkF m 68 #[.val (.int y0)] [vI 8])) (fun _ k => XS.icmpNo X0.here hx rfl (hb hby d36_63) rfl (tlt hc8).2.1 (own_e X0 tt 66 1 k rfl)) ?_
                  refine own_ret X0 (v := some (.int (8 : Int32))) (oN Br) Bs (fun fs hr => retI X0 hx Br (hb hby d36_68) hr) ?_ (by decide) (by decide)
                  unfold Q36
                  exact ⟨by rw [own_dg, if_neg hc1, if_neg hc2, if_neg hc3, if_neg hc4, if_neg hc5, if_neg hc6, if_neg hc7, if_pos hc8], N0, e0⟩
                · refine own_go (T' := s₁) (f' := (mkF m 70 #[.val (.int y0)] [(.int y0)])) (fun _ k => XS.icmpYes X0.here hx rfl (pc0 := 63) (pc' := 69) rfl (hb hby d36_63) rfl (flt hc8).2.1 (by decide) (by decide) (own_e X0 tt 69 1 k rfl)) ?_
                  refine own_go (T' := s₁) (f' := (mkF m 72 #[.val (.int y0)] [vI 1000000000, (.int y0)])) (fun _ k => X0.ldcInt hx hown (mvT hZ (ow243 hw)) (g := (mkF m 70 #[.val (.int y0)] [(.int y0)])) rfl (hb hby d36_70) _ k) ?_
                  by_cases hc9 : y0 < (1000000000 : Int32)
                  · refine own_go (T' := s₁) (f' := (mkF m 77 #[.val (.int y0)] [vI 9])) (fun _ k => XS.icmpNo X0.here hx rfl (hb hby d36_72) rfl (tlt hc9).2.1 (own_e X0 tt 75 1 k rfl)) ?_
                    refine own_ret X0 (v := some (.int (9 : Int32))) (oN Br) Bs (fun fs hr => retI X0 hx Br (hb hby d36_77) hr) ?_ (by decide) (by decide)
                    unfold Q36
                    exact ⟨by rw [own_dg, if_neg hc1, if_neg hc2, if_neg hc3, if_neg hc4, if_neg hc5, if_neg hc6, if_neg hc7, if_neg hc8, if_pos hc9], N0, e0⟩
                  · refine own_go (T' := s₁) (f' := (mkF m 80 #[.val (.int y0)] [vI 10])) (fun _ k => XS.icmpYes X0.here hx rfl (pc0 := 72) (pc' := 78) rfl (hb hby d36_72) rfl (flt hc9).2.1 (by decide) (by decide) (own_e X0 tt 78 1 k rfl)) ?_
                    refine own_ret X0 (v := some (.int (10 : Int32))) (oN Br) Bs (fun fs hr => retI X0 hx Br (hb hby d36_80) hr) ?_ (by decide) (by decide)
                    unfold Q36
                    exact ⟨by rw [own_dg, if_neg hc1, if_neg hc2, if_neg hc3, if_neg hc4, if_neg hc5, if_neg hc6, if_neg hc7, if_neg hc8, if_neg hc9], N0, e0⟩
def own_t20 (pc : Nat) : Option (Instr × Nat) := bif Nat.ble pc 17 then (bif Nat.ble pc 8 then (bif Nat.ble pc 2 then (bif Nat.ble pc 0 then (bif Nat.beq pc 0 then some (.iconst 1, 1) else none) else (bif Nat.ble pc 1 then (bif Nat.beq pc 1 then some (.istore_n 1, 1) else none) else (bif Nat.beq pc 2 then some (.iload_n 0, 1) else none))) else (bif Nat.ble pc 6 then (bif Nat.ble pc 3 then (bif Nat.beq pc 3 then some (.ifCond .lt 8, 3) else none) else (bif Nat.beq pc 6 then some (.iconst 0, 1) else none)) else (bif Nat.ble pc 7 then (bif Nat.beq pc 7 then some (.istore_n 1, 1) else none) else (bif Nat.beq pc 8 then some (.iload_n 0, 1) else none)))) else (bif Nat.ble pc 13 then (bif Nat.ble pc 10 then (bif Nat.ble pc 9 then (bif Nat.beq pc 9 then some (.ineg, 1) else none) else (bif Nat.beq pc 10 then some (.istore_n 0, 1) else none)) else (bif Nat.ble pc 11 then (bif Nat.beq pc 11 then some (.bipush (-10), 2) else none) else (bif Nat.beq pc 13 then some (.istore_n 2, 1) else none))) else (bif Nat.ble pc 15 then (bif Nat.ble pc 14 then (bif Nat.beq pc 14 then some (.iconst 1, 1) else none) else (bif Nat.beq pc 15 then some (.istore_n 3, 1) else none)) else (bif Nat.ble pc 16 then (bif Nat.beq pc 16 then some (.iload_n 3, 1) else none) else (bif Nat.beq pc 17 then some (.bipush 10, 2) else none))))) else (bif Nat.ble pc 31 then (bif Nat.ble pc 24 then (bif Nat.ble pc 22 then (bif Nat.ble pc 19 then (bif Nat.beq pc 19 then some (.if_icmp .ge 23, 3) else none) else (bif Nat.beq pc 22 then some (.iload_n 0, 1) else none)) else (bif Nat.ble pc 23 then (bif Nat.beq pc 23 then some (.iload_n 2, 1) else none) else (bif Nat.beq pc 24 then some (.if_icmp .le 7, 3) else none))) else (bif Nat.ble pc 28 then (bif Nat.ble pc 27 then (bif Nat.beq pc 27 then some (.iload_n 3, 1) else none) else (bif Nat.beq pc 28 then some (.iload_n 1, 1) else none)) else (bif Nat.ble pc 29 then (bif Nat.beq pc 29 then some (.iadd, 1) else none) else (bif Nat.beq pc 31 then some (.bipush 10, 2) else none)))) else (bif Nat.ble pc 36 then (bif Nat.ble pc 34 then (bif Nat.ble pc 33 then (bif Nat.beq pc 33 then some (.iload_n 2, 1) else none) else (bif Nat.beq pc 34 then some (.imul, 1) else none)) else (bif Nat.ble pc 35 then (bif Nat.beq pc 35 then some (.istore_n 2, 1) else none) else (bif Nat.beq pc 36 then some (.iinc 3 1, 3) else none))) else (bif Nat.ble pc 42 then (bif Nat.ble pc 39 then (bif Nat.beq pc 39 then some (.goto (-23), 3) else none) else (bif Nat.beq pc 42 then some (.bipush 10, 2) else none)) else (bif Nat.ble pc 44 then (bif Nat.beq pc 44 then some (.iload_n 1, 1) else none) else (bif Nat.beq pc 45 then some (.iadd, 1) else none)))))
theorem own_ok20 : ∀ pc q, own_fetch 47 own_t20 pc = some q → decode jdk_33_method_13_code pc = .ok q := own_tab (by decide +kernel)
theorem d20_3 : decode jdk_33_method_13_code 3 = .ok (.ifCond .lt 8, 3) := by decide +kernel
theorem d20_24 : decode jdk_33_method_13_code 24 = .ok (.if_icmp .le 7, 3) := by decide +kernel
theorem d20_30 : decode jdk_33_method_13_code 30 = .ok (.ireturn, 1) := by decide +kernel
theorem d20_46 : decode jdk_33_method_13_code 46 = .ok (.ireturn, 1) := by decide +kernel
theorem pn_4 : plainName "java/lang/Integer" = true := by first | (simp [plainName, overriddenIn]; done) | decide +kernel
def Q20 (Z : State) (y0 : Int32) (h0 : Heap) (n0 : Nat) (v : Option Value) (h : Heap) (L : List Loc) : Prop := v = some (.int (own_dg y0)) ∧ Fr n0 L ∧ h = h0
set_option maxRecDepth 65536 in
set_option maxHeartbeats 40000000 in
theorem rm20 (l : Launch) (Z : State) (a0 : Array Value) (hw : HW a0 Z) (ws : List Jvm.Cond) (y0 : Int32) (h0 : Heap) (n0 : Nat) (Z0 : n0 ≤ h0.size) (hy : ¬ y0 < (0 : Int32)) :
    own_Met l mn3 jdk_33_method_13_code 4 (some .int) ws (oRm 0 0 0 0) #[(.int y0)] Z h0 (Q20 Z y0 h0 n0) := by
  refine own_met (own := "java/lang/Integer") rfl (plainFor_of_name pn_4) ?_
  intro p e s m below meth c s₁ hx hby hml hZ hown hnm X0 e0 Br Bs
  have N0 := Fr.nil n0
  have tt := own_tt hx hby own_ok20
  show own_Ends p e below s _ _ _ s₁ (mkF m 0 #[.val (.int y0), oU, oU, oU] [])
  refine own_go (T' := s₁) (f' := (mkF m 3 #[.val (.int y0), oI 1, oU, oU] [(.int y0)])) (fun _ k => own_e X0 tt 0 3 k rfl) ?_
  refine own_go (T' := s₁) (f' := (mkF m 24 #[.val (.int (-y0)), oI 0, oI (-10), oI 1] [vI (-10), (.int (-y0))])) (fun _ k => XS.ifNo X0.here hx rfl (hb hby d20_3) rfl ((if0 _ _).trans (flt hy).1) (own_e X0 tt 6 14 k rfl)) ?_
  by_cases hc1 : (-10 : Int32) < (-y0)
  · refine own_go (T' := s₁) (f' := (mkF m 30 #[.val (.int (-y0)), oI 0, oI (-10), oI 1] [vI 1])) (fun _ k => XS.icmpNo X0.here hx rfl (hb hby d20_24) rfl (tlt hc1).2.2.2 (own_e X0 tt 27 3 k rfl)) ?_
    refine own_ret X0 (v := some (.int (1 : Int32))) (oN Br) Bs (fun fs hr => retI X0 hx Br (hb hby d20_30) hr) ?_ (by decide) (by decide)
    unfold Q20
    exact ⟨by rw [own_dg, if_pos ((own_ngc hy (k := 10) (m := -10) (by decide) (by decide) (by decide)).mp hc1)], N0, e0⟩
  · refine own_go (T' := s₁) (f' := (mkF m 24 #[.val (.int (-y0)), oI 0, oI (-100), oI 2] [vI (-100), (.int (-y0))])) (fun _ k => XS.icmpYes X0.here hx rfl (pc0 := 24) (pc' := 31) rfl (hb hby d20_24) rfl (flt hc1).2.2.2 (by decide) (by decide) (own_e X0 tt 31 11 k rfl)) ?_
    by_cases hc2 : (-100 : Int32) < (-y0)
    · refine own_go (T' := s₁) (f' := (mkF m 30 #[.val (.int (-y0)), oI 0, oI (-100), oI 2] [vI 2])) (fun _ k => XS.icmpNo X0.here hx rfl (hb hby d20_24) rfl (tlt hc2).2.2.2 (own_e X0 tt 27 3 k rfl)) ?_
      refine own_ret X0 (v := some (.int (2 : Int32))) (oN Br) Bs (fun fs hr => retI X0 hx Br (hb hby d20_30) hr) ?_ (by decide) (by decide)
      unfold Q20
      exact ⟨by rw [own_dg, if_neg (fun q => hc1 ((own_ngc hy (k := 10) (m := -10) (by decide) (by decide) (by decide)).mpr q)), if_pos ((own_ngc hy (k := 100) (m := -100) (by decide) (by decide) (by decide)).mp hc2)], N0, e0⟩
    · refine own_go (T' := s₁) (f' := (mkF m 24 #[.val (.int (-y0)), oI 0, oI (-1000), oI 3] [vI (-1000), (.int (-y0))])) (fun _ k => XS.icmpYes X0.here hx rfl (pc0 := 24) (pc' := 31) rfl (hb hby d20_24) rfl (flt hc2).2.2.2 (by decide) (by decide) (own_e X0 tt 31 11 k rfl)) ?_
      by_cases hc3 : (-1000 : Int32) < (-y0)
      · refine own_go (T' := s₁) (f' := (mkF m 30 #[.val (.int (-y0)), oI 0, oI (-1000), oI 3] [vI 3])) (fun _ k => XS.icmpNo X0.here hx rfl (hb hby d20_24) rfl (tlt hc3).2.2.2 (own_e X0 tt 27 3 k rfl)) ?_
        refine own_ret X0 (v := some (.int (3 : Int32))) (oN Br) Bs (fun fs hr => retI X0 hx Br (hb hby d20_30) hr) ?_ (by decide) (by decide)
        unfold Q20
        exact ⟨by rw [own_dg, if_neg (fun q => hc1 ((own_ngc hy (k := 10) (m := -10) (by decide) (by decide) (by decide)).mpr q)), if_neg (fun q => hc2 ((own_ngc hy (k := 100) (m := -100) (by decide) (by decide) (by decide)).mpr q)), if_pos ((own_ngc hy (k := 1000) (m := -1000) (by decide) (by decide) (by decide)).mp hc3)], N0, e0⟩
      · refine own_go (T' := s₁) (f' := (mkF m 24 #[.val (.int (-y0)), oI 0, oI (-10000), oI 4] [vI (-10000), (.int (-y0))])) (fun _ k => XS.icmpYes X0.here hx rfl (pc0 := 24) (pc' := 31) rfl (hb hby d20_24) rfl (flt hc3).2.2.2 (by decide) (by decide) (own_e X0 tt 31 11 k rfl)) ?_
        by_cases hc4 : (-10000 : Int32) < (-y0)
        · refine own_go (T' := s₁) (f' := (mkF m 30 #[.val (.int (-y0)), oI 0, oI (-10000), oI 4] [vI 4])) (fun _ k => XS.icmpNo X0.here hx rfl (hb hby d20_24) rfl (tlt hc4).2.2.2 (own_e X0 tt 27 3 k rfl)) ?_
          refine own_ret X0 (v := some (.int (4 : Int32))) (oN Br) Bs (fun fs hr => retI X0 hx Br (hb hby d20_30) hr) ?_ (by decide) (by decide)
          unfold Q20
          exact ⟨by rw [own_dg, if_neg (fun q => hc1 ((own_ngc hy (k := 10) (m := -10) (by decide) (by decide) (by decide)).mpr q)), if_neg (fun q => hc2 ((own_ngc hy (k := 100) (m := -100) (by decide) (by decide) (by decide)).mpr q)), if_neg (fun q => hc3 ((own_ngc hy (k := 1000) (m := -1000) (by decide) (by decide) (by decide)).mpr q)), if_pos ((own_ngc hy (k := 10000) (m := -10000) (by decide) (by decide) (by decide)).mp hc4)], N0, e0⟩
        · refine own_go (T' := s₁) (f' := (mkF m 24 #[.val (.int (-y0)), oI 0, oI (-100000), oI 5] [vI (-100000), (.int (-y0))])) (fun _ k => XS.icmpYes X0.here hx rfl (pc0 := 24) (pc' := 31) rfl (hb hby d20_24) rfl (flt hc4).2.2.2 (by decide) (by decide) (own_e X0 tt 31 11 k rfl)) ?_
          by_cases hc5 : (-100000 : Int32) < (-y0)
          · refine own_go (T' := s₁) (f' := (mkF m 30 #[.val (.int (-y0)), oI 0, oI (-100000), oI 5] [vI 5])) (fun _ k => XS.icmpNo X0.here hx rfl (hb hby d20_24) rfl (tlt hc5).2.2.2 (own_e X0 tt 27 3 k rfl)) ?_
            refine own_ret X0 (v := some (.int (5 : Int32))) (oN Br) Bs (fun fs hr => retI X0 hx Br (hb hby d20_30) hr) ?_ (by decide) (by decide)
            unfold Q20
            exact ⟨by rw [own_dg, if_neg (fun q => hc1 ((own_ngc hy (k := 10) (m := -10) (by decide) (by decide) (by decide)).mpr q)), if_neg (fun q => hc2 ((own_ngc hy (k := 100) (m := -100) (by decide) (by decide) (by decide)).mpr q)), if_neg (fun q => hc3 ((own_ngc hy (k := 1000) (m := -1000) (by decide) (by decide) (by decide)).mpr q)), if_neg (fun q => hc4 ((own_ngc hy (k := 10000) (m := -10000) (by decide) (by decide) (by decide)).mpr q)), if_pos ((own_ngc hy (k := 100000) (m := -100000) (by decide) (by decide) (by decide)).mp hc5)], N0, e0⟩
          · refine own_go (T' := s₁) (f' := (mkF m 24 #[.val (.int (-y0)), oI 0, oI (-1000000), oI 6] [vI (-1000000), (.int (-y0))])) (fun _ k => XS.icmpYes X0.here hx rfl (pc0 := 24) (pc' := 31) rfl (hb hby d20_24) rfl (flt hc5).2.2.2 (by decide) (by decide) (own_e X0 tt 31 11 k rfl)) ?_
            by_cases hc6 : (-1000000 : Int32) < (-y0)
            · refine own_go (T' := s₁) (f' := (mkF m 30 #[.val (.int (-y0)), oI 0, oI (-1000000), oI 6] [vI 6])) (fun _ k => XS.icmpNo X0.here hx rfl (hb hby d20_24) rfl (tlt hc6).2.2.2 (own_e X0 tt 27 3 k rfl)) ?_
              refine own_ret X0 (v := some (.int (6 : Int32))) (oN Br) Bs (fun fs hr => retI X0 hx Br (hb hby d20_30) hr) ?_ (by decide) (by decide)
              unfold Q20
              exact ⟨by rw [own_dg, if_neg (fun q => hc1 ((own_ngc hy (k := 10) (m := -10) (by decide) (by decide) (by decide)).mpr q)), if_neg (fun q => hc2 ((own_ngc hy (k := 100) (m := -100) (by decide) (by decide) (by decide)).mpr q)), if_neg (fun q => hc3 ((own_ngc hy (k := 1000) (m := -1000) (by decide) (by decide) (by decide)).mpr q)), if_neg (fun q => hc4 ((own_ngc hy (k := 10000) (m := -10000) (by decide) (by decide) (by decide)).mpr q)), if_neg (fun q => hc5 ((own_ngc hy (k := 100000) (m := -100000) (by decide) (by decide) (by decide)).mpr q)), if_pos ((own_ngc hy (k := 1000000) (m := -1000000) (by decide) (by decide) (by decide)).mp hc6)], N0, e0⟩
            · refine own_go (T' := s₁) (f' := (mkF m 24 #[.val (.int (-y0)), oI 0, oI (-10000000), oI 7] [vI (-10000000), (.int (-y0))])) (fun _ k => XS.icmpYes X0.here hx rfl (pc0 := 24) (pc' := 31) rfl (hb hby d20_24) rfl (flt hc6).2.2.2 (by decide) (by decide) (own_e X0 tt 31 11 k rfl)) ?_
              by_cases hc7 : (-10000000 : Int32) < (-y0)
              · refine own_go (T' := s₁) (f' := (mkF m 30 #[.val (.int (-y0)), oI 0, oI (-10000000), oI 7] [vI 7])) (fun _ k => XS.icmpNo X0.here hx rfl (hb hby d20_24) rfl (tlt hc7).2.2.2 (own_e X0 tt 27 3 k rfl)) ?_
                refine own_ret X0 (v := some (.int (7 : Int32))) (oN Br) Bs (fun fs hr => retI X0 hx Br (hb hby d20_30) hr) ?_ (by decide) (by decide)
                unfold Q20
                exact ⟨by rw [own_dg, if_neg (fun q => hc1 ((own_ngc hy (k := 10) (m := -10) (by decide) (by decide) (by decide)).mpr q)), if_neg (fun q => hc2 ((own_ngc hy (k := 100) (m := -100) (by decide) (by decide) (by decide)).mpr q)), if_neg (fun q => hc3 ((own_ngc hy (k := 1000) (m := -1000) (by decide) (by decide) (by decide)).mpr q)), if_neg (fun q => hc4 ((own_ngc hy (k := 10000) (m := -10000) (by decide) (by decide) (by decide)).mpr q)), if_neg (fun q => hc5 ((own_ngc hy (k := 100000) (m := -100000) (by decide) (by decide) (by decide)).mpr q)), if_neg (fun q => hc6 ((own_ngc hy (k := 1000000) (m := -1000000) (by decide) (by decide) (by decide)).mpr q)), if_pos ((own_ngc hy (k := 10000000) (m := -10000000) (by decide) (by decide) (by decide)).mp hc7)], N0, e0⟩
              · refine own_go (T' := s₁) (f' := (mkF m 24 #[.val (.int (-y0)), oI 0, oI (-100000000), oI 8] [vI (-100000000), (.int (-y0))])) (fun _ k => XS.icmpYes X0.here hx rfl (pc0 := 24) (pc' := 31) rfl (hb hby d20_24) rfl (flt hc7).2.2.2 (by decide) (by decide) (own_e X0 tt 31 11 k rfl)) ?_
                by_cases hc8 : (-100000000 : Int32) < (-y0)
                · refine own_go (T' := s₁) (f' := (mkF m 30 #[.val (.int (-y0)), oI 0, oI (-100000000), oI 8] [vI 8])) (fun _ k => XS.icmpNo X0.here hx rfl (hb hby d20_24) rfl (tlt hc8).2.2.2 (own_e X0 tt 27 3 k rfl)) ?_
                  refine own_ret X0 (v := some (.int (8 : Int32))) (oN Br) Bs (fun fs hr => retI X0 hx Br (hb hby d20_30) hr) ?_ (by decide) (by decide)
                  unfold Q20
                  exact ⟨by rw [own_dg, if_neg (fun q => hc1 ((own_ngc hy (k := 10) (m := -10) (by decide) (by decide) (by decide)).mpr q)), if_neg (fun q => hc2 ((own_ngc hy (k := 100) (m := -100) (by decide) (by decide) (by decide)).mpr q)), if_neg (fun q => hc3 ((own_ngc hy (k := 1000) (m := -1000) (by decide) (by decide) (by decide)).mpr q)), if_neg (fun q => hc4 ((own_ngc hy (k := 10000) (m := -10000) (by decide) (by decide) (by decide)).mpr q)), if_neg (fun q => hc5 ((own_ngc hy (k := 100000) (m := -100000) (by decide) (by decide) (by decide)).mpr q)), if_neg (fun q => hc6 ((own_ngc hy (k := 1000000) (m := -1000000) (by decide) (by decide) (by decide)).mpr q)), if_neg (fun q => hc7 ((own_ngc hy (k := 10000000) (m := -10000000) (by decide) (by decide) (by decide)).mpr q)), if_pos ((own_ngc hy (k := 100000000) (m := -100000000) (by decide) (by decide) (by decide)).mp hc8)], N0, e0⟩
                · refine own_go (T' := s₁) (f' := (mkF m 24 #[.val (.int (-y0)), oI 0, oI (-1000000000), oI 9] [vI (-1000000000), (.int (-y0))])) (fun _ k => XS.icmpYes X0.here hx rfl (pc0 := 24) (pc' := 31) rfl (hb hby d20_24) rfl (flt hc8).2.2.2 (by decide) (by decide) (own_e X0 tt 31 11 k rfl)) ?_
                  by_cases hc9 : (-1000000000 : Int32) < (-y0)
                  · refine own_go (T' := s₁) (f' := (mkF m 30 #[.val (.int (-y0)), oI 0, oI (-1000000000), oI 9] [vI 9])) (fun _ k => XS.icmpNo X0.here hx rfl (hb hby d20_24) rfl (tlt hc9).2.2.2 (own_e X0 tt 27 3 k rfl)) ?_
                    refine own_ret X0 (v := some (.int (9 : Int32))) (oN Br) Bs (fun fs hr => retI X0 hx Br (hb hby d20_30) hr) ?_ (by decide) (by decide)
                    unfold Q20
                    exact ⟨by rw [own_dg, if_neg (fun q => hc1 ((own_ngc hy (k := 10) (m := -10) (by decide) (by decide) (by decide)).mpr q)), if_neg (fun q => hc2 ((own_ngc hy (k := 100) (m := -100) (by decide) (by decide) (by decide)).mpr q)), if_neg (fun q => hc3 ((own_ngc hy (k := 1000) (m := -1000) (by decide) (by decide) (by decide)).mpr q)), if_neg (fun q => hc4 ((own_ngc hy (k := 10000) (m := -10000) (by decide) (by decide) (by decide)).mpr q)), if_neg (fun q => hc5 ((own_ngc hy (k := 100000) (m := -100000) (by decide) (by decide) (by decide)).mpr q)), if_neg (fun q => hc6 ((own_ngc hy (k := 1000000) (m := -1000000) (by decide) (by decide) (by decide)).mpr q)), if_neg (fun q => hc7 ((own_ngc hy (k := 10000000) (m := -10000000) (by decide) (by decide) (by decide)).mpr q)), if_neg (fun q => hc8 ((own_ngc hy (k := 100000000) (m := -100000000) (by decide) (by decide) (by decide)).mpr q)), if_pos ((own_ngc hy (k := 1000000000) (m := -1000000000) (by decide) (by decide) (by decide)).mp hc9)], N0, e0⟩
                  · refine own_go (T' := s₁) (f' := (mkF m 46 #[.val (.int (-y0)), oI 0, oI (-1410065408), oI 10] [vI 10])) (fun _ k => XS.icmpYes X0.here hx rfl (pc0 := 24) (pc' := 31) rfl (hb hby d20_24) rfl (flt hc9).2.2.2 (by decide) (by decide) (own_e X0 tt 31 12 k rfl)) ?_
                    refine own_ret X0 (v := some (.int (10 : Int32))) (oN Br) Bs (fun fs hr => retI X0 hx Br (hb hby d20_46) hr) ?_ (by decide) (by decide)
                    unfold Q20
                    exact ⟨by rw [own_dg, if_neg (fun q => hc1 ((own_ngc hy (k := 10) (m := -10) (by decide) (by decide) (by decide)).mpr q)), if_neg (fun q => hc2 ((own_ngc hy (k := 100) (m := -100) (by decide) (by decide) (by decide)).mpr q)), if_neg (fun q => hc3 ((own_ngc hy (k := 1000) (m := -1000) (by decide) (by decide) (by decide)).mpr q)), if_neg (fun q => hc4 ((own_ngc hy (k := 10000) (m := -10000) (by decide) (by decide) (by decide)).mpr q)), if_neg (fun q => hc5 ((own_ngc hy (k := 100000) (m := -100000) (by decide) (by decide) (by decide)).mpr q)), if_neg (fun q => hc6 ((own_ngc hy (k := 1000000) (m := -1000000) (by decide) (by decide) (by decide)).mpr q)), if_neg (fun q => hc7 ((own_ngc hy (k := 10000000) (m := -10000000) (by decide) (by decide) (by decide)).mpr q)), if_neg (fun q => hc8 ((own_ngc hy (k := 100000000) (m := -100000000) (by decide) (by decide) (by decide)).mpr q)), if_neg (fun q => hc9 ((own_ngc hy (k := 1000000000) (m := -1000000000) (by decide) (by decide) (by decide)).mpr q))], N0, e0⟩
def own_t5 (pc : Nat) : Option (Instr × Nat) := bif Nat.ble pc 10 then (bif Nat.ble pc 0 then (bif Nat.beq pc 0 then some (.aload_n 0, 1) else none) else (bif Nat.ble pc 7 then (bif Nat.beq pc 7 then some (.ifCond .eq 18, 3) else none) else (bif Nat.beq pc 10 then some (.aload_n 0, 1) else none))) else (bif Nat.ble pc 17 then (bif Nat.ble pc 11 then (bif Nat.beq pc 11 then some (.iload_n 1, 1) else none) else (bif Nat.beq pc 17 then some (.aload_n 0, 1) else none)) else (bif Nat.ble pc 18 then (bif Nat.beq pc 18 then some (.iconst 0, 1) else none) else (bif Nat.beq pc 22 then some (.goto 16, 3) else none)))
theorem own_ok5 : ∀ pc q, own_fetch 39 own_t5 pc = some q → decode jdk_68_method_2_code pc = .ok q := own_tab (by decide +kernel)
theorem d5_1 : decode jdk_68_method_2_code 1 = .ok (.invokespecial 3, 3) := by decide +kernel
theorem d5_4 : decode jdk_68_method_2_code 4 = .ok (.getstatic 18, 3) := by decide +kernel
theorem d5_7 : decode jdk_68_method_2_code 7 = .ok (.ifCond .eq 18, 3) := by decide +kernel
theorem d5_12 : decode jdk_68_method_2_code 12 = .ok (.newarray .byte, 2) := by decide +kernel
theorem d5_14 : decode jdk_68_method_2_code 14 = .ok (.putfield 15, 3) := by decide +kernel
theorem d5_19 : decode jdk_68_method_2_code 19 = .ok (.putfield 22, 3) := by decide +kernel
theorem d5_38 : decode jdk_68_method_2_code 38 = .ok (.return_, 1) := by decide +kernel
theorem pn_3 : plainName "java/lang/AbstractStringBuilder" = true := by first | (simp [plainName, overriddenIn]; done) | decide +kernel
def Q5a2 (Z : State) (b2 : Addr) (h0 : Heap) (n0 : Nat) (v : Option Value) (h : Heap) (L : List Loc) : Prop := ∃ (b7 : Addr) (k7 : ClassId), v = none ∧ Fr n0 L ∧ Keep h0 h [b2] ∧ n0 ≤ b7 ∧ h0.size ≤ b7 ∧ oF0 Z h b2 (.ref b7) ∧ oF1 Z h b2 (.int (0 : Int32)) ∧ oF2 Z h b2 (.int (0 : Int32)) ∧ Arv Z h b7 k7 .byte (16 : Int32) own_ls0 (.int (0 : Int32)) ∧ Exa Z h b7 "[B"
set_option maxRecDepth 65536 in
set_option maxHeartbeats 40000000 in
theorem rm5a2 (l : Launch) (Z : State) (a0 : Array Value) (hw : HW a0 Z) (ws : List Jvm.Cond) (b2 : Addr) (cs : Int32) (h0 : Heap) (n0 : Nat) (Z0 : n0 ≤ h0.size) (PS0 : Sta Z h0 "java/lang/String" "COMPACT_STRINGS" "Z" (.int cs)) (PE9 : Exa Z h0 b2 "java/lang/StringBuilder") (PF10 : oF0 Z h0 b2 .null) (PF11 : oF1 Z h0 b2 (.int (0 : Int32))) (PF12 : oF2 Z h0 b2 (.int (0 : Int32))) (PP0 : ¬ (cs = (0 : Int32))) (n_b2 : n0 ≤ b2) :
    own_Met l mn4 jdk_68_method_2_code 2 none ws (oRm 1 1 16 12) #[(.ref b2), (.int (16 : Int32))] Z h0 (Q5a2 Z b2 h0 n0) := by
  refine own_met (own := "java/lang/AbstractStringBuilder") rfl (plainFor_of_name pn_3) ?_
  intro p e s m below meth c s₁ hx hby hml hZ hown hnm X0 e0 Br Bs
  have N0 := Fr.nil n0
  have tt := own_tt hx hby own_ok5
  show own_Ends p e below s _ _ _ s₁ (mkF m 0 #[oR b2, oI 16] [])
  refine own_go (T' := s₁) (f' := (mkF m 1 #[oR b2, oI 16] [vR b2])) (fun _ k => own_e X0 tt 0 1 k rfl) ?_
  obtain ⟨T5, X5, e5, st5⟩ := initO X0 hx hZ hown (ow27 hw) (ow28 hw) (ow29 hw) e0 (g := (mkF m 1 #[oR b2, oI 16] [vR b2])) rfl (by rw [hml]; rfl) rfl (hb hby d5_1) (by decide) (W := 0) (by show 2 * 0 + _ ≤ _; exact Nat.le_of_eq rfl) (by decide)
  refine own_go (T' := T5) (f' := (mkF m 4 #[oR b2, oI 16] [])) (fun _ k => st5 _ k) ?_
  obtain ⟨T6, X6, e6, st6⟩ := getS2 X5 hx hZ hown (host := "") (Or.inl (ow30 hw)) Via.refl e5 PS0 (g := (mkF m 4 #[oR b2, oI 16] [])) rfl (hb hby d5_4)
  refine own_go (T' := T6) (f' := (mkF m 12 #[oR b2, oI 16] [vI 16, vR b2])) (fun _ k => st6 _ (XS.ifNo X6.here hx rfl (hb hby d5_7) rfl ((if0 _ _).trans (feq PP0).1) (own_e X6 tt 10 2 k rfl))) ?_
  obtain ⟨T7, h7, k7, X7, e7, E7, A7, EA7, st7⟩ := newPE (aty := .byte) X6 hx hZ (ow32 hw) e6 (g := (mkF m 12 #[oR b2, oI 16] [vI 16, vR b2])) rfl (hb hby d5_12) rfl (by decide) (cap := 16) (by decide) (by decide) (by decide) (by decide) (ad := "[B") (by decide +kernel)
  obtain ⟨b7, g_b7⟩ : ∃ z, z = h0.size := ⟨_, rfl⟩
  have sg_b7 : h0.size ≤ b7 := Nat.le_of_eq g_b7.symm
  rw [← g_b7] at A7 EA7 st7
  have n_b7 := oT Z0 sg_b7
  have sz_b7 := oT (Keep.refl h0 [b2]).1 sg_b7
  have K7 : Keep h0 h7 [b2] := (Keep.refl h0 [b2]).ext E7
  have V_b7 : Arv Z h7 b7 k7 .byte (16 : Int32) own_ls0 (.int (0 : Int32)) := (Arv.new A7 (by decide)).pad (pad_rep [] (.int (0 : Int32)) 16)
  refine own_go (T' := T7) (f' := (mkF m 14 #[oR b2, oI 16] [vR b7, vR b2])) (fun _ k => st7 _ k) ?_
  obtain ⟨T8, h8, X8, e8, W8, st8⟩ := putF X7 hx hZ hown (host := "") (Or.inl (ow33 hw)) Via.refl e7 (PF10.ext E7) (PE9.ext E7) (Or.inl (ow34 hw)) (ow16 hw) (ty := (.array .byte)) (by decide) rfl rfl (g := (mkF m 14 #[oR b2, oI 16] [vR b7, vR b2])) rfl rfl (hb hby d5_14)
  have Fw8 := Fld.same W8 (PF10.ext E7)
  have K8 : Keep h0 h8 [b2] := K7.wr W8 (Or.inl (List.mem_of_getElem? (i := 0) rfl))
  have N8 := Fr.snoc X8 N0 n_b2
  refine own_go (T' := T8) (f' := (mkF m 19 #[oR b2, oI 16] [vI 0, vR b2])) (fun _ k => st8 _ (own_e X8 tt 17 2 k rfl)) ?_
  obtain ⟨T9, h9, X9, e9, W9, st9⟩ := putFN X8 hx hZ hown (ow35 hw) Via.refl e8 ((PF11.ext E7).other W8 (Or.inr (sn_36_34 hw))) ((PE9.ext E7).wr W8) (Or.inl (ow36 hw)) (ow16 hw) (ty := .byte) (v' := (.int (0 : Int32))) (by decide) rfl (fits_nar_byte (0 : Int32)) (g := (mkF m 19 #[oR b2, oI 16] [vI 0, vR b2])) rfl rfl (hb hby d5_19)
  have Fw9 := Fld.same W9 ((PF11.ext E7).other W8 (Or.inr (sn_36_34 hw)))
  have K9 : Keep h0 h9 [b2] := K8.wr W9 (Or.inl (List.mem_of_getElem? (i := 0) rfl))
  have N9 := Fr.snoc X9 N8 n_b2
  refine own_go (T' := T9) (f' := (mkF m 38 #[oR b2, oI 16] [])) (fun _ k => st9 _ (own_e X9 tt 22 1 k rfl)) ?_
  refine own_ret X9 (v := none) (fun _ => rfl) Bs (fun fs hr => X9.returnOut hx Br (hb hby d5_38) hr) ?_ (by decide) (by decide)
  unfold Q5a2
  rw [e9]
  exact ⟨b7, k7, rfl, N9, K9, n_b7, sz_b7, (Fw8.other W9 (Or.inr (sn_34_36 hw))), Fw9, (((PF12.ext E7).other W8 (Or.inr (sn_67_34 hw))).other W9 (Or.inr (sn_67_36 hw))), ((V_b7.other W8 (oM PE9.lt sz_b7)).other W9 (oM PE9.lt sz_b7)), ((EA7.wr W8).wr W9)⟩
theorem pd11 : parseMethodDescriptor "(I)V" = some ⟨[.int], none⟩ := by decide +kernel
def own_t4 (pc : Nat) : Option (Instr × Nat) := bif Nat.ble pc 0 then (bif Nat.beq pc 0 then some (.aload_n 0, 1) else none) else (bif Nat.beq pc 1 then some (.bipush 16, 2) else none)
theorem own_ok4 : ∀ pc q, own_fetch 7 own_t4 pc = some q → decode jdk_67_method_1_code pc = .ok q := own_tab (by decide +kernel)
theorem d4_3 : decode jdk_67_method_1_code 3 = .ok (.invokespecial 1, 3) := by decide +kernel
theorem d4_6 : decode jdk_67_method_1_code 6 = .ok (.return_, 1) := by decide +kernel
theorem pn_8 : plainName "java/lang/StringBuilder" = true := by first | (simp [plainName, overriddenIn]; done) | decide +kernel
def Q4a1 (Z : State) (b2 : Addr) (h0 : Heap) (n0 : Nat) (v : Option Value) (h : Heap) (L : List Loc) : Prop := ∃ (b10a : Addr) (k10b : ClassId), v = none ∧ Fr n0 L ∧ Keep h0 h [b2] ∧ n0 ≤ b10a ∧ h0.size ≤ b10a ∧ oF0 Z h b2 (.ref b10a) ∧ oF1 Z h b2 (.int (0 : Int32)) ∧ oF2 Z h b2 (.int (0 : Int32)) ∧ Arv Z h b10a k10b .byte (16 : Int32) own_ls0 (.int (0 : Int32)) ∧ Exa Z h b10a "[B"
set_option maxRecDepth 65536 in
set_option maxHeartbeats 40000000 in
theorem rm4a1 (l : Launch) (Z : State) (a0 : Array Value) (hw : HW a0 Z) (ws : List Jvm.Cond) (b2 : Addr) (cs : Int32) (h0 : Heap) (n0 : Nat) (Z0 : n0 ≤ h0.size) (PS0 : Sta Z h0 "java/lang/String" "COMPACT_STRINGS" "Z" (.int cs)) (PE9 : Exa Z h0 b2 "java/lang/StringBuilder") (PF10 : oF0 Z h0 b2 .null) (PF11 : oF1 Z h0 b2 (.int (0 : Int32))) (PF12 : oF2 Z h0 b2 (.int (0 : Int32))) (PP0 : ¬ (cs = (0 : Int32))) (n_b2 : n0 ≤ b2) :
    own_Met l mn5 jdk_67_method_1_code 1 none ws (oRm 2 1 16 25) #[(.ref b2)] Z h0 (Q4a1 Z b2 h0 n0) := by
  refine own_met (own := "java/lang/StringBuilder") rfl (plainFor_of_name pn_8) ?_
  intro p e s m below meth c s₁ hx hby hml hZ hown hnm X0 e0 Br Bs
  have N0 := Fr.nil n0
  have tt := own_tt hx hby own_ok4
  show own_Ends p e below s _ _ _ s₁ (mkF m 0 #[oR b2] [])
  refine own_go (T' := s₁) (f' := (mkF m 3 #[oR b2] [vI 16, vR b2])) (fun _ k => own_e X0 tt 0 2 k rfl) ?_
  obtain ⟨_, T10, Lc10, X10, hQ10, st10⟩ := own_out (X0.specialBack hx (y := mn4) rfl hown (mvT hZ (ow21 hw)) (mvT hZ (ow22 hw)) (mvT hZ (ow26 hw)) (by decide) (backOf (W := 0) (rm5a2 l Z a0 hw [] b2 cs h0 n0 Z0 PS0 PE9 PF10 PF11 PF12 PP0 n_b2) hZ (ow26 hw) (ow25 hw) (by decide) (by decide)) (g := (mkF m 3 #[oR b2] [vI 16, vR b2])) rfl (by rw [hml]; rfl) (Steps.refl _) (a := b2) (argsL := [(.int (16 : Int32))]) (rest := []) (lenOf pd11 rfl) rfl (by show 2 * 0 + _ ≤ _; exact Nat.le_of_eq rfl) (hb hby d4_3) (fun _ _ => ⟨rfl, e0, (by decide : 0 + 1 ≤ _), (by decide : 0 + 16 ≤ _)⟩))
  obtain ⟨b10a, k10b, rfl, N10q, K10, n_b10a, sg_b10a, g10_0, g10_1, g10_2, g10_3, g10_4⟩ := hQ10
  have N10 := Fr.app N0 N10q
  have sz_b10a := oT (Keep.refl h0 [b2]).1 sg_b10a
  have eK10 : T10.heap = T10.heap := rfl
  have KK10 : Keep h0 T10.heap [b2] := Keep.trans (Keep.refl h0 [b2]) K10 (allS (Or.inl (List.mem_of_getElem? (i := 0) rfl)) all0)
  obtain ⟨_, X10, N10⟩ := own_hide X10 N10
  refine own_go (T' := T10) (f' := (mkF m 6 #[oR b2] [])) (fun _ k => st10.trans k) ?_
  refine own_ret X10 (v := none) (fun _ => rfl) Bs (fun fs hr => X10.returnOut hx Br (hb hby d4_6) hr) ?_ (by decide) (by decide)
  unfold Q4a1
  rw [eK10]
  exact ⟨b10a, k10b, rfl, N10, KK10, n_b10a, sz_b10a, g10_0, g10_1, g10_2, g10_3, g10_4⟩
theorem pd5 : parseMethodDescriptor "()V" = some ⟨[], none⟩ := by decide +kernel
def own_t10 (pc : Nat) : Option (Instr × Nat) := bif Nat.ble pc 3 then (bif Nat.beq pc 3 then some (.ifCond .eq 10, 3) else none) else (bif Nat.ble pc 6 then (bif Nat.beq pc 6 then some (.aload_n 0, 1) else none) else (bif Nat.beq pc 10 then some (.goto 4, 3) else none))
theorem own_ok10 : ∀ pc q, own_fetch 15 own_t10 pc = some q → decode jdk_42_method_152_code pc = .ok q := own_tab (by decide +kernel)
theorem d10_0 : decode jdk_42_method_152_code 0 = .ok (.getstatic 38, 3) := by decide +kernel
theorem d10_3 : decode jdk_42_method_152_code 3 = .ok (.ifCond .eq 10, 3) := by decide +kernel
theorem d10_7 : decode jdk_42_method_152_code 7 = .ok (.getfield 15, 3) := by decide +kernel
theorem d10_14 : decode jdk_42_method_152_code 14 = .ok (.ireturn, 1) := by decide +kernel
theorem pn_7 : plainName "java/lang/String" = true := by first | (simp [plainName, overriddenIn]; done) | decide +kernel
def Q10a6 (Z : State)  (h0 : Heap) (n0 : Nat) (v : Option Value) (h : Heap) (L : List Loc) : Prop := v = some (.int (0 : Int32)) ∧ Fr n0 L ∧ h = h0
set_option maxRecDepth 65536 in
set_option maxHeartbeats 40000000 in
theorem rm10a6 (l : Launch) (Z : State) (a0 : Array Value) (hw : HW a0 Z) (ws : List Jvm.Cond) (a14 : Addr) (cs : Int32) (h0 : Heap) (n0 : Nat) (Z0 : n0 ≤ h0.size) (PS0 : Sta Z h0 "java/lang/String" "COMPACT_STRINGS" "Z" (.int cs)) (PF16 : oF3 Z h0 a14 (.int (0 : Int32))) (PP0 : ¬ (cs = (0 : Int32))) :
    own_Met l mn6 jdk_42_method_152_code 1 (some .byte) ws (oRm 0 0 0 0) #[(.ref a14)] Z h0 (Q10a6 Z  h0 n0) := by
  refine own_met (own := "java/lang/String") rfl (plainFor_of_name pn_7) ?_
  intro p e s m below meth c s₁ hx hby hml hZ hown hnm X0 e0 Br Bs
  have N0 := Fr.nil n0
  have tt := own_tt hx hby own_ok10
  show own_Ends p e below s _ _ _ s₁ (mkF m 0 #[oR a14] [])
  obtain ⟨T16, X16, e16, st16⟩ := getS2 X0 hx hZ hown (host := "") (Or.inl (ow64 hw)) Via.refl e0 PS0 (g := (mkF m 0 #[oR a14] [])) rfl (hb hby d10_0)
  refine own_go (T' := T16) (f' := (mkF m 7 #[oR a14] [vR a14])) (fun _ k => st16 _ (XS.ifNo X16.here hx rfl (hb hby d10_3) rfl ((if0 _ _).trans (feq PP0).1) (own_e X16 tt 6 1 k rfl))) ?_
  obtain ⟨T17, X17, e17, st17⟩ := getF X16 hx hZ hown (host := "") (Or.inl (ow65 hw)) Via.refl e16 PF16 (g := (mkF m 7 #[oR a14] [vR a14])) rfl rfl (hb hby d10_7)
  refine own_go (T' := T17) (f' := (mkF m 14 #[oR a14] [vI 0])) (fun _ k => st17 _ (own_e X17 tt 10 1 k rfl)) ?_
  refine own_ret X17 (v := some (.int (nar .byte (0 : Int32)))) (oN Br) Bs (fun fs hr => retN X17 hx (t := .byte) Br (by simp) (hb hby d10_14) hr) ?_ (by decide) (by decide)
  unfold Q10a6
  exact ⟨rfl, N0, e17⟩
theorem pd0 : parseMethodDescriptor "()B" = some ⟨[], some .byte⟩ := by decide +kernel
def own_t9 (pc : Nat) : Option (Instr × Nat) := bif Nat.ble pc 0 then (bif Nat.beq pc 0 then some (.aload_n 0, 1) else none) else (bif Nat.ble pc 5 then (bif Nat.beq pc 5 then some (.aload_n 0, 1) else none) else (bif Nat.beq pc 9 then some (.ishr, 1) else none))
theorem own_ok9 : ∀ pc q, own_fetch 11 own_t9 pc = some q → decode jdk_42_method_54_code pc = .ok q := own_tab (by decide +kernel)
theorem d9_1 : decode jdk_42_method_54_code 1 = .ok (.getfield 9, 3) := by decide +kernel
theorem d9_4 : decode jdk_42_method_54_code 4 = .ok (.arraylength, 1) := by decide +kernel
theorem d9_6 : decode jdk_42_method_54_code 6 = .ok (.invokevirtual 335, 3) := by decide +kernel
theorem d9_10 : decode jdk_42_method_54_code 10 = .ok (.ireturn, 1) := by decide +kernel
def Q9a5 (Z : State)  (h0 : Heap) (n0 : Nat) (v : Option Value) (h : Heap) (L : List Loc) : Prop := v = some (.int (17 : Int32)) ∧ Fr n0 L ∧ h = h0
set_option maxRecDepth 65536 in
set_option maxHeartbeats 40000000 in
theorem rm9a5 (l : Launch) (Z : State) (a0 : Array Value) (hw : HW a0 Z) (ws : List Jvm.Cond) (a14 : Addr) (cs : Int32) (b14 : Addr) (kc14 : ClassId) (h0 : Heap) (n0 : Nat) (Z0 : n0 ≤ h0.size) (PS0 : Sta Z h0 "java/lang/String" "COMPACT_STRINGS" "Z" (.int cs)) (PE15 : Exa Z h0 a14 "java/lang/String") (PF16 : oF3 Z h0 a14 (.int (0 : Int32))) (PF17 : oF4 Z h0 a14 (.ref b14)) (PV18 : Arv Z h0 b14 kc14 .byte (17 : Int32) own_ls1 (.int (0 : Int32))) (PP0 : ¬ (cs = (0 : Int32))) :
    own_Met l mn7 jdk_42_method_54_code 1 (some .int) ws (oRm 1 0 0 13) #[(.ref a14)] Z h0 (Q9a5 Z  h0 n0) := by
  refine own_met (own := "java/lang/String") rfl (plainFor_of_name pn_7) ?_
  intro p e s m below meth c s₁ hx hby hml hZ hown hnm X0 e0 Br Bs
  have N0 := Fr.nil n0
  have tt := own_tt hx hby own_ok9
  show own_Ends p e below s _ _ _ s₁ (mkF m 0 #[oR a14] [])
  refine own_go (T' := s₁) (f' := (mkF m 1 #[oR a14] [vR a14])) (fun _ k => own_e X0 tt 0 1 k rfl) ?_
  obtain ⟨T15, X15, e15, st15⟩ := getF X0 hx hZ hown (host := "") (Or.inl (ow58 hw)) Via.refl e0 PF17 (g := (mkF m 1 #[oR a14] [vR a14])) rfl rfl (hb hby d9_1)
  refine own_go (T' := T15) (f' := (mkF m 6 #[oR a14] [vR a14, vI 17])) (fun _ k => st15 _ (own_alen X15 hx hZ e15 PV18 rfl rfl (hb hby d9_4) (own_e X15 tt 5 1 k rfl))) ?_
  obtain ⟨cq18, kq18, q18a, q18b, q18c⟩ := isOf hZ e15 PE15
  obtain ⟨_, T18, Lc18, X18, hQ18, st18⟩ := own_out (X15.virtualBack hx (y := mn6) (z := mn6) hown (mvT hZ (ow59 hw)) (mvT hZ (ow60 hw)) (notFace_of_selects (args := #[]) (mvT hZ (ow62 hw))) (mvT hZ (ow62 hw)) (mvT hZ (ow61 hw)) (by decide) (backOf (W := 1) (rm10a6 l Z a0 hw [] a14 cs h0 n0 Z0 PS0 PF16 PP0) hZ (ow63 hw) (ow31 hw) (by decide) (by decide)) q18a q18c (g := (mkF m 6 #[oR a14] [vR a14, vI 17])) rfl (by rw [hml]; rfl) (Steps.refl _) (argsL := []) (rest := [(.int (17 : Int32))]) (lenOf pd0 rfl) rfl (by show 2 * 0 + _ ≤ _; exact Nat.le_of_eq rfl) (hb hby d9_6) (fun _ _ => ⟨rfl, e15, (by decide : 0 + 0 ≤ _), (by decide : 0 + 0 ≤ _)⟩))
  obtain ⟨rfl, N18q, hh18⟩ := hQ18
  have N18 := Fr.app N0 N18q
  obtain ⟨_, X18, N18⟩ := own_hide X18 N18
  refine own_go (T' := T18) (f' := (mkF m 10 #[oR a14] [vI 17])) (fun _ k => st18.trans (own_e X18 tt 9 1 k rfl)) ?_
  refine own_ret X18 (v := some (.int (17 : Int32))) (oN Br) Bs (fun fs hr => retI X18 hx Br (hb hby d9_10) hr) ?_ (by decide) (by decide)
  unfold Q9a5
  exact ⟨rfl, N18, hh18⟩
theorem pd1 : parseMethodDescriptor "()I" = some ⟨[], some .int⟩ := by decide +kernel
def Q2a10 (Z : State)  (h0 : Heap) (n0 : Nat) (v : Option Value) (h : Heap) (L : List Loc) : Prop := v = some (.int (18 : Int32)) ∧ Fr n0 L ∧ h = h0
set_option maxRecDepth 65536 in
set_option maxHeartbeats 40000000 in
theorem rm2a10 (l : Launch) (Z : State) (a0 : Array Value) (hw : HW a0 Z) (ws : List Jvm.Cond)  (h0 : Heap) (n0 : Nat) (Z0 : n0 ≤ h0.size) :
    own_Met l mn1 jdk_29_method_65_code 2 (some .int) ws (oRm 0 0 0 0) #[(.int (1 : Int32)), (.int (18 : Int32))] Z h0 (Q2a10 Z  h0 n0) := by
  refine own_met (own := "java/lang/Math") rfl (Jvm.Free.JP.mathPlain rfl (by decide +kernel)) ?_
  intro p e s m below meth c s₁ hx hby hml hZ hown hnm X0 e0 Br Bs
  have N0 := Fr.nil n0
  have tt := own_tt hx hby own_ok2
  show own_Ends p e below s _ _ _ s₁ (mkF m 0 #[oI 1, oI 18] [])
  refine own_go (T' := s₁) (f' := (mkF m 10 #[oI 1, oI 18] [vI 18])) (fun _ k => own_e X0 tt 0 4 k rfl) ?_
  refine own_ret X0 (v := some (.int (18 : Int32))) (oN Br) Bs (fun fs hr => retI X0 hx Br (hb hby d2_10) hr) ?_ (by decide) (by decide)
  unfold Q2a10
  exact ⟨rfl, N0, e0⟩
theorem pd12 : parseMethodDescriptor "(II)I" = some ⟨[.int, .int], some .int⟩ := by decide +kernel
def own_t13 (pc : Nat) : Option (Instr × Nat) := bif Nat.ble pc 7 then (bif Nat.ble pc 1 then (bif Nat.ble pc 0 then (bif Nat.beq pc 0 then some (.iload_n 0, 1) else none) else (bif Nat.beq pc 1 then some (.iload_n 1, 1) else none)) else (bif Nat.ble pc 2 then (bif Nat.beq pc 2 then some (.iload_n 2, 1) else none) else (bif Nat.ble pc 6 then (bif Nat.beq pc 6 then some (.iadd, 1) else none) else (bif Nat.beq pc 7 then some (.istore_n 3, 1) else none)))) else (bif Nat.ble pc 10 then (bif Nat.ble pc 8 then (bif Nat.beq pc 8 then some (.iconst 0, 1) else none) else (bif Nat.ble pc 9 then (bif Nat.beq pc 9 then some (.iload_n 3, 1) else none) else (bif Nat.beq pc 10 then some (.if_icmp .ge 11, 3) else none))) else (bif Nat.ble pc 13 then (bif Nat.beq pc 13 then some (.iload_n 3, 1) else none) else (bif Nat.ble pc 16 then (bif Nat.beq pc 16 then some (.if_icmp .gt 5, 3) else none) else (bif Nat.beq pc 19 then some (.iload_n 3, 1) else none))))
theorem own_ok13 : ∀ pc q, own_fetch 27 own_t13 pc = some q → decode jdk_48_method_27_code pc = .ok q := own_tab (by decide +kernel)
theorem d13_3 : decode jdk_48_method_27_code 3 = .ok (.invokestatic 194, 3) := by decide +kernel
theorem d13_14 : decode jdk_48_method_27_code 14 = .ok (.ldc 200, 2) := by decide +kernel
theorem d13_20 : decode jdk_48_method_27_code 20 = .ok (.ireturn, 1) := by decide +kernel
theorem pn_12 : plainName "jdk/internal/util/ArraysSupport" = true := by first | (simp [plainName, overriddenIn]; done) | decide +kernel
def Q13a9 (Z : State)  (h0 : Heap) (n0 : Nat) (v : Option Value) (h : Heap) (L : List Loc) : Prop := v = some (.int (34 : Int32)) ∧ Fr n0 L ∧ h = h0
set_option maxRecDepth 65536 in
set_option maxHeartbeats 40000000 in
theorem rm13a9 (l : Launch) (Z : State) (a0 : Array Value) (hw : HW a0 Z) (ws : List Jvm.Cond)  (h0 : Heap) (n0 : Nat) (Z0 : n0 ≤ h0.size) :
    own_Met l mn8 jdk_48_method_27_code 4 (some .int) ws (oRm 1 0 0 14) #[(.int (16 : Int32)), (.int (1 : Int32)), (.int (18 : Int32))] Z h0 (Q13a9 Z  h0 n0) := by
  refine own_met (own := "jdk/internal/util/ArraysSupport") rfl (plainFor_of_name pn_12) ?_
  intro p e s m below meth c s₁ hx hby hml hZ hown hnm X0 e0 Br Bs
  have N0 := Fr.nil n0
  have tt := own_tt hx hby own_ok13
  show own_Ends p e below s _ _ _ s₁ (mkF m 0 #[oI 16, oI 1, oI 18, oU] [])
  refine own_go (T' := s₁) (f' := (mkF m 3 #[oI 16, oI 1, oI 18, oU] [vI 18, vI 1, vI 16])) (fun _ k => own_e X0 tt 0 3 k rfl) ?_
  obtain ⟨_, T27, Lc27, X27, hQ27, st27⟩ := own_outC (Jvm.LawKit.callS X0 hx (y := mn1) hown (mvT hZ (ow82 hw)) (mvT hZ (ow6 hw)) (mvT hZ (ow3 hw)) (mvT hZ (ow7 hw)) (by decide) (backOf (W := 1) (rm2a10 l Z a0 hw []  h0 n0 Z0 ) hZ (ow7 hw) (ow3 hw) (by decide) (by decide)) (g := (mkF m 3 #[oI 16, oI 1, oI 18, oU] [vI 18, vI 1, vI 16])) rfl (by rw [hml]; rfl) (argsL := [(.int (1 : Int32)), (.int (18 : Int32))]) (rest := [(.int (16 : Int32))]) (lenOf pd12 rfl) rfl (by show 2 * 0 + _ ≤ _; exact Nat.le_of_eq rfl) (hb hby d13_3) (fun _ _ => ⟨rfl, e0, (by decide : 0 + 0 ≤ _), (by decide : 0 + 0 ≤ _)⟩))
  obtain ⟨rfl, N27q, hh27⟩ := hQ27
  have N27 := Fr.app N0 N27q
  obtain ⟨_, X27, N27⟩ := own_hide X27 N27
  refine own_go (T' := T27) (f' := (mkF m 14 #[oI 16, oI 1, oI 18, oI 34] [vI 34])) (fun _ k => st27 _ (own_e X27 tt 6 6 k rfl)) ?_
  refine own_go (T' := T27) (f' := (mkF m 20 #[oI 16, oI 1, oI 18, oI 34] [vI 34])) (fun _ k => X27.ldcInt hx hown (mvT hZ (ow83 hw)) (g := (mkF m 14 #[oI 16, oI 1, oI 18, oI 34] [vI 34])) rfl (hb hby d13_14) _ (own_e X27 tt 16 2 k rfl)) ?_
  refine own_ret X27 (v := some (.int (34 : Int32))) (oN Br) Bs (fun fs hr => retI X27 hx Br (hb hby d13_20) hr) ?_ (by decide) (by decide)
  unfold Q13a9
  exact ⟨rfl, N27, hh27⟩
theorem pd15 : parseMethodDescriptor "(III)I" = some ⟨[.int, .int, .int], some .int⟩ := by decide +kernel
def own_t12 (pc : Nat) : Option (Instr × Nat) := bif Nat.ble pc 18 then (bif Nat.ble pc 11 then (bif Nat.ble pc 5 then (bif Nat.ble pc 0 then (bif Nat.beq pc 0 then some (.aload_n 0, 1) else none) else (bif Nat.beq pc 5 then some (.istore_n 2, 1) else none)) else (bif Nat.ble pc 6 then (bif Nat.beq pc 6 then some (.iload_n 1, 1) else none) else (bif Nat.ble pc 7 then (bif Nat.beq pc 7 then some (.aload_n 0, 1) else none) else (bif Nat.beq pc 11 then some (.ishl, 1) else none)))) else (bif Nat.ble pc 14 then (bif Nat.ble pc 12 then (bif Nat.beq pc 12 then some (.istore_n 3, 1) else none) else (bif Nat.ble pc 13 then (bif Nat.beq pc 13 then some (.iload_n 3, 1) else none) else (bif Nat.beq pc 14 then some (.iload_n 2, 1) else none))) else (bif Nat.ble pc 15 then (bif Nat.beq pc 15 then some (.isub, 1) else none) else (bif Nat.ble pc 16 then (bif Nat.beq pc 16 then some (.istore 4, 2) else none) else (bif Nat.beq pc 18 then some (.iload_n 2, 1) else none))))) else (bif Nat.ble pc 28 then (bif Nat.ble pc 22 then (bif Nat.ble pc 19 then (bif Nat.beq pc 19 then some (.iload 4, 2) else none) else (bif Nat.ble pc 21 then (bif Nat.beq pc 21 then some (.iload_n 2, 1) else none) else (bif Nat.beq pc 22 then some (.iconst 2, 1) else none))) else (bif Nat.ble pc 23 then (bif Nat.beq pc 23 then some (.aload_n 0, 1) else none) else (bif Nat.ble pc 27 then (bif Nat.beq pc 27 then some (.ishl, 1) else none) else (bif Nat.beq pc 28 then some (.iadd, 1) else none)))) else (bif Nat.ble pc 38 then (bif Nat.ble pc 32 then (bif Nat.beq pc 32 then some (.istore 5, 2) else none) else (bif Nat.ble pc 34 then (bif Nat.beq pc 34 then some (.iload 5, 2) else none) else (bif Nat.beq pc 38 then some (.if_icmp .ne 13, 3) else none))) else (bif Nat.ble pc 51 then (bif Nat.beq pc 51 then some (.iload 5, 2) else none) else (bif Nat.ble pc 53 then (bif Nat.beq pc 53 then some (.aload_n 0, 1) else none) else (bif Nat.beq pc 57 then some (.ishr, 1) else none)))))
theorem own_ok12 : ∀ pc q, own_fetch 59 own_t12 pc = some q → decode jdk_68_method_10_code pc = .ok q := own_tab (by decide +kernel)
theorem d12_1 : decode jdk_68_method_10_code 1 = .ok (.getfield 15, 3) := by decide +kernel
theorem d12_4 : decode jdk_68_method_10_code 4 = .ok (.arraylength, 1) := by decide +kernel
theorem d12_8 : decode jdk_68_method_10_code 8 = .ok (.getfield 22, 3) := by decide +kernel
theorem d12_24 : decode jdk_68_method_10_code 24 = .ok (.getfield 22, 3) := by decide +kernel
theorem d12_29 : decode jdk_68_method_10_code 29 = .ok (.invokestatic 114, 3) := by decide +kernel
theorem d12_36 : decode jdk_68_method_10_code 36 = .ok (.ldc 39, 2) := by decide +kernel
theorem d12_54 : decode jdk_68_method_10_code 54 = .ok (.getfield 22, 3) := by decide +kernel
theorem d12_58 : decode jdk_68_method_10_code 58 = .ok (.ireturn, 1) := by decide +kernel
def Q12a8 (Z : State)  (h0 : Heap) (n0 : Nat) (v : Option Value) (h : Heap) (L : List Loc) : Prop := v = some (.int (34 : Int32)) ∧ Fr n0 L ∧ h = h0
set_option maxRecDepth 65536 in
set_option maxHeartbeats 40000000 in
theorem rm12a8 (l : Launch) (Z : State) (a0 : Array Value) (hw : HW a0 Z) (ws : List Jvm.Cond) (b2 : Addr) (b11a : Addr) (k11b : ClassId) (h0 : Heap) (n0 : Nat) (Z0 : n0 ≤ h0.size) (PF10 : oF0 Z h0 b2 (.ref b11a)) (PF11 : oF1 Z h0 b2 (.int (0 : Int32))) (PV13 : Arv Z h0 b11a k11b .byte (16 : Int32) own_ls0 (.int (0 : Int32))) :
    own_Met l mn9 jdk_68_method_10_code 6 (some .int) ws (oRm 2 0 0 29) #[(.ref b2), (.int (17 : Int32))] Z h0 (Q12a8 Z  h0 n0) := by
  refine own_met (own := "java/lang/AbstractStringBuilder") rfl (plainFor_of_name pn_3) ?_
  intro p e s m below meth c s₁ hx hby hml hZ hown hnm X0 e0 Br Bs
  have N0 := Fr.nil n0
  have tt := own_tt hx hby own_ok12
  show own_Ends p e below s _ _ _ s₁ (mkF m 0 #[oR b2, oI 17, oU, oU, oU, oU] [])
  refine own_go (T' := s₁) (f' := (mkF m 1 #[oR b2, oI 17, oU, oU, oU, oU] [vR b2])) (fun _ k => own_e X0 tt 0 1 k rfl) ?_
  obtain ⟨T24, X24, e24, st24⟩ := getF X0 hx hZ hown (host := "") (Or.inl (ow33 hw)) Via.refl e0 PF10 (g := (mkF m 1 #[oR b2, oI 17, oU, oU, oU, oU] [vR b2])) rfl rfl (hb hby d12_1)
  refine own_go (T' := T24) (f' := (mkF m 8 #[oR b2, oI 17, oI 16, oU, oU, oU] [vR b2, vI 17])) (fun _ k => st24 _ (own_alen X24 hx hZ e24 PV13 rfl rfl (hb hby d12_4) (own_e X24 tt 5 3 k rfl))) ?_
  obtain ⟨T25, X25, e25, st25⟩ := getF X24 hx hZ hown (host := "") (Or.inl (ow35 hw)) Via.refl e24 PF11 (g := (mkF m 8 #[oR b2, oI 17, oI 16, oU, oU, oU] [vR b2, vI 17])) rfl rfl (hb hby d12_8)
  refine own_go (T' := T25) (f' := (mkF m 24 #[oR b2, oI 17, oI 16, oI 17, oI 1, oU] [vR b2, vI 2, vI 16, vI 1, vI 16])) (fun _ k => st25 _ (own_e X25 tt 11 11 k rfl)) ?_
  obtain ⟨T26, X26, e26, st26⟩ := getF X25 hx hZ hown (host := "") (Or.inl (ow35 hw)) Via.refl e25 PF11 (g := (mkF m 24 #[oR b2, oI 17, oI 16, oI 17, oI 1, oU] [vR b2, vI 2, vI 16, vI 1, vI 16])) rfl rfl (hb hby d12_24)
  refine own_go (T' := T26) (f' := (mkF m 29 #[oR b2, oI 17, oI 16, oI 17, oI 1, oU] [vI 18, vI 1, vI 16])) (fun _ k => st26 _ (own_e X26 tt 27 2 k rfl)) ?_
  obtain ⟨_, T28, Lc28, X28, hQ28, st28⟩ := own_outC (Jvm.LawKit.callS X26 hx (y := mn8) hown (mvT hZ (ow78 hw)) (mvT hZ (ow79 hw)) (mvT hZ (ow80 hw)) (mvT hZ (ow81 hw)) (by decide) (backOf (W := 0) (rm13a9 l Z a0 hw []  h0 n0 Z0 ) hZ (ow81 hw) (ow80 hw) (by decide) (by decide)) (g := (mkF m 29 #[oR b2, oI 17, oI 16, oI 17, oI 1, oU] [vI 18, vI 1, vI 16])) rfl (by rw [hml]; rfl) (argsL := [(.int (16 : Int32)), (.int (1 : Int32)), (.int (18 : Int32))]) (rest := []) (lenOf pd15 rfl) rfl (by show 2 * 0 + _ ≤ _; exact Nat.le_of_eq rfl) (hb hby d12_29) (fun _ _ => ⟨rfl, e26, (by decide : 0 + 0 ≤ _), (by decide : 0 + 0 ≤ _)⟩))
  obtain ⟨rfl, N28q, hh28⟩ := hQ28
  have N28 := Fr.app N0 N28q
  obtain ⟨_, X28, N28⟩ := own_hide X28 N28
  refine own_go (T' := T28) (f' := (mkF m 36 #[oR b2, oI 17, oI 16, oI 17, oI 1, oI 34] [vI 34])) (fun _ k => st28 _ (own_e X28 tt 32 2 k rfl)) ?_
  refine own_go (T' := T28) (f' := (mkF m 54 #[oR b2, oI 17, oI 16, oI 17, oI 1, oI 34] [vR b2, vI 34])) (fun _ k => X28.ldcInt hx hown (mvT hZ (ow84 hw)) (g := (mkF m 36 #[oR b2, oI 17, oI 16, oI 17, oI 1, oI 34] [vI 34])) rfl (hb hby d12_36) _ (own_e X28 tt 38 3 k rfl)) ?_
  obtain ⟨T29, X29, e29, st29⟩ := getF X28 hx hZ hown (host := "") (Or.inl (ow35 hw)) Via.refl hh28 PF11 (g := (mkF m 54 #[oR b2, oI 17, oI 16, oI 17, oI 1, oI 34] [vR b2, vI 34])) rfl rfl (hb hby d12_54)
  refine own_go (T' := T29) (f' := (mkF m 58 #[oR b2, oI 17, oI 16, oI 17, oI 1, oI 34] [vI 34])) (fun _ k => st29 _ (own_e X29 tt 57 1 k rfl)) ?_
  refine own_ret X29 (v := some (.int (34 : Int32))) (oN Br) Bs (fun fs hr => retI X29 hx Br (hb hby d12_58) hr) ?_ (by decide) (by decide)
  unfold Q12a8
  exact ⟨rfl, N28, e29⟩
theorem pd8 : parseMethodDescriptor "(I)I" = some ⟨[.int], some .int⟩ := by decide +kernel
def Q1a12 (Z : State)  (h0 : Heap) (n0 : Nat) (v : Option Value) (h : Heap) (L : List Loc) : Prop := v = some (.int (16 : Int32)) ∧ Fr n0 L ∧ h = h0
set_option maxRecDepth 65536 in
set_option maxHeartbeats 40000000 in
theorem rm1a12 (l : Launch) (Z : State) (a0 : Array Value) (hw : HW a0 Z) (ws : List Jvm.Cond)  (h0 : Heap) (n0 : Nat) (Z0 : n0 ≤ h0.size) :
    own_Met l mn0 jdk_29_method_69_code 2 (some .int) ws (oRm 0 0 0 0) #[(.int (16 : Int32)), (.int (34 : Int32))] Z h0 (Q1a12 Z  h0 n0) := by
  refine own_met (own := "java/lang/Math") rfl (Jvm.Free.JP.mathPlain rfl (by decide +kernel)) ?_
  intro p e s m below meth c s₁ hx hby hml hZ hown hnm X0 e0 Br Bs
  have N0 := Fr.nil n0
  have tt := own_tt hx hby own_ok1
  show own_Ends p e below s _ _ _ s₁ (mkF m 0 #[oI 16, oI 34] [])
  refine own_go (T' := s₁) (f' := (mkF m 10 #[oI 16, oI 34] [vI 16])) (fun _ k => own_e X0 tt 0 5 k rfl) ?_
  refine own_ret X0 (v := some (.int (16 : Int32))) (oN Br) Bs (fun fs hr => retI X0 hx Br (hb hby d1_10) hr) ?_ (by decide) (by decide)
  unfold Q1a12
  exact ⟨rfl, N0, e0⟩
def own_t14 (pc : Nat) : Option (Instr × Nat) := bif Nat.ble pc 18 then (bif Nat.ble pc 3 then (bif Nat.ble pc 0 then (bif Nat.beq pc 0 then some (.iload_n 1, 1) else none) else (bif Nat.ble pc 1 then (bif Nat.beq pc 1 then some (.aload_n 0, 1) else none) else (bif Nat.beq pc 3 then some (.if_icmp .ne 11, 3) else none))) else (bif Nat.ble pc 14 then (bif Nat.beq pc 14 then some (.iload_n 1, 1) else none) else (bif Nat.ble pc 17 then (bif Nat.beq pc 17 then some (.astore_n 2, 1) else none) else (bif Nat.beq pc 18 then some (.aload_n 0, 1) else none)))) else (bif Nat.ble pc 21 then (bif Nat.ble pc 19 then (bif Nat.beq pc 19 then some (.iconst 0, 1) else none) else (bif Nat.ble pc 20 then (bif Nat.beq pc 20 then some (.aload_n 2, 1) else none) else (bif Nat.beq pc 21 then some (.iconst 0, 1) else none))) else (bif Nat.ble pc 22 then (bif Nat.beq pc 22 then some (.aload_n 0, 1) else none) else (bif Nat.ble pc 24 then (bif Nat.beq pc 24 then some (.iload_n 1, 1) else none) else (bif Nat.beq pc 31 then some (.aload_n 2, 1) else none))))
theorem own_ok14 : ∀ pc q, own_fetch 33 own_t14 pc = some q → decode jdk_65_method_121_code pc = .ok q := own_tab (by decide +kernel)
theorem d14_2 : decode jdk_65_method_121_code 2 = .ok (.arraylength, 1) := by decide +kernel
theorem d14_15 : decode jdk_65_method_121_code 15 = .ok (.newarray .byte, 2) := by decide +kernel
theorem d14_23 : decode jdk_65_method_121_code 23 = .ok (.arraylength, 1) := by decide +kernel
theorem d14_25 : decode jdk_65_method_121_code 25 = .ok (.invokestatic 304, 3) := by decide +kernel
theorem d14_28 : decode jdk_65_method_121_code 28 = .ok (.invokestatic 150, 3) := by decide +kernel
theorem d14_32 : decode jdk_65_method_121_code 32 = .ok (.areturn, 1) := by decide +kernel
theorem pn_11 : plainName "java/util/Arrays" = true := by first | (simp [plainName, overriddenIn]; done) | decide +kernel
def Q14a11 (Z : State)  (h0 : Heap) (n0 : Nat) (v : Option Value) (h : Heap) (L : List Loc) : Prop := ∃ (b32 : Addr) (k32 : ClassId), v = some (.ref b32) ∧ Fr n0 L ∧ Keep h0 h [] ∧ n0 ≤ b32 ∧ h0.size ≤ b32 ∧ Arv Z h b32 k32 .byte (34 : Int32) own_ls2 (.int (0 : Int32)) ∧ Exa Z h b32 "[B"
set_option maxRecDepth 65536 in
set_option maxHeartbeats 40000000 in
theorem rm14a11 (l : Launch) (Z : State) (a0 : Array Value) (hw : HW a0 Z) (ws : List Jvm.Cond) (b11a : Addr) (k11b : ClassId) (h0 : Heap) (n0 : Nat) (Z0 : n0 ≤ h0.size) (PV13 : Arv Z h0 b11a k11b .byte (16 : Int32) own_ls0 (.int (0 : Int32))) :
    own_Met l mn10 jdk_65_method_121_code 3 (some (.array .byte)) ws (oRm 1 1 34 18) #[(.ref b11a), (.int (34 : Int32))] Z h0 (Q14a11 Z  h0 n0) := by
  refine own_met (own := "java/util/Arrays") rfl (plainFor_of_name pn_11) ?_
  intro p e s m below meth c s₁ hx hby hml hZ hown hnm X0 e0 Br Bs
  have N0 := Fr.nil n0
  have tt := own_tt hx hby own_ok14
  show own_Ends p e below s _ _ _ s₁ (mkF m 0 #[oR b11a, oI 34, oU] [])
  refine own_go (T' := s₁) (f' := (mkF m 2 #[oR b11a, oI 34, oU] [vR b11a, vI 34])) (fun _ k => own_e X0 tt 0 2 k rfl) ?_
  refine own_go (T' := s₁) (f' := (mkF m 15 #[oR b11a, oI 34, oU] [vI 34])) (fun _ k => own_alen X0 hx hZ e0 PV13 rfl rfl (hb hby d14_2) (own_e X0 tt 3 2 k rfl)) ?_
  obtain ⟨T32, h32, k32, X32, e32, E32, A32, EA32, st32⟩ := newPE (aty := .byte) X0 hx hZ (ow32 hw) e0 (g := (mkF m 15 #[oR b11a, oI 34, oU] [vI 34])) rfl (hb hby d14_15) rfl (by decide) (cap := 34) (by decide) (by decide) (by decide) (by decide) (ad := "[B") (by decide +kernel)
  obtain ⟨b32, g_b32⟩ : ∃ z, z = h0.size := ⟨_, rfl⟩
  have sg_b32 : h0.size ≤ b32 := Nat.le_of_eq g_b32.symm
  rw [← g_b32] at A32 EA32 st32
  have n_b32 := oT Z0 sg_b32
  have sz_b32 := oT (Keep.refl h0 []).1 sg_b32
  have K32 : Keep h0 h32 [] := (Keep.refl h0 []).ext E32
  have V_b32 : Arv Z h32 b32 k32 .byte (34 : Int32) own_ls2 (.int (0 : Int32)) := (Arv.new A32 (by decide)).pad (pad_rep [] (.int (0 : Int32)) 34)
  refine own_go (T' := T32) (f' := (mkF m 23 #[oR b11a, oI 34, oR b32] [vR b11a, vI 0, vR b32, vI 0, vR b11a])) (fun _ k => st32 _ (own_e X32 tt 17 6 k rfl)) ?_
  refine own_go (T' := T32) (f' := (mkF m 25 #[oR b11a, oI 34, oR b32] [vI 34, vI 16, vI 0, vR b32, vI 0, vR b11a])) (fun _ k => own_alen X32 hx hZ e32 (PV13.ext E32) rfl rfl (hb hby d14_23) (own_e X32 tt 24 1 k rfl)) ?_
  obtain ⟨_, T33, Lc33, X33, hQ33, st33⟩ := own_outC (Jvm.LawKit.callS X32 hx (y := mn0) hown (mvT hZ (ow89 hw)) (mvT hZ (ow2 hw)) (mvT hZ (ow3 hw)) (mvT hZ (ow4 hw)) (by decide) (backOf (W := 4) (rm1a12 l Z a0 hw []  h32 n0 (oT Z0 E32.1) ) hZ (ow4 hw) (ow3 hw) (by decide) (by decide)) (g := (mkF m 25 #[oR b11a, oI 34, oR b32] [vI 34, vI 16, vI 0, vR b32, vI 0, vR b11a])) rfl (by rw [hml]; rfl) (argsL := [(.int (16 : Int32)), (.int (34 : Int32))]) (rest := [(.int (0 : Int32)), (.ref b32), (.int (0 : Int32)), (.ref b11a)]) (lenOf pd12 rfl) rfl (by show 2 * 0 + _ ≤ _; exact Nat.le_of_eq rfl) (hb hby d14_25) (fun _ _ => ⟨rfl, e32, (by decide : 1 + 0 ≤ _), (by decide : 34 + 0 ≤ _)⟩))
  obtain ⟨rfl, N33q, hh33⟩ := hQ33
  have N33 := Fr.app N0 N33q
  obtain ⟨_, X33, N33⟩ := own_hide X33 N33
  refine own_go (T' := T33) (f' := (mkF m 28 #[oR b11a, oI 34, oR b32] [vI 16, vI 0, vR b32, vI 0, vR b11a])) (fun _ k => st33 _ k) ?_
  obtain ⟨T34, h34, Lq34, X34, e34, N34, K34, V34, st34⟩ := cpA X33 hx hZ hown (ow90 hw) (ow93 hw) (ow91 hw) (ow92 hw) hh33 (PV13.ext E32) V_b32 (Or.inl ⟨rfl, rfl⟩) (sp := (0 : Int32)) (dp := (0 : Int32)) (nn := (16 : Int32)) (by decide) (by decide) (by decide) (by decide) (by decide) (us := own_ls0) rfl (Nat.le_of_ble_eq_true rfl) N33 n_b32 (g := (mkF m 28 #[oR b11a, oI 34, oR b32] [vI 16, vI 0, vR b32, vI 0, vR b11a])) rfl (by rw [hml]; rfl) rfl (hb hby d14_28) (by decide) (W := 0) (by show 2 * 0 + _ ≤ _; exact Nat.le_of_eq rfl) (by decide)
  have V34s : Arv Z h34 b32 k32 .byte (34 : Int32) own_ls2 (.int (0 : Int32)) := V34
  have KK34 : Keep h0 h34 [] := Keep.trans K32 K34 (allS (Or.inr sz_b32) all0)
  refine own_go (T' := T34) (f' := (mkF m 32 #[oR b11a, oI 34, oR b32] [vR b32])) (fun _ k => st34 _ (own_e X34 tt 31 1 k rfl)) ?_
  refine own_ret X34 (v := some (.ref b32)) (oN Br) Bs (fun fs hr => own_retA X34 hx Br rfl rfl (hb hby d14_32) hr) ?_ (by decide) (by decide)
  unfold Q14a11
  rw [e34]
  exact ⟨b32, k32, rfl, N34, KK34, n_b32, sz_b32, V34s, (EA32.keep K34)⟩
theorem pd27 : parseMethodDescriptor "([BI)[B" = some ⟨[(.array .byte), .int], some (.array .byte)⟩ := by decide +kernel
def own_t11 (pc : Nat) : Option (Instr × Nat) := bif Nat.ble pc 13 then (bif Nat.ble pc 9 then (bif Nat.ble pc 0 then (bif Nat.beq pc 0 then some (.aload_n 0, 1) else none) else (bif Nat.ble pc 5 then (bif Nat.beq pc 5 then some (.aload_n 0, 1) else none) else (bif Nat.beq pc 9 then some (.ishr, 1) else none))) else (bif Nat.ble pc 11 then (bif Nat.ble pc 10 then (bif Nat.beq pc 10 then some (.istore_n 2, 1) else none) else (bif Nat.beq pc 11 then some (.iload_n 1, 1) else none)) else (bif Nat.ble pc 12 then (bif Nat.beq pc 12 then some (.iload_n 2, 1) else none) else (bif Nat.beq pc 13 then some (.isub, 1) else none)))) else (bif Nat.ble pc 18 then (bif Nat.ble pc 14 then (bif Nat.beq pc 14 then some (.ifCond .le 24, 3) else none) else (bif Nat.ble pc 17 then (bif Nat.beq pc 17 then some (.aload_n 0, 1) else none) else (bif Nat.beq pc 18 then some (.aload_n 0, 1) else none))) else (bif Nat.ble pc 23 then (bif Nat.ble pc 22 then (bif Nat.beq pc 22 then some (.aload_n 0, 1) else none) else (bif Nat.beq pc 23 then some (.iload_n 1, 1) else none)) else (bif Nat.ble pc 27 then (bif Nat.beq pc 27 then some (.aload_n 0, 1) else none) else (bif Nat.beq pc 31 then some (.ishl, 1) else none))))
theorem own_ok11 : ∀ pc q, own_fetch 39 own_t11 pc = some q → decode jdk_68_method_9_code pc = .ok q := own_tab (by decide +kernel)
theorem d11_1 : decode jdk_68_method_9_code 1 = .ok (.getfield 15, 3) := by decide +kernel
theorem d11_4 : decode jdk_68_method_9_code 4 = .ok (.arraylength, 1) := by decide +kernel
theorem d11_6 : decode jdk_68_method_9_code 6 = .ok (.getfield 22, 3) := by decide +kernel
theorem d11_19 : decode jdk_68_method_9_code 19 = .ok (.getfield 15, 3) := by decide +kernel
theorem d11_24 : decode jdk_68_method_9_code 24 = .ok (.invokevirtual 104, 3) := by decide +kernel
theorem d11_28 : decode jdk_68_method_9_code 28 = .ok (.getfield 22, 3) := by decide +kernel
theorem d11_32 : decode jdk_68_method_9_code 32 = .ok (.invokestatic 108, 3) := by decide +kernel
theorem d11_35 : decode jdk_68_method_9_code 35 = .ok (.putfield 15, 3) := by decide +kernel
theorem d11_38 : decode jdk_68_method_9_code 38 = .ok (.return_, 1) := by decide +kernel
def Q11a7 (Z : State) (b2 : Addr) (h0 : Heap) (n0 : Nat) (v : Option Value) (h : Heap) (L : List Loc) : Prop := ∃ (b35a : Addr) (k35b : ClassId), v = none ∧ Fr n0 L ∧ Keep h0 h [b2] ∧ n0 ≤ b35a ∧ h0.size ≤ b35a ∧ oF0 Z h b2 (.ref b35a) ∧ oF1 Z h b2 (.int (0 : Int32)) ∧ oF2 Z h b2 (.int (0 : Int32)) ∧ Arv Z h b35a k35b .byte (34 : Int32) own_ls2 (.int (0 : Int32)) ∧ Exa Z h b35a "[B"
set_option maxRecDepth 65536 in
set_option maxHeartbeats 40000000 in
theorem rm11a7 (l : Launch) (Z : State) (a0 : Array Value) (hw : HW a0 Z) (ws : List Jvm.Cond) (b2 : Addr) (b11a : Addr) (k11b : ClassId) (h0 : Heap) (n0 : Nat) (Z0 : n0 ≤ h0.size) (PE9 : Exa Z h0 b2 "java/lang/StringBuilder") (PF10 : oF0 Z h0 b2 (.ref b11a)) (PF11 : oF1 Z h0 b2 (.int (0 : Int32))) (PF12 : oF2 Z h0 b2 (.int (0 : Int32))) (PV13 : Arv Z h0 b11a k11b .byte (16 : Int32) own_ls0 (.int (0 : Int32))) (n_b2 : n0 ≤ b2) :
    own_Met l mn11 jdk_68_method_9_code 3 none ws (oRm 3 1 34 48) #[(.ref b2), (.int (17 : Int32))] Z h0 (Q11a7 Z b2 h0 n0) := by
  refine own_met (own := "java/lang/AbstractStringBuilder") rfl (plainFor_of_name pn_3) ?_
  intro p e s m below meth c s₁ hx hby hml hZ hown hnm X0 e0 Br Bs
  have N0 := Fr.nil n0
  have tt := own_tt hx hby own_ok11
  show own_Ends p e below s _ _ _ s₁ (mkF m 0 #[oR b2, oI 17, oU] [])
  refine own_go (T' := s₁) (f' := (mkF m 1 #[oR b2, oI 17, oU] [vR b2])) (fun _ k => own_e X0 tt 0 1 k rfl) ?_
  obtain ⟨T21, X21, e21, st21⟩ := getF X0 hx hZ hown (host := "") (Or.inl (ow33 hw)) Via.refl e0 PF10 (g := (mkF m 1 #[oR b2, oI 17, oU] [vR b2])) rfl rfl (hb hby d11_1)
  refine own_go (T' := T21) (f' := (mkF m 6 #[oR b2, oI 17, oU] [vR b2, vI 16])) (fun _ k => st21 _ (own_alen X21 hx hZ e21 PV13 rfl rfl (hb hby d11_4) (own_e X21 tt 5 1 k rfl))) ?_
  obtain ⟨T22, X22, e22, st22⟩ := getF X21 hx hZ hown (host := "") (Or.inl (ow35 hw)) Via.refl e21 PF11 (g := (mkF m 6 #[oR b2, oI 17, oU] [vR b2, vI 16])) rfl rfl (hb hby d11_6)
  refine own_go (T' := T22) (f' := (mkF m 19 #[oR b2, oI 17, oI 16] [vR b2, vR b2])) (fun _ k => st22 _ (own_e X22 tt 9 8 k rfl)) ?_
  obtain ⟨T23, X23, e23, st23⟩ := getF X22 hx hZ hown (host := "") (Or.inl (ow33 hw)) Via.refl e22 PF10 (g := (mkF m 19 #[oR b2, oI 17, oI 16] [vR b2, vR b2])) rfl rfl (hb hby d11_19)
  refine own_go (T' := T23) (f' := (mkF m 24 #[oR b2, oI 17, oI 16] [vI 17, vR b2, vR b11a, vR b2])) (fun _ k => st23 _ (own_e X23 tt 22 2 k rfl)) ?_
  obtain ⟨cq30, q30, q30'⟩ := PE9.cell
  obtain ⟨_, T30, Lc30, X30, hQ30, st30⟩ := own_out (X23.privateBack hx (y := mn9) hown (mvT hZ (ow73 hw)) (mvT hZ (ow74 hw)) (own_selp (mvT hZ (ow76 hw)) (Cond.privateMethod_at (mvP hZ (ow75 hw) (args := #[]))) (mvT hZ (ow74 hw)) (by decide)) (Cond.privateMethod_at (mvP hZ (ow75 hw) (args := #[]))) (mvT hZ (ow77 hw)) (by decide) (backOf (W := 2) (rm12a8 l Z a0 hw [] b2 b11a k11b h0 n0 Z0 PF10 PF11 PV13) hZ (ow77 hw) (ow25 hw) (by decide) (by decide)) (g := (mkF m 24 #[oR b2, oI 17, oI 16] [vI 17, vR b2, vR b11a, vR b2])) rfl (by rw [hml]; rfl) (Steps.refl _) (a := b2) (by rw [e23]; exact q30) q30' (argsL := [(.int (17 : Int32))]) (rest := [(.ref b11a), (.ref b2)]) (lenOf pd8 rfl) rfl (by show 2 * 0 + _ ≤ _; exact Nat.le_of_eq rfl) (hb hby d11_24) (fun _ _ => ⟨rfl, e23, (by decide : 0 + 0 ≤ _), (by decide : 0 + 0 ≤ _)⟩))
  obtain ⟨rfl, N30q, hh30⟩ := hQ30
  have N30 := Fr.app N0 N30q
  obtain ⟨_, X30, N30⟩ := own_hide X30 N30
  refine own_go (T' := T30) (f' := (mkF m 28 #[oR b2, oI 17, oI 16] [vR b2, vI 34, vR b11a, vR b2])) (fun _ k => st30.trans (own_e X30 tt 27 1 k rfl)) ?_
  obtain ⟨T31, X31, e31, st31⟩ := getF X30 hx hZ hown (host := "") (Or.inl (ow35 hw)) Via.refl hh30 PF11 (g := (mkF m 28 #[oR b2, oI 17, oI 16] [vR b2, vI 34, vR b11a, vR b2])) rfl rfl (hb hby d11_28)
  refine own_go (T' := T31) (f' := (mkF m 32 #[oR b2, oI 17, oI 16] [vI 34, vR b11a, vR b2])) (fun _ k => st31 _ (own_e X31 tt 31 1 k rfl)) ?_
  obtain ⟨_, T35, Lc35, X35, hQ35, st35⟩ := own_outC (Jvm.LawKit.callS X31 hx (y := mn10) hown (mvT hZ (ow85 hw)) (mvT hZ (ow86 hw)) (mvT hZ (ow87 hw)) (mvT hZ (ow88 hw)) (by decide) (backOf (W := 1) (rm14a11 l Z a0 hw [] b11a k11b h0 n0 Z0 PV13) hZ (ow88 hw) (ow87 hw) (by decide) (by decide)) (g := (mkF m 32 #[oR b2, oI 17, oI 16] [vI 34, vR b11a, vR b2])) rfl (by rw [hml]; rfl) (argsL := [(.ref b11a), (.int (34 : Int32))]) (rest := [(.ref b2)]) (lenOf pd27 rfl) rfl (by show 2 * 0 + _ ≤ _; exact Nat.le_of_eq rfl) (hb hby d11_32) (fun _ _ => ⟨rfl, e31, (by decide : 0 + 1 ≤ _), (by decide : 0 + 34 ≤ _)⟩))
  obtain ⟨b35a, k35b, rfl, N35q, K35, n_b35a, sg_b35a, g35_0, g35_1⟩ := hQ35
  have N35 := Fr.app N30 N35q
  have sz_b35a := oT (Keep.refl h0 [b2]).1 sg_b35a
  have eK35 : T35.heap = T35.heap := rfl
  have KK35 : Keep h0 T35.heap [b2] := Keep.trans (Keep.refl h0 [b2]) K35 all0
  obtain ⟨_, X35, N35⟩ := own_hide X35 N35
  refine own_go (T' := T35) (f' := (mkF m 35 #[oR b2, oI 17, oI 16] [vR b35a, vR b2])) (fun _ k => st35 _ k) ?_
  obtain ⟨T36, h36, X36, e36, W36, st36⟩ := putF X35 hx hZ hown (host := "") (Or.inl (ow33 hw)) Via.refl eK35 (PF10.keep K35 nin0) (PE9.keep K35) (Or.inl (ow34 hw)) (ow16 hw) (ty := (.array .byte)) (by decide) rfl rfl (g := (mkF m 35 #[oR b2, oI 17, oI 16] [vR b35a, vR b2])) rfl rfl (hb hby d11_35)
  have Fw36 := Fld.same W36 (PF10.keep K35 nin0)
  have K36 : Keep h0 h36 [b2] := KK35.wr W36 (Or.inl (List.mem_of_getElem? (i := 0) rfl))
  have N36 := Fr.snoc X36 N35 n_b2
  refine own_go (T' := T36) (f' := (mkF m 38 #[oR b2, oI 17, oI 16] [])) (fun _ k => st36 _ k) ?_
  refine own_ret X36 (v := none) (fun _ => rfl) Bs (fun fs hr => X36.returnOut hx Br (hb hby d11_38) hr) ?_ (by decide) (by decide)
  unfold Q11a7
  rw [e36]
  exact ⟨b35a, k35b, rfl, N36, K36, n_b35a, sz_b35a, Fw36, ((PF11.keep K35 nin0).other W36 (Or.inr (sn_36_34 hw))), ((PF12.keep K35 nin0).other W36 (Or.inr (sn_67_34 hw))), (g35_0.other W36 (oM PE9.lt sz_b35a)), (g35_1.wr W36)⟩
def own_t16 (pc : Nat) : Option (Instr × Nat) := bif Nat.ble pc 6 then (bif Nat.ble pc 3 then (bif Nat.beq pc 3 then some (.ifCond .eq 18, 3) else none) else (bif Nat.beq pc 6 then some (.aload_n 0, 1) else none)) else (bif Nat.ble pc 10 then (bif Nat.beq pc 10 then some (.aload_n 1, 1) else none) else (bif Nat.beq pc 14 then some (.if_icmp .eq 7, 3) else none))
theorem own_ok16 : ∀ pc q, own_fetch 22 own_t16 pc = some q → decode jdk_68_method_71_code pc = .ok q := own_tab (by decide +kernel)
theorem d16_0 : decode jdk_68_method_71_code 0 = .ok (.getstatic 18, 3) := by decide +kernel
theorem d16_3 : decode jdk_68_method_71_code 3 = .ok (.ifCond .eq 18, 3) := by decide +kernel
theorem d16_7 : decode jdk_68_method_71_code 7 = .ok (.getfield 22, 3) := by decide +kernel
theorem d16_11 : decode jdk_68_method_71_code 11 = .ok (.invokevirtual 40, 3) := by decide +kernel
theorem d16_21 : decode jdk_68_method_71_code 21 = .ok (.return_, 1) := by decide +kernel
def Q16a14 (Z : State)  (h0 : Heap) (n0 : Nat) (v : Option Value) (h : Heap) (L : List Loc) : Prop := v = none ∧ Fr n0 L ∧ h = h0
set_option maxRecDepth 65536 in
set_option maxHeartbeats 40000000 in
theorem rm16a14 (l : Launch) (Z : State) (a0 : Array Value) (hw : HW a0 Z) (ws : List Jvm.Cond) (b2 : Addr) (a14 : Addr) (cs : Int32) (h0 : Heap) (n0 : Nat) (Z0 : n0 ≤ h0.size) (PS0 : Sta Z h0 "java/lang/String" "COMPACT_STRINGS" "Z" (.int cs)) (PF11 : oF1 Z h0 b2 (.int (0 : Int32))) (PE15 : Exa Z h0 a14 "java/lang/String") (PF16 : oF3 Z h0 a14 (.int (0 : Int32))) (PP0 : ¬ (cs = (0 : Int32))) :
    own_Met l mn12 jdk_68_method_71_code 2 none ws (oRm 1 0 0 13) #[(.ref b2), (.ref a14)] Z h0 (Q16a14 Z  h0 n0) := by
  refine own_met (own := "java/lang/AbstractStringBuilder") rfl (plainFor_of_name pn_3) ?_
  intro p e s m below meth c s₁ hx hby hml hZ hown hnm X0 e0 Br Bs
  have N0 := Fr.nil n0
  have tt := own_tt hx hby own_ok16
  show own_Ends p e below s _ _ _ s₁ (mkF m 0 #[oR b2, oR a14] [])
  obtain ⟨T39, X39, e39, st39⟩ := getS2 X0 hx hZ hown (host := "") (Or.inl (ow30 hw)) Via.refl e0 PS0 (g := (mkF m 0 #[oR b2, oR a14] [])) rfl (hb hby d16_0)
  refine own_go (T' := T39) (f' := (mkF m 7 #[oR b2, oR a14] [vR b2])) (fun _ k => st39 _ (XS.ifNo X39.here hx rfl (hb hby d16_3) rfl ((if0 _ _).trans (feq PP0).1) (own_e X39 tt 6 1 k rfl))) ?_
  obtain ⟨T40, X40, e40, st40⟩ := getF X39 hx hZ hown (host := "") (Or.inl (ow35 hw)) Via.refl e39 PF11 (g := (mkF m 7 #[oR b2, oR a14] [vR b2])) rfl rfl (hb hby d16_7)
  refine own_go (T' := T40) (f' := (mkF m 11 #[oR b2, oR a14] [vR a14, vI 0])) (fun _ k => st40 _ (own_e X40 tt 10 1 k rfl)) ?_
  obtain ⟨cq41, kq41, q41a, q41b, q41c⟩ := isOf hZ e40 PE15
  obtain ⟨_, T41, Lc41, X41, hQ41, st41⟩ := own_out (X40.virtualBack hx (y := mn6) (z := mn6) hown (mvT hZ (ow104 hw)) (mvT hZ (ow60 hw)) (notFace_of_selects (args := #[]) (mvT hZ (ow62 hw))) (mvT hZ (ow62 hw)) (mvT hZ (ow61 hw)) (by decide) (backOf (W := 1) (rm10a6 l Z a0 hw [] a14 cs h0 n0 Z0 PS0 PF16 PP0) hZ (ow63 hw) (ow31 hw) (by decide) (by decide)) q41a q41c (g := (mkF m 11 #[oR b2, oR a14] [vR a14, vI 0])) rfl (by rw [hml]; rfl) (Steps.refl _) (argsL := []) (rest := [(.int (0 : Int32))]) (lenOf pd0 rfl) rfl (by show 2 * 0 + _ ≤ _; exact Nat.le_of_eq rfl) (hb hby d16_11) (fun _ _ => ⟨rfl, e40, (by decide : 0 + 0 ≤ _), (by decide : 0 + 0 ≤ _)⟩))
  obtain ⟨rfl, N41q, hh41⟩ := hQ41
  have N41 := Fr.app N0 N41q
  obtain ⟨_, X41, N41⟩ := own_hide X41 N41
  refine own_go (T' := T41) (f' := (mkF m 21 #[oR b2, oR a14] [])) (fun _ k => st41.trans (own_e X41 tt 14 1 k rfl)) ?_
  refine own_ret X41 (v := none) (fun _ => rfl) Bs (fun fs hr => X41.returnOut hx Br (hb hby d16_21) hr) ?_ (by decide) (by decide)
  unfold Q16a14
  exact ⟨rfl, N41, hh41⟩
theorem pd24 : parseMethodDescriptor "(Ljava/lang/String;)V" = some ⟨[(.object "java/lang/String")], none⟩ := by decide +kernel
def own_t17 (pc : Nat) : Option (Instr × Nat) := bif Nat.ble pc 12 then (bif Nat.ble pc 4 then (bif Nat.ble pc 0 then (bif Nat.beq pc 0 then some (.aload_n 0, 1) else none) else (bif Nat.beq pc 4 then some (.iload_n 3, 1) else none)) else (bif Nat.ble pc 5 then (bif Nat.beq pc 5 then some (.if_icmp .ne 23, 3) else none) else (bif Nat.ble pc 8 then (bif Nat.beq pc 8 then some (.aload_n 0, 1) else none) else (bif Nat.beq pc 12 then some (.iconst 0, 1) else none)))) else (bif Nat.ble pc 15 then (bif Nat.ble pc 13 then (bif Nat.beq pc 13 then some (.aload_n 1, 1) else none) else (bif Nat.ble pc 14 then (bif Nat.beq pc 14 then some (.iload_n 2, 1) else none) else (bif Nat.beq pc 15 then some (.iload_n 3, 1) else none))) else (bif Nat.ble pc 16 then (bif Nat.beq pc 16 then some (.ishl, 1) else none) else (bif Nat.ble pc 17 then (bif Nat.beq pc 17 then some (.aload_n 0, 1) else none) else (bif Nat.beq pc 25 then some (.goto 18, 3) else none))))
theorem own_ok17 : ∀ pc q, own_fetch 44 own_t17 pc = some q → decode jdk_42_method_147_code pc = .ok q := own_tab (by decide +kernel)
theorem d17_1 : decode jdk_42_method_147_code 1 = .ok (.invokevirtual 335, 3) := by decide +kernel
theorem d17_9 : decode jdk_42_method_147_code 9 = .ok (.getfield 9, 3) := by decide +kernel
theorem d17_18 : decode jdk_42_method_147_code 18 = .ok (.getfield 9, 3) := by decide +kernel
theorem d17_21 : decode jdk_42_method_147_code 21 = .ok (.arraylength, 1) := by decide +kernel
theorem d17_22 : decode jdk_42_method_147_code 22 = .ok (.invokestatic 212, 3) := by decide +kernel
theorem d17_43 : decode jdk_42_method_147_code 43 = .ok (.return_, 1) := by decide +kernel
def Q17a15 (Z : State) (b37a : Addr) (k37b : ClassId) (h0 : Heap) (n0 : Nat) (v : Option Value) (h : Heap) (L : List Loc) : Prop := v = none ∧ Fr n0 L ∧ Keep h0 h [b37a] ∧ Arv Z h b37a k37b .byte (34 : Int32) own_ls3 (.int (0 : Int32))
set_option maxRecDepth 65536 in
set_option maxHeartbeats 40000000 in
theorem rm17a15 (l : Launch) (Z : State) (a0 : Array Value) (hw : HW a0 Z) (ws : List Jvm.Cond) (a14 : Addr) (b37a : Addr) (cs : Int32) (b14 : Addr) (kc14 : ClassId) (k37b : ClassId) (h0 : Heap) (n0 : Nat) (Z0 : n0 ≤ h0.size) (PS0 : Sta Z h0 "java/lang/String" "COMPACT_STRINGS" "Z" (.int cs)) (PE15 : Exa Z h0 a14 "java/lang/String") (PF16 : oF3 Z h0 a14 (.int (0 : Int32))) (PF17 : oF4 Z h0 a14 (.ref b14)) (PV18 : Arv Z h0 b14 kc14 .byte (17 : Int32) own_ls1 (.int (0 : Int32))) (PV19 : Arv Z h0 b37a k37b .byte (34 : Int32) own_ls2 (.int (0 : Int32))) (PP0 : ¬ (cs = (0 : Int32))) (n_b37a : n0 ≤ b37a) :
    own_Met l mn13 jdk_42_method_147_code 4 none ws (oRm 1 0 0 18) #[(.ref a14), (.ref b37a), (.int (0 : Int32)), (.int (0 : Int32))] Z h0 (Q17a15 Z b37a k37b h0 n0) := by
  refine own_met (own := "java/lang/String") rfl (plainFor_of_name pn_7) ?_
  intro p e s m below meth c s₁ hx hby hml hZ hown hnm X0 e0 Br Bs
  have N0 := Fr.nil n0
  have tt := own_tt hx hby own_ok17
  show own_Ends p e below s _ _ _ s₁ (mkF m 0 #[oR a14, oR b37a, oI 0, oI 0] [])
  refine own_go (T' := s₁) (f' := (mkF m 1 #[oR a14, oR b37a, oI 0, oI 0] [vR a14])) (fun _ k => own_e X0 tt 0 1 k rfl) ?_
  obtain ⟨cq45, kq45, q45a, q45b, q45c⟩ := isOf hZ e0 PE15
  obtain ⟨_, T45, Lc45, X45, hQ45, st45⟩ := own_out (X0.virtualBack hx (y := mn6) (z := mn6) hown (mvT hZ (ow59 hw)) (mvT hZ (ow60 hw)) (notFace_of_selects (args := #[]) (mvT hZ (ow62 hw))) (mvT hZ (ow62 hw)) (mvT hZ (ow61 hw)) (by decide) (backOf (W := 0) (rm10a6 l Z a0 hw [] a14 cs h0 n0 Z0 PS0 PF16 PP0) hZ (ow63 hw) (ow31 hw) (by decide) (by decide)) q45a q45c (g := (mkF m 1 #[oR a14, oR b37a, oI 0, oI 0] [vR a14])) rfl (by rw [hml]; rfl) (Steps.refl _) (argsL := []) (rest := []) (lenOf pd0 rfl) rfl (by show 2 * 0 + _ ≤ _; exact Nat.le_of_eq rfl) (hb hby d17_1) (fun _ _ => ⟨rfl, e0, (by decide : 0 + 0 ≤ _), (by decide : 0 + 0 ≤ _)⟩))
  obtain ⟨rfl, N45q, hh45⟩ := hQ45
  have N45 := Fr.app N0 N45q
  obtain ⟨_, X45, N45⟩ := own_hide X45 N45
  refine own_go (T' := T45) (f' := (mkF m 9 #[oR a14, oR b37a, oI 0, oI 0] [vR a14])) (fun _ k => st45.trans (own_e X45 tt 4 3 k rfl)) ?_
  obtain ⟨T46, X46, e46, st46⟩ := getF X45 hx hZ hown (host := "") (Or.inl (ow58 hw)) Via.refl hh45 PF17 (g := (mkF m 9 #[oR a14, oR b37a, oI 0, oI 0] [vR a14])) rfl rfl (hb hby d17_9)
  refine own_go (T' := T46) (f' := (mkF m 18 #[oR a14, oR b37a, oI 0, oI 0] [vR a14, vI 0, vR b37a, vI 0, vR b14])) (fun _ k => st46 _ (own_e X46 tt 12 6 k rfl)) ?_
  obtain ⟨T47, X47, e47, st47⟩ := getF X46 hx hZ hown (host := "") (Or.inl (ow58 hw)) Via.refl e46 PF17 (g := (mkF m 18 #[oR a14, oR b37a, oI 0, oI 0] [vR a14, vI 0, vR b37a, vI 0, vR b14])) rfl rfl (hb hby d17_18)
  refine own_go (T' := T47) (f' := (mkF m 22 #[oR a14, oR b37a, oI 0, oI 0] [vI 17, vI 0, vR b37a, vI 0, vR b14])) (fun _ k => st47 _ (own_alen X47 hx hZ e47 PV18 rfl rfl (hb hby d17_21) k)) ?_
  obtain ⟨T48, h48, Lq48, X48, e48, N48, K48, V48, st48⟩ := cpA X47 hx hZ hown (ow110 hw) (ow93 hw) (ow91 hw) (ow92 hw) e47 PV18 PV19 (Or.inl ⟨rfl, rfl⟩) (sp := (0 : Int32)) (dp := (0 : Int32)) (nn := (17 : Int32)) (by decide) (by decide) (by decide) (by decide) (by decide) (us := own_ls1) rfl (Nat.le_of_ble_eq_true rfl) N45 n_b37a (g := (mkF m 22 #[oR a14, oR b37a, oI 0, oI 0] [vI 17, vI 0, vR b37a, vI 0, vR b14])) rfl (by rw [hml]; rfl) rfl (hb hby d17_22) (by decide) (W := 0) (by show 2 * 0 + _ ≤ _; exact Nat.le_of_eq rfl) (by decide)
  have V48s : Arv Z h48 b37a k37b .byte (34 : Int32) own_ls3 (.int (0 : Int32)) := V48
  have KK48 : Keep h0 h48 [b37a] := Keep.trans (Keep.refl h0 [b37a]) K48 (allS (Or.inl (List.mem_of_getElem? (i := 0) rfl)) all0)
  refine own_go (T' := T48) (f' := (mkF m 43 #[oR a14, oR b37a, oI 0, oI 0] [])) (fun _ k => st48 _ (own_e X48 tt 25 1 k rfl)) ?_
  refine own_ret X48 (v := none) (fun _ => rfl) Bs (fun fs hr => X48.returnOut hx Br (hb hby d17_43) hr) ?_ (by decide) (by decide)
  unfold Q17a15
  rw [e48]
  exact ⟨rfl, N48, KK48, V48s⟩
theorem pd28 : parseMethodDescriptor "([BIB)V" = some ⟨[(.array .byte), .int, .byte], none⟩ := by decide +kernel
def own_t15 (pc : Nat) : Option (Instr × Nat) := bif Nat.ble pc 5 then (bif Nat.ble pc 0 then (bif Nat.beq pc 0 then some (.aload_n 0, 1) else none) else (bif Nat.ble pc 1 then (bif Nat.beq pc 1 then some (.aload_n 2, 1) else none) else (bif Nat.beq pc 5 then some (.aload_n 2, 1) else none))) else (bif Nat.ble pc 6 then (bif Nat.beq pc 6 then some (.aload_n 0, 1) else none) else (bif Nat.ble pc 10 then (bif Nat.beq pc 10 then some (.iload_n 1, 1) else none) else (bif Nat.beq pc 11 then some (.aload_n 0, 1) else none)))
theorem own_ok15 : ∀ pc q, own_fetch 19 own_t15 pc = some q → decode jdk_68_method_73_code pc = .ok q := own_tab (by decide +kernel)
theorem d15_2 : decode jdk_68_method_73_code 2 = .ok (.invokevirtual 397, 3) := by decide +kernel
theorem d15_7 : decode jdk_68_method_73_code 7 = .ok (.getfield 15, 3) := by decide +kernel
theorem d15_12 : decode jdk_68_method_73_code 12 = .ok (.getfield 22, 3) := by decide +kernel
theorem d15_15 : decode jdk_68_method_73_code 15 = .ok (.invokevirtual 399, 3) := by decide +kernel
theorem d15_18 : decode jdk_68_method_73_code 18 = .ok (.return_, 1) := by decide +kernel
def Q15a13 (Z : State) (b37a : Addr) (k37b : ClassId) (h0 : Heap) (n0 : Nat) (v : Option Value) (h : Heap) (L : List Loc) : Prop := v = none ∧ Fr n0 L ∧ Keep h0 h [b37a] ∧ Arv Z h b37a k37b .byte (34 : Int32) own_ls3 (.int (0 : Int32))
set_option maxRecDepth 65536 in
set_option maxHeartbeats 40000000 in
theorem rm15a13 (l : Launch) (Z : State) (a0 : Array Value) (hw : HW a0 Z) (ws : List Jvm.Cond) (b2 : Addr) (a14 : Addr) (cs : Int32) (b37a : Addr) (b14 : Addr) (kc14 : ClassId) (k37b : ClassId) (h0 : Heap) (n0 : Nat) (Z0 : n0 ≤ h0.size) (PS0 : Sta Z h0 "java/lang/String" "COMPACT_STRINGS" "Z" (.int cs)) (PE9 : Exa Z h0 b2 "java/lang/StringBuilder") (PF10 : oF0 Z h0 b2 (.ref b37a)) (PF11 : oF1 Z h0 b2 (.int (0 : Int32))) (PE15 : Exa Z h0 a14 "java/lang/String") (PF16 : oF3 Z h0 a14 (.int (0 : Int32))) (PF17 : oF4 Z h0 a14 (.ref b14)) (PV18 : Arv Z h0 b14 kc14 .byte (17 : Int32) own_ls1 (.int (0 : Int32))) (PV19 : Arv Z h0 b37a k37b .byte (34 : Int32) own_ls2 (.int (0 : Int32))) (PP0 : ¬ (cs = (0 : Int32))) (n_b37a : n0 ≤ b37a) :
    own_Met l mn14 jdk_68_method_73_code 3 none ws (oRm 2 0 0 33) #[(.ref b2), (.int (0 : Int32)), (.ref a14)] Z h0 (Q15a13 Z b37a k37b h0 n0) := by
  refine own_met (own := "java/lang/AbstractStringBuilder") rfl (plainFor_of_name pn_3) ?_
  intro p e s m below meth c s₁ hx hby hml hZ hown hnm X0 e0 Br Bs
  have N0 := Fr.nil n0
  have tt := own_tt hx hby own_ok15
  show own_Ends p e below s _ _ _ s₁ (mkF m 0 #[oR b2, oI 0, oR a14] [])
  refine own_go (T' := s₁) (f' := (mkF m 2 #[oR b2, oI 0, oR a14] [vR a14, vR b2])) (fun _ k => own_e X0 tt 0 2 k rfl) ?_
  obtain ⟨cq42, q42, q42'⟩ := PE9.cell
  obtain ⟨_, T42, Lc42, X42, hQ42, st42⟩ := own_out (X0.privateBack hx (y := mn12) hown (mvT hZ (ow99 hw)) (mvT hZ (ow100 hw)) (own_selp (mvT hZ (ow102 hw)) (Cond.privateMethod_at (mvP hZ (ow101 hw) (args := #[]))) (mvT hZ (ow100 hw)) (by decide)) (Cond.privateMethod_at (mvP hZ (ow101 hw) (args := #[]))) (mvT hZ (ow103 hw)) (by decide) (backOf (W := 0) (rm16a14 l Z a0 hw [] b2 a14 cs h0 n0 Z0 PS0 PF11 PE15 PF16 PP0) hZ (ow103 hw) (ow25 hw) (by decide) (by decide)) (g := (mkF m 2 #[oR b2, oI 0, oR a14] [vR a14, vR b2])) rfl (by rw [hml]; rfl) (Steps.refl _) (a := b2) (by rw [e0]; exact q42) q42' (argsL := [(.ref a14)]) (rest := []) (lenOf pd24 rfl) rfl (by show 2 * 0 + _ ≤ _; exact Nat.le_of_eq rfl) (hb hby d15_2) (fun _ _ => ⟨rfl, e0, (by decide : 0 + 0 ≤ _), (by decide : 0 + 0 ≤ _)⟩))
  obtain ⟨rfl, N42q, hh42⟩ := hQ42
  have N42 := Fr.app N0 N42q
  obtain ⟨_, X42, N42⟩ := own_hide X42 N42
  refine own_go (T' := T42) (f' := (mkF m 7 #[oR b2, oI 0, oR a14] [vR b2, vR a14])) (fun _ k => st42.trans (own_e X42 tt 5 2 k rfl)) ?_
  obtain ⟨T43, X43, e43, st43⟩ := getF X42 hx hZ hown (host := "") (Or.inl (ow33 hw)) Via.refl hh42 PF10 (g := (mkF m 7 #[oR b2, oI 0, oR a14] [vR b2, vR a14])) rfl rfl (hb hby d15_7)
  refine own_go (T' := T43) (f' := (mkF m 12 #[oR b2, oI 0, oR a14] [vR b2, vI 0, vR b37a, vR a14])) (fun _ k => st43 _ (own_e X43 tt 10 2 k rfl)) ?_
  obtain ⟨T44, X44, e44, st44⟩ := getF X43 hx hZ hown (host := "") (Or.inl (ow35 hw)) Via.refl e43 PF11 (g := (mkF m 12 #[oR b2, oI 0, oR a14] [vR b2, vI 0, vR b37a, vR a14])) rfl rfl (hb hby d15_12)
  refine own_go (T' := T44) (f' := (mkF m 15 #[oR b2, oI 0, oR a14] [vI 0, vI 0, vR b37a, vR a14])) (fun _ k => st44 _ k) ?_
  obtain ⟨cq49, kq49, q49a, q49b, q49c⟩ := isOf hZ e44 PE15
  obtain ⟨_, T49, Lc49, X49, hQ49, st49⟩ := own_out (X44.virtualBack hx (y := mn13) (z := mn13) hown (mvT hZ (ow105 hw)) (mvT hZ (ow106 hw)) (notFace_of_selects (args := #[]) (mvT hZ (ow108 hw))) (mvT hZ (ow108 hw)) (mvT hZ (ow107 hw)) (by decide) (backOf (W := 0) (rm17a15 l Z a0 hw [] a14 b37a cs b14 kc14 k37b h0 n0 Z0 PS0 PE15 PF16 PF17 PV18 PV19 PP0 n_b37a) hZ (ow109 hw) (ow31 hw) (by decide) (by decide)) q49a q49c (g := (mkF m 15 #[oR b2, oI 0, oR a14] [vI 0, vI 0, vR b37a, vR a14])) rfl (by rw [hml]; rfl) (Steps.refl _) (argsL := [(.ref b37a), (.int (0 : Int32)), (.int (0 : Int32))]) (rest := []) (lenOf pd28 rfl) rfl (by show 2 * 0 + _ ≤ _; exact Nat.le_of_eq rfl) (hb hby d15_15) (fun _ _ => ⟨rfl, e44, (by decide : 0 + 0 ≤ _), (by decide : 0 + 0 ≤ _)⟩))
  obtain ⟨rfl, N49q, K49, g49_0⟩ := hQ49
  have N49 := Fr.app N42 N49q
  have eK49 : T49.heap = T49.heap := rfl
  have KK49 : Keep h0 T49.heap [b37a] := Keep.trans (Keep.refl h0 [b37a]) K49 (allS (Or.inl (List.mem_of_getElem? (i := 0) rfl)) all0)
  obtain ⟨_, X49, N49⟩ := own_hide X49 N49
  refine own_go (T' := T49) (f' := (mkF m 18 #[oR b2, oI 0, oR a14] [])) (fun _ k => st49.trans k) ?_
  refine own_ret X49 (v := none) (fun _ => rfl) Bs (fun fs hr => X49.returnOut hx Br (hb hby d15_18) hr) ?_ (by decide) (by decide)
  unfold Q15a13
  rw [eK49]
  exact ⟨rfl, N49, KK49, g49_0⟩
theorem pd18 : parseMethodDescriptor "(ILjava/lang/String;)V" = some ⟨[.int, (.object "java/lang/String")], none⟩ := by decide +kernel
def own_t8 (pc : Nat) : Option (Instr × Nat) := bif Nat.ble pc 20 then (bif Nat.ble pc 13 then (bif Nat.ble pc 1 then (bif Nat.ble pc 0 then (bif Nat.beq pc 0 then some (.aload_n 1, 1) else none) else (bif Nat.beq pc 1 then some (.ifnonnull 8, 3) else none)) else (bif Nat.ble pc 9 then (bif Nat.beq pc 9 then some (.aload_n 1, 1) else none) else (bif Nat.beq pc 13 then some (.istore_n 2, 1) else none))) else (bif Nat.ble pc 15 then (bif Nat.ble pc 14 then (bif Nat.beq pc 14 then some (.aload_n 0, 1) else none) else (bif Nat.beq pc 15 then some (.aload_n 0, 1) else none)) else (bif Nat.ble pc 19 then (bif Nat.beq pc 19 then some (.iload_n 2, 1) else none) else (bif Nat.beq pc 20 then some (.iadd, 1) else none)))) else (bif Nat.ble pc 33 then (bif Nat.ble pc 25 then (bif Nat.ble pc 24 then (bif Nat.beq pc 24 then some (.aload_n 0, 1) else none) else (bif Nat.beq pc 25 then some (.aload_n 0, 1) else none)) else (bif Nat.ble pc 29 then (bif Nat.beq pc 29 then some (.aload_n 1, 1) else none) else (bif Nat.beq pc 33 then some (.aload_n 0, 1) else none))) else (bif Nat.ble pc 38 then (bif Nat.ble pc 34 then (bif Nat.beq pc 34 then some (.dup, 1) else none) else (bif Nat.beq pc 38 then some (.iload_n 2, 1) else none)) else (bif Nat.ble pc 39 then (bif Nat.beq pc 39 then some (.iadd, 1) else none) else (bif Nat.beq pc 43 then some (.aload_n 0, 1) else none))))
theorem own_ok8 : ∀ pc q, own_fetch 45 own_t8 pc = some q → decode jdk_68_method_22_code pc = .ok q := own_tab (by decide +kernel)
theorem d8_10 : decode jdk_68_method_22_code 10 = .ok (.invokevirtual 32, 3) := by decide +kernel
theorem d8_16 : decode jdk_68_method_22_code 16 = .ok (.getfield 79, 3) := by decide +kernel
theorem d8_21 : decode jdk_68_method_22_code 21 = .ok (.invokevirtual 100, 3) := by decide +kernel
theorem d8_26 : decode jdk_68_method_22_code 26 = .ok (.getfield 79, 3) := by decide +kernel
theorem d8_30 : decode jdk_68_method_22_code 30 = .ok (.invokevirtual 208, 3) := by decide +kernel
theorem d8_35 : decode jdk_68_method_22_code 35 = .ok (.getfield 79, 3) := by decide +kernel
theorem d8_40 : decode jdk_68_method_22_code 40 = .ok (.putfield 79, 3) := by decide +kernel
theorem d8_44 : decode jdk_68_method_22_code 44 = .ok (.areturn, 1) := by decide +kernel
def Q8a4 (Z : State) (b2 : Addr) (h0 : Heap) (n0 : Nat) (v : Option Value) (h : Heap) (L : List Loc) : Prop := ∃ (b37a : Addr) (k37b : ClassId), v = some (.ref b2) ∧ Fr n0 L ∧ Keep h0 h [b2] ∧ n0 ≤ b37a ∧ h0.size ≤ b37a ∧ oF0 Z h b2 (.ref b37a) ∧ oF1 Z h b2 (.int (0 : Int32)) ∧ oF2 Z h b2 (.int (17 : Int32)) ∧ Arv Z h b37a k37b .byte (34 : Int32) own_ls3 (.int (0 : Int32)) ∧ Exa Z h b37a "[B"
set_option maxRecDepth 65536 in
set_option maxHeartbeats 40000000 in
theorem rm8a4 (l : Launch) (Z : State) (a0 : Array Value) (hw : HW a0 Z) (ws : List Jvm.Cond) (b2 : Addr) (a14 : Addr) (cs : Int32) (b11a : Addr) (k11b : ClassId) (b14 : Addr) (kc14 : ClassId) (h0 : Heap) (n0 : Nat) (Z0 : n0 ≤ h0.size) (PS0 : Sta Z h0 "java/lang/String" "COMPACT_STRINGS" "Z" (.int cs)) (PE9 : Exa Z h0 b2 "java/lang/StringBuilder") (PF10 : oF0 Z h0 b2 (.ref b11a)) (PF11 : oF1 Z h0 b2 (.int (0 : Int32))) (PF12 : oF2 Z h0 b2 (.int (0 : Int32))) (PV13 : Arv Z h0 b11a k11b .byte (16 : Int32) own_ls0 (.int (0 : Int32))) (PE15 : Exa Z h0 a14 "java/lang/String") (PF16 : oF3 Z h0 a14 (.int (0 : Int32))) (PF17 : oF4 Z h0 a14 (.ref b14)) (PV18 : Arv Z h0 b14 kc14 .byte (17 : Int32) own_ls1 (.int (0 : Int32))) (PP0 : ¬ (cs = (0 : Int32))) (ne_a14_b2 : a14 ≠ b2) (ne_b14_b2 : b14 ≠ b2) (n_b2 : n0 ≤ b2) :
    own_Met l mn15 jdk_68_method_22_code 3 (some (.object "java/lang/AbstractStringBuilder")) ws (oRm 4 1 34 62) #[(.ref b2), (.ref a14)] Z h0 (Q8a4 Z b2 h0 n0) := by
  refine own_met (own := "java/lang/AbstractStringBuilder") rfl (plainFor_of_name pn_3) ?_
  intro p e s m below meth c s₁ hx hby hml hZ hown hnm X0 e0 Br Bs
  have N0 := Fr.nil n0
  have tt := own_tt hx hby own_ok8
  show own_Ends p e below s _ _ _ s₁ (mkF m 0 #[oR b2, oR a14, oU] [])
  refine own_go (T' := s₁) (f' := (mkF m 10 #[oR b2, oR a14, oU] [vR a14])) (fun _ k => own_e X0 tt 0 3 k rfl) ?_
  obtain ⟨cq19, kq19, q19a, q19b, q19c⟩ := isOf hZ e0 PE15
  obtain ⟨_, T19, Lc19, X19, hQ19, st19⟩ := own_out (X0.virtualBack hx (y := mn7) (z := mn7) hown (mvT hZ (ow53 hw)) (mvT hZ (ow54 hw)) (notFace_of_selects (args := #[]) (mvT hZ (ow56 hw))) (mvT hZ (ow56 hw)) (mvT hZ (ow55 hw)) (by decide) (backOf (W := 0) (rm9a5 l Z a0 hw [] a14 cs b14 kc14 h0 n0 Z0 PS0 PE15 PF16 PF17 PV18 PP0) hZ (ow57 hw) (ow31 hw) (by decide) (by decide)) q19a q19c (g := (mkF m 10 #[oR b2, oR a14, oU] [vR a14])) rfl (by rw [hml]; rfl) (Steps.refl _) (argsL := []) (rest := []) (lenOf pd1 rfl) rfl (by show 2 * 0 + _ ≤ _; exact Nat.le_of_eq rfl) (hb hby d8_10) (fun _ _ => ⟨rfl, e0, (by decide : 0 + 0 ≤ _), (by decide : 0 + 0 ≤ _)⟩))
  obtain ⟨rfl, N19q, hh19⟩ := hQ19
  have N19 := Fr.app N0 N19q
  obtain ⟨_, X19, N19⟩ := own_hide X19 N19
  refine own_go (T' := T19) (f' := (mkF m 16 #[oR b2, oR a14, oI 17] [vR b2, vR b2])) (fun _ k => st19.trans (own_e X19 tt 13 3 k rfl)) ?_
  obtain ⟨T20, X20, e20, st20⟩ := getF X19 hx hZ hown (host := "") (Or.inl (ow66 hw)) Via.refl hh19 PF12 (g := (mkF m 16 #[oR b2, oR a14, oI 17] [vR b2, vR b2])) rfl rfl (hb hby d8_16)
  refine own_go (T' := T20) (f' := (mkF m 21 #[oR b2, oR a14, oI 17] [vI 17, vR b2])) (fun _ k => st20 _ (own_e X20 tt 19 2 k rfl)) ?_
  obtain ⟨cq37, q37, q37'⟩ := PE9.cell
  obtain ⟨_, T37, Lc37, X37, hQ37, st37⟩ := own_out (X20.privateBack hx (y := mn11) hown (mvT hZ (ow68 hw)) (mvT hZ (ow69 hw)) (own_selp (mvT hZ (ow71 hw)) (Cond.privateMethod_at (mvP hZ (ow70 hw) (args := #[]))) (mvT hZ (ow69 hw)) (by decide)) (Cond.privateMethod_at (mvP hZ (ow70 hw) (args := #[]))) (mvT hZ (ow72 hw)) (by decide) (backOf (W := 0) (rm11a7 l Z a0 hw [] b2 b11a k11b h0 n0 Z0 PE9 PF10 PF11 PF12 PV13 n_b2) hZ (ow72 hw) (ow25 hw) (by decide) (by decide)) (g := (mkF m 21 #[oR b2, oR a14, oI 17] [vI 17, vR b2])) rfl (by rw [hml]; rfl) (Steps.refl _) (a := b2) (by rw [e20]; exact q37) q37' (argsL := [(.int (17 : Int32))]) (rest := []) (lenOf pd11 rfl) rfl (by show 2 * 0 + _ ≤ _; exact Nat.le_of_eq rfl) (hb hby d8_21) (fun _ _ => ⟨rfl, e20, (by decide : 0 + 1 ≤ _), (by decide : 0 + 34 ≤ _)⟩))
  obtain ⟨b37a, k37b, rfl, N37q, K37, n_b37a, sg_b37a, g37_0, g37_1, g37_2, g37_3, g37_4⟩ := hQ37
  have N37 := Fr.app N19 N37q
  have sz_b37a := oT (Keep.refl h0 [b2]).1 sg_b37a
  have eK37 : T37.heap = T37.heap := rfl
  have KK37 : Keep h0 T37.heap [b2] := Keep.trans (Keep.refl h0 [b2]) K37 (allS (Or.inl (List.mem_of_getElem? (i := 0) rfl)) all0)
  obtain ⟨_, X37, N37⟩ := own_hide X37 N37
  refine own_go (T' := T37) (f' := (mkF m 26 #[oR b2, oR a14, oI 17] [vR b2, vR b2])) (fun _ k => st37.trans (own_e X37 tt 24 2 k rfl)) ?_
  obtain ⟨T38, X38, e38, st38⟩ := getF X37 hx hZ hown (host := "") (Or.inl (ow66 hw)) Via.refl eK37 g37_2 (g := (mkF m 26 #[oR b2, oR a14, oI 17] [vR b2, vR b2])) rfl rfl (hb hby d8_26)
  refine own_go (T' := T38) (f' := (mkF m 30 #[oR b2, oR a14, oI 17] [vR a14, vI 0, vR b2])) (fun _ k => st38 _ (own_e X38 tt 29 1 k rfl)) ?_
  obtain ⟨cq50, q50, q50'⟩ := (PE9.keep K37).cell
  obtain ⟨_, T50, Lc50, X50, hQ50, st50⟩ := own_out (X38.privateBack hx (y := mn14) hown (mvT hZ (ow94 hw)) (mvT hZ (ow95 hw)) (own_selp (mvT hZ (ow97 hw)) (Cond.privateMethod_at (mvP hZ (ow96 hw) (args := #[]))) (mvT hZ (ow95 hw)) (by decide)) (Cond.privateMethod_at (mvP hZ (ow96 hw) (args := #[]))) (mvT hZ (ow98 hw)) (by decide) (backOf (W := 0) (rm15a13 l Z a0 hw [] b2 a14 cs b37a b14 kc14 k37b T37.heap n0 (oT Z0 K37.1) (own_sta_keep PS0 K37 (own_wsE PE9 own_ws0)) (PE9.keep K37) g37_0 g37_1 (PE15.keep K37) (PF16.keep K37 (ninS ne_a14_b2 nin0)) (PF17.keep K37 (ninS ne_a14_b2 nin0)) (PV18.keep K37 (ninS ne_b14_b2 nin0)) g37_3 PP0 n_b37a) hZ (ow98 hw) (ow25 hw) (by decide) (by decide)) (g := (mkF m 30 #[oR b2, oR a14, oI 17] [vR a14, vI 0, vR b2])) rfl (by rw [hml]; rfl) (Steps.refl _) (a := b2) (by rw [e38]; exact q50) q50' (argsL := [(.int (0 : Int32)), (.ref a14)]) (rest := []) (lenOf pd18 rfl) rfl (by show 2 * 0 + _ ≤ _; exact Nat.le_of_eq rfl) (hb hby d8_30) (fun _ _ => ⟨rfl, e38, (by decide : 1 + 0 ≤ _), (by decide : 34 + 0 ≤ _)⟩))
  obtain ⟨rfl, N50q, K50, g50_0⟩ := hQ50
  have N50 := Fr.app N37 N50q
  have eK50 : T50.heap = T50.heap := rfl
  have KK50 : Keep h0 T50.heap [b2] := Keep.trans KK37 K50 (allS (Or.inr sz_b37a) all0)
  obtain ⟨_, X50, N50⟩ := own_hide X50 N50
  refine own_go (T' := T50) (f' := (mkF m 35 #[oR b2, oR a14, oI 17] [vR b2, vR b2])) (fun _ k => st50.trans (own_e X50 tt 33 2 k rfl)) ?_
  obtain ⟨T51, X51, e51, st51⟩ := getF X50 hx hZ hown (host := "") (Or.inl (ow66 hw)) Via.refl eK50 (g37_2.keep K50 (ninS (oL PE9.lt sz_b37a) nin0)) (g := (mkF m 35 #[oR b2, oR a14, oI 17] [vR b2, vR b2])) rfl rfl (hb hby d8_35)
  refine own_go (T' := T51) (f' := (mkF m 40 #[oR b2, oR a14, oI 17] [vI 17, vR b2])) (fun _ k => st51 _ (own_e X51 tt 38 2 k rfl)) ?_
  obtain ⟨T52, h52, X52, e52, W52, st52⟩ := putF X51 hx hZ hown (host := "") (Or.inl (ow66 hw)) Via.refl e51 (g37_2.keep K50 (ninS (oL PE9.lt sz_b37a) nin0)) ((PE9.keep K37).keep K50) (Or.inl (ow67 hw)) (ow16 hw) (ty := .int) (by decide) rfl rfl (g := (mkF m 40 #[oR b2, oR a14, oI 17] [vI 17, vR b2])) rfl rfl (hb hby d8_40)
  have Fw52 := Fld.same W52 (g37_2.keep K50 (ninS (oL PE9.lt sz_b37a) nin0))
  have K52 : Keep h0 h52 [b2] := KK50.wr W52 (Or.inl (List.mem_of_getElem? (i := 0) rfl))
  have N52 := Fr.snoc X52 N50 n_b2
  refine own_go (T' := T52) (f' := (mkF m 44 #[oR b2, oR a14, oI 17] [vR b2])) (fun _ k => st52 _ (own_e X52 tt 43 1 k rfl)) ?_
  refine own_ret X52 (v := some (.ref b2)) (oN Br) Bs (fun fs hr => own_retA X52 hx Br rfl rfl (hb hby d8_44) hr) ?_ (by decide) (by decide)
  unfold Q8a4
  rw [e52]
  exact ⟨b37a, k37b, rfl, N52, K52, n_b37a, sz_b37a, ((g37_0.keep K50 (ninS (oL PE9.lt sz_b37a) nin0)).other W52 (Or.inr (sn_34_67 hw))), ((g37_1.keep K50 (ninS (oL PE9.lt sz_b37a) nin0)).other W52 (Or.inr (sn_36_67 hw))), Fw52, (g50_0.other W52 (oM PE9.lt sz_b37a)), ((g37_4.keep K50).wr W52)⟩
theorem pd22 : parseMethodDescriptor "(Ljava/lang/String;)Ljava/lang/AbstractStringBuilder;" = some ⟨[(.object "java/lang/String")], some (.object "java/lang/AbstractStringBuilder")⟩ := by decide +kernel
def own_t7 (pc : Nat) : Option (Instr × Nat) := bif Nat.ble pc 1 then (bif Nat.ble pc 0 then (bif Nat.beq pc 0 then some (.aload_n 0, 1) else none) else (bif Nat.beq pc 1 then some (.aload_n 1, 1) else none)) else (bif Nat.ble pc 5 then (bif Nat.beq pc 5 then some (.pop, 1) else none) else (bif Nat.beq pc 6 then some (.aload_n 0, 1) else none))
theorem own_ok7 : ∀ pc q, own_fetch 8 own_t7 pc = some q → decode jdk_67_method_7_code pc = .ok q := own_tab (by decide +kernel)
theorem d7_2 : decode jdk_67_method_7_code 2 = .ok (.invokespecial 29, 3) := by decide +kernel
theorem d7_7 : decode jdk_67_method_7_code 7 = .ok (.areturn, 1) := by decide +kernel
def Q7a3 (Z : State) (b2 : Addr) (h0 : Heap) (n0 : Nat) (v : Option Value) (h : Heap) (L : List Loc) : Prop := ∃ (b53a : Addr) (k53b : ClassId), v = some (.ref b2) ∧ Fr n0 L ∧ Keep h0 h [b2] ∧ n0 ≤ b53a ∧ h0.size ≤ b53a ∧ oF0 Z h b2 (.ref b53a) ∧ oF1 Z h b2 (.int (0 : Int32)) ∧ oF2 Z h b2 (.int (17 : Int32)) ∧ Arv Z h b53a k53b .byte (34 : Int32) own_ls3 (.int (0 : Int32)) ∧ Exa Z h b53a "[B"
set_option maxRecDepth 65536 in
set_option maxHeartbeats 40000000 in
theorem rm7a3 (l : Launch) (Z : State) (a0 : Array Value) (hw : HW a0 Z) (ws : List Jvm.Cond) (b2 : Addr) (a14 : Addr) (cs : Int32) (b11a : Addr) (k11b : ClassId) (b14 : Addr) (kc14 : ClassId) (h0 : Heap) (n0 : Nat) (Z0 : n0 ≤ h0.size) (PS0 : Sta Z h0 "java/lang/String" "COMPACT_STRINGS" "Z" (.int cs)) (PE9 : Exa Z h0 b2 "java/lang/StringBuilder") (PF10 : oF0 Z h0 b2 (.ref b11a)) (PF11 : oF1 Z h0 b2 (.int (0 : Int32))) (PF12 : oF2 Z h0 b2 (.int (0 : Int32))) (PV13 : Arv Z h0 b11a k11b .byte (16 : Int32) own_ls0 (.int (0 : Int32))) (PE15 : Exa Z h0 a14 "java/lang/String") (PF16 : oF3 Z h0 a14 (.int (0 : Int32))) (PF17 : oF4 Z h0 a14 (.ref b14)) (PV18 : Arv Z h0 b14 kc14 .byte (17 : Int32) own_ls1 (.int (0 : Int32))) (PP0 : ¬ (cs = (0 : Int32))) (ne_a14_b2 : a14 ≠ b2) (ne_b14_b2 : b14 ≠ b2) (n_b2 : n0 ≤ b2) :
    own_Met l mn16 jdk_67_method_7_code 2 (some (.object "java/lang/StringBuilder")) ws (oRm 5 1 34 76) #[(.ref b2), (.ref a14)] Z h0 (Q7a3 Z b2 h0 n0) := by
  refine own_met (own := "java/lang/StringBuilder") rfl (plainFor_of_name pn_8) ?_
  intro p e s m below meth c s₁ hx hby hml hZ hown hnm X0 e0 Br Bs
  have N0 := Fr.nil n0
  have tt := own_tt hx hby own_ok7
  show own_Ends p e below s _ _ _ s₁ (mkF m 0 #[oR b2, oR a14] [])
  refine own_go (T' := s₁) (f' := (mkF m 2 #[oR b2, oR a14] [vR a14, vR b2])) (fun _ k => own_e X0 tt 0 2 k rfl) ?_
  obtain ⟨_, T53, Lc53, X53, hQ53, st53⟩ := own_out (superBack X0 hx hZ (y := mn15) hown (ow48 hw) (own_same (y := mn15) (y2 := mn11) (ow71 hw) rfl (ow49 hw) (by decide)) (ow49 hw) (ow50 hw) (by decide) (backOf (W := 0) (rm8a4 l Z a0 hw [] b2 a14 cs b11a k11b b14 kc14 h0 n0 Z0 PS0 PE9 PF10 PF11 PF12 PV13 PE15 PF16 PF17 PV18 PP0 ne_a14_b2 ne_b14_b2 n_b2) hZ (ow52 hw) (ow25 hw) (by decide) (by decide)) e0 (Ins.self PE9) (g := (mkF m 2 #[oR b2, oR a14] [vR a14, vR b2])) rfl (by rw [hml]; rfl) (ow52 hw) (argsL := [(.ref a14)]) (rest := []) (lenOf pd22 rfl) rfl (by show 2 * 0 + _ ≤ _; exact Nat.le_of_eq rfl) (hb hby d7_2) (fun _ _ => ⟨rfl, e0, (by decide : 0 + 1 ≤ _), (by decide : 0 + 34 ≤ _)⟩))
  obtain ⟨b53a, k53b, rfl, N53q, K53, n_b53a, sg_b53a, g53_0, g53_1, g53_2, g53_3, g53_4⟩ := hQ53
  have N53 := Fr.app N0 N53q
  have sz_b53a := oT (Keep.refl h0 [b2]).1 sg_b53a
  have eK53 : T53.heap = T53.heap := rfl
  have KK53 : Keep h0 T53.heap [b2] := Keep.trans (Keep.refl h0 [b2]) K53 (allS (Or.inl (List.mem_of_getElem? (i := 0) rfl)) all0)
  obtain ⟨_, X53, N53⟩ := own_hide X53 N53
  refine own_go (T' := T53) (f' := (mkF m 7 #[oR b2, oR a14] [vR b2])) (fun _ k => st53.trans (own_e X53 tt 5 2 k rfl)) ?_
  refine own_ret X53 (v := some (.ref b2)) (oN Br) Bs (fun fs hr => own_retA X53 hx Br rfl rfl (hb hby d7_7) hr) ?_ (by decide) (by decide)
  unfold Q7a3
  rw [eK53]
  exact ⟨b53a, k53b, rfl, N53, KK53, n_b53a, sz_b53a, g53_0, g53_1, g53_2, g53_3, g53_4⟩
theorem pd23 : parseMethodDescriptor "(Ljava/lang/String;)Ljava/lang/StringBuilder;" = some ⟨[(.object "java/lang/String")], some (.object "java/lang/StringBuilder")⟩ := by decide +kernel
theorem d11_14 : decode jdk_68_method_9_code 14 = .ok (.ifCond .le 24, 3) := by decide +kernel
def Q11a21 (Z : State)  (h0 : Heap) (n0 : Nat) (v : Option Value) (h : Heap) (L : List Loc) : Prop := v = none ∧ Fr n0 L ∧ h = h0
set_option maxRecDepth 65536 in
set_option maxHeartbeats 40000000 in
theorem rm11a21 (l : Launch) (Z : State) (a0 : Array Value) (hw : HW a0 Z) (ws : List Jvm.Cond) (b2 : Addr) (i75 : Int32) (b56a : Addr) (k56b : ClassId) (h0 : Heap) (n0 : Nat) (Z0 : n0 ≤ h0.size) (PF10 : oF0 Z h0 b2 (.ref b56a)) (PF11 : oF1 Z h0 b2 (.int (0 : Int32))) (PV19 : Arv Z h0 b56a k56b .byte (34 : Int32) own_ls3 (.int (0 : Int32))) (PP1 : ¬ ((0 : Int32) < (i75 - (34 : Int32)))) :
    own_Met l mn11 jdk_68_method_9_code 3 none ws (oRm 0 0 0 0) #[(.ref b2), (.int i75)] Z h0 (Q11a21 Z  h0 n0) := by
  refine own_met (own := "java/lang/AbstractStringBuilder") rfl (plainFor_of_name pn_3) ?_
  intro p e s m below meth c s₁ hx hby hml hZ hown hnm X0 e0 Br Bs
  have N0 := Fr.nil n0
  have tt := own_tt hx hby own_ok11
  show own_Ends p e below s _ _ _ s₁ (mkF m 0 #[oR b2, .val (.int i75), oU] [])
  refine own_go (T' := s₁) (f' := (mkF m 1 #[oR b2, .val (.int i75), oU] [vR b2])) (fun _ k => own_e X0 tt 0 1 k rfl) ?_
  obtain ⟨T76, X76, e76, st76⟩ := getF X0 hx hZ hown (host := "") (Or.inl (ow33 hw)) Via.refl e0 PF10 (g := (mkF m 1 #[oR b2, .val (.int i75), oU] [vR b2])) rfl rfl (hb hby d11_1)
  refine own_go (T' := T76) (f' := (mkF m 6 #[oR b2, .val (.int i75), oU] [vR b2, vI 34])) (fun _ k => st76 _ (own_alen X76 hx hZ e76 PV19 rfl rfl (hb hby d11_4) (own_e X76 tt 5 1 k rfl))) ?_
  obtain ⟨T77, X77, e77, st77⟩ := getF X76 hx hZ hown (host := "") (Or.inl (ow35 hw)) Via.refl e76 PF11 (g := (mkF m 6 #[oR b2, .val (.int i75), oU] [vR b2, vI 34])) rfl rfl (hb hby d11_6)
  refine own_go (T' := T77) (f' := (mkF m 14 #[oR b2, .val (.int i75), oI 34] [(.int (i75 - (34 : Int32)))])) (fun _ k => st77 _ (own_e X77 tt 9 5 k rfl)) ?_
  refine own_go (T' := T77) (f' := (mkF m 38 #[oR b2, .val (.int i75), oI 34] [])) (fun _ k => XS.ifYes X77.here hx rfl (pc0 := 14) (pc' := 38) rfl (hb hby d11_14) rfl ((if0 _ _).trans (flt PP1).2.2.2) (by decide) (by decide) k) ?_
  refine own_ret X77 (v := none) (fun _ => rfl) Bs (fun fs hr => X77.returnOut hx Br (hb hby d11_38) hr) ?_ (by decide) (by decide)
  unfold Q11a21
  exact ⟨rfl, N0, e77⟩
def own_t21 (pc : Nat) : Option (Instr × Nat) := bif Nat.ble pc 6 then (bif Nat.ble pc 3 then (bif Nat.beq pc 3 then some (.ifCond .eq 14, 3) else none) else (bif Nat.beq pc 6 then some (.aload_n 0, 1) else none)) else (bif Nat.ble pc 10 then (bif Nat.beq pc 10 then some (.ifCond .ne 7, 3) else none) else (bif Nat.ble pc 13 then (bif Nat.beq pc 13 then some (.iconst 1, 1) else none) else (bif Nat.beq pc 14 then some (.goto 4, 3) else none)))
theorem own_ok21 : ∀ pc q, own_fetch 19 own_t21 pc = some q → decode jdk_68_method_68_code pc = .ok q := own_tab (by decide +kernel)
theorem d21_0 : decode jdk_68_method_68_code 0 = .ok (.getstatic 18, 3) := by decide +kernel
theorem d21_3 : decode jdk_68_method_68_code 3 = .ok (.ifCond .eq 14, 3) := by decide +kernel
theorem d21_7 : decode jdk_68_method_68_code 7 = .ok (.getfield 22, 3) := by decide +kernel
theorem d21_18 : decode jdk_68_method_68_code 18 = .ok (.ireturn, 1) := by decide +kernel
def Q21a22 (Z : State)  (h0 : Heap) (n0 : Nat) (v : Option Value) (h : Heap) (L : List Loc) : Prop := v = some (.int (1 : Int32)) ∧ Fr n0 L ∧ h = h0
set_option maxRecDepth 65536 in
set_option maxHeartbeats 40000000 in
theorem rm21a22 (l : Launch) (Z : State) (a0 : Array Value) (hw : HW a0 Z) (ws : List Jvm.Cond) (b2 : Addr) (cs : Int32) (h0 : Heap) (n0 : Nat) (Z0 : n0 ≤ h0.size) (PS0 : Sta Z h0 "java/lang/String" "COMPACT_STRINGS" "Z" (.int cs)) (PF11 : oF1 Z h0 b2 (.int (0 : Int32))) (PP0 : ¬ (cs = (0 : Int32))) :
    own_Met l mn17 jdk_68_method_68_code 1 (some .boolean) ws (oRm 0 0 0 0) #[(.ref b2)] Z h0 (Q21a22 Z  h0 n0) := by
  refine own_met (own := "java/lang/AbstractStringBuilder") rfl (plainFor_of_name pn_3) ?_
  intro p e s m below meth c s₁ hx hby hml hZ hown hnm X0 e0 Br Bs
  have N0 := Fr.nil n0
  have tt := own_tt hx hby own_ok21
  show own_Ends p e below s _ _ _ s₁ (mkF m 0 #[oR b2] [])
  obtain ⟨T79, X79, e79, st79⟩ := getS2 X0 hx hZ hown (host := "") (Or.inl (ow30 hw)) Via.refl e0 PS0 (g := (mkF m 0 #[oR b2] [])) rfl (hb hby d21_0)
  refine own_go (T' := T79) (f' := (mkF m 7 #[oR b2] [vR b2])) (fun _ k => st79 _ (XS.ifNo X79.here hx rfl (hb hby d21_3) rfl ((if0 _ _).trans (feq PP0).1) (own_e X79 tt 6 1 k rfl))) ?_
  obtain ⟨T80, X80, e80, st80⟩ := getF X79 hx hZ hown (host := "") (Or.inl (ow35 hw)) Via.refl e79 PF11 (g := (mkF m 7 #[oR b2] [vR b2])) rfl rfl (hb hby d21_7)
  refine own_go (T' := T80) (f' := (mkF m 18 #[oR b2] [vI 1])) (fun _ k => st80 _ (own_e X80 tt 10 3 k rfl)) ?_
  refine own_ret X80 (v := some (.int (1 : Int32))) (oN Br) Bs (fun fs hr => retN X80 hx (t := .boolean) Br (by simp) (hb hby d21_18) hr) ?_ (by decide) (by decide)
  unfold Q21a22
  exact ⟨rfl, N0, e80⟩
theorem pd6 : parseMethodDescriptor "()Z" = some ⟨[], some .boolean⟩ := by decide +kernel
theorem pd16 : parseMethodDescriptor "(II[B)I" = some ⟨[.int, .int, (.array .byte)], some .int⟩ := by decide +kernel
def own_t19 (pc : Nat) : Option (Instr × Nat) := bif Nat.ble pc 17 then (bif Nat.ble pc 6 then (bif Nat.ble pc 4 then (bif Nat.ble pc 0 then (bif Nat.beq pc 0 then some (.aload_n 0, 1) else none) else (bif Nat.beq pc 4 then some (.istore_n 2, 1) else none)) else (bif Nat.ble pc 5 then (bif Nat.beq pc 5 then some (.iload_n 2, 1) else none) else (bif Nat.beq pc 6 then some (.iload_n 1, 1) else none))) else (bif Nat.ble pc 11 then (bif Nat.ble pc 10 then (bif Nat.beq pc 10 then some (.iadd, 1) else none) else (bif Nat.beq pc 11 then some (.istore_n 3, 1) else none)) else (bif Nat.ble pc 12 then (bif Nat.beq pc 12 then some (.aload_n 0, 1) else none) else (bif Nat.ble pc 13 then (bif Nat.beq pc 13 then some (.iload_n 3, 1) else none) else (bif Nat.beq pc 17 then some (.aload_n 0, 1) else none))))) else (bif Nat.ble pc 26 then (bif Nat.ble pc 24 then (bif Nat.ble pc 21 then (bif Nat.beq pc 21 then some (.ifCond .eq 16, 3) else none) else (bif Nat.beq pc 24 then some (.iload_n 1, 1) else none)) else (bif Nat.ble pc 25 then (bif Nat.beq pc 25 then some (.iload_n 3, 1) else none) else (bif Nat.beq pc 26 then some (.aload_n 0, 1) else none))) else (bif Nat.ble pc 34 then (bif Nat.ble pc 33 then (bif Nat.beq pc 33 then some (.pop, 1) else none) else (bif Nat.beq pc 34 then some (.goto 14, 3) else none)) else (bif Nat.ble pc 48 then (bif Nat.beq pc 48 then some (.aload_n 0, 1) else none) else (bif Nat.ble pc 49 then (bif Nat.beq pc 49 then some (.iload_n 3, 1) else none) else (bif Nat.beq pc 53 then some (.aload_n 0, 1) else none)))))
theorem own_ok19 : ∀ pc q, own_fetch 55 own_t19 pc = some q → decode jdk_68_method_32_code pc = .ok q := own_tab (by decide +kernel)
theorem d19_1 : decode jdk_68_method_32_code 1 = .ok (.getfield 79, 3) := by decide +kernel
theorem d19_7 : decode jdk_68_method_32_code 7 = .ok (.invokestatic 245, 3) := by decide +kernel
theorem d19_14 : decode jdk_68_method_32_code 14 = .ok (.invokevirtual 100, 3) := by decide +kernel
theorem d19_18 : decode jdk_68_method_32_code 18 = .ok (.invokevirtual 83, 3) := by decide +kernel
theorem d19_27 : decode jdk_68_method_32_code 27 = .ok (.getfield 15, 3) := by decide +kernel
theorem d19_30 : decode jdk_68_method_32_code 30 = .ok (.invokestatic 248, 3) := by decide +kernel
theorem d19_50 : decode jdk_68_method_32_code 50 = .ok (.putfield 79, 3) := by decide +kernel
theorem d19_54 : decode jdk_68_method_32_code 54 = .ok (.areturn, 1) := by decide +kernel
def Q19a26 (Z : State) (b2 : Addr) (y0 : Int32) (b56a : Addr) (k56b : ClassId) (h0 : Heap) (n0 : Nat) (v : Option Value) (h : Heap) (L : List Loc) : Prop := ∃ (us99 : List Value), v = some (.ref b2) ∧ Fr n0 L ∧ Keep h0 h [b56a, b2] ∧ Arv Z h b56a k56b .byte (34 : Int32) us99 (.int (0 : Int32)) ∧ oF0 Z h b2 (.ref b56a) ∧ oF1 Z h b2 (.int (0 : Int32)) ∧ oF2 Z h b2 (.int ((17 : Int32) + (own_dg y0))) ∧ us99.length = ((34 : Int32)).toNatClampNeg
set_option maxRecDepth 65536 in
set_option maxHeartbeats 40000000 in
theorem rm19a26 (l : Launch) (Z : State) (a0 : Array Value) (hw : HW a0 Z) (ws : List Jvm.Cond) (b2 : Addr) (y0 : Int32) (cs : Int32) (wd : Addr) (kd : ClassId) (vd : List Value) (wt : Addr) (kt : ClassId) (vt : List Value) (b56a : Addr) (k56b : ClassId) (h0 : Heap) (n0 : Nat) (Z0 : n0 ≤ h0.size) (PS0 : Sta Z h0 "java/lang/String" "COMPACT_STRINGS" "Z" (.int cs)) (PS1 : Sta Z h0 "java/lang/Integer" "DigitOnes" "[B" (.ref wd)) (PV2 : Arv Z h0 wd kd .byte (100 : Int32) vd (.int (0 : Int32))) (PS3 : Sta Z h0 "java/lang/Integer" "DigitTens" "[B" (.ref wt)) (PV4 : Arv Z h0 wt kt .byte (100 : Int32) vt (.int (0 : Int32))) (PE9 : Exa Z h0 b2 "java/lang/StringBuilder") (PF10 : oF0 Z h0 b2 (.ref b56a)) (PF11 : oF1 Z h0 b2 (.int (0 : Int32))) (PF12 : oF2 Z h0 b2 (.int (17 : Int32))) (PV19 : Arv Z h0 b56a k56b .byte (34 : Int32) own_ls3 (.int (0 : Int32))) (PP0 : ¬ (cs = (0 : Int32))) (PP1 : ¬ (y0 < (0 : Int32))) (PP2 : ¬ ((0 : Int32) < (((17 : Int32) + (own_dg y0)) - (34 : Int32)))) (PP3 : ¬ (((17 : Int32) + (own_dg y0)) < (own_dg y0))) (PP4 : ¬ ((34 : Int32) < ((17 : Int32) + (own_dg y0)))) (ne_b56a_wd : b56a ≠ wd) (ne_b56a_wt : b56a ≠ wt) (ne_b2_b56a : b2 ≠ b56a) (ne_b56a_b2 : b56a ≠ b2) (n_b2 : n0 ≤ b2) (n_b56a : n0 ≤ b56a) (pr_st_vd : own_SameSt Z) :
    own_Met l mn19 jdk_68_method_32_code 4 (some (.object "java/lang/AbstractStringBuilder")) ws (oRm 2 0 0 78) #[(.ref b2), (.int y0)] Z h0 (Q19a26 Z b2 y0 b56a k56b h0 n0) := by
  refine own_met (own := "java/lang/AbstractStringBuilder") rfl (plainFor_of_name pn_3) ?_
  intro p e s m below meth c s₁ hx hby hml hZ hown hnm X0 e0 Br Bs
  have N0 := Fr.nil n0
  have tt := own_tt hx hby own_ok19
  show own_Ends p e below s _ _ _ s₁ (mkF m 0 #[oR b2, .val (.int y0), oU, oU] [])
  refine own_go (T' := s₁) (f' := (mkF m 1 #[oR b2, .val (.int y0), oU, oU] [vR b2])) (fun _ k => own_e X0 tt 0 1 k rfl) ?_
  obtain ⟨T94, X94, e94, st94⟩ := getF X0 hx hZ hown (host := "") (Or.inl (ow66 hw)) Via.refl e0 PF12 (g := (mkF m 1 #[oR b2, .val (.int y0), oU, oU] [vR b2])) rfl rfl (hb hby d19_1)
  refine own_go (T' := T94) (f' := (mkF m 7 #[oR b2, .val (.int y0), oI 17, oU] [(.int y0), vI 17])) (fun _ k => st94 _ (own_e X94 tt 4 3 k rfl)) ?_
  obtain ⟨_, T95, Lc95, X95, hQ95, st95⟩ := own_outC (Jvm.LawKit.callS X94 hx (y := mn3) hown (mvT hZ (ow120 hw)) (mvT hZ (ow121 hw)) (mvT hZ (ow122 hw)) (mvT hZ (ow123 hw)) (by decide) (backOf (W := 1) (rm20 l Z a0 hw [] y0 h0 n0 Z0 PP1) hZ (ow123 hw) (ow122 hw) (by decide) (by decide)) (g := (mkF m 7 #[oR b2, .val (.int y0), oI 17, oU] [(.int y0), vI 17])) rfl (by rw [hml]; rfl) (argsL := [(.int y0)]) (rest := [(.int (17 : Int32))]) (lenOf pd8 rfl) rfl (by show 2 * 0 + _ ≤ _; exact Nat.le_of_eq rfl) (hb hby d19_7) (fun _ _ => ⟨rfl, e94, (by decide : 0 + 0 ≤ _), (by decide : 0 + 0 ≤ _)⟩))
  obtain ⟨rfl, N95q, hh95⟩ := hQ95
  have N95 := Fr.app N0 N95q
  obtain ⟨_, X95, N95⟩ := own_hide X95 N95
  refine own_go (T' := T95) (f' := (mkF m 14 #[oR b2, .val (.int y0), oI 17, .val (.int ((17 : Int32) + (own_dg y0)))] [(.int ((17 : Int32) + (own_dg y0))), vR b2])) (fun _ k => st95 _ (own_e X95 tt 10 4 k rfl)) ?_
  obtain ⟨cq96, q96, q96'⟩ := PE9.cell
  obtain ⟨_, T96, Lc96, X96, hQ96, st96⟩ := own_out (X95.privateBack hx (y := mn11) hown (mvT hZ (ow68 hw)) (mvT hZ (ow69 hw)) (own_selp (mvT hZ (ow71 hw)) (Cond.privateMethod_at (mvP hZ (ow70 hw) (args := #[]))) (mvT hZ (ow69 hw)) (by decide)) (Cond.privateMethod_at (mvP hZ (ow70 hw) (args := #[]))) (mvT hZ (ow72 hw)) (by decide) (backOf (W := 0) (rm11a21 l Z a0 hw [] b2 ((17 : Int32) + (own_dg y0)) b56a k56b h0 n0 Z0 PF10 PF11 PV19 PP2) hZ (ow72 hw) (ow25 hw) (by decide) (by decide)) (g := (mkF m 14 #[oR b2, .val (.int y0), oI 17, .val (.int ((17 : Int32) + (own_dg y0)))] [(.int ((17 : Int32) + (own_dg y0))), vR b2])) rfl (by rw [hml]; rfl) (Steps.refl _) (a := b2) (by rw [hh95]; exact q96) q96' (argsL := [(.int ((17 : Int32) + (own_dg y0)))]) (rest := []) (lenOf pd11 rfl) rfl (by show 2 * 0 + _ ≤ _; exact Nat.le_of_eq rfl) (hb hby d19_14) (fun _ _ => ⟨rfl, hh95, (by decide : 0 + 0 ≤ _), (by decide : 0 + 0 ≤ _)⟩))
  obtain ⟨rfl, N96q, hh96⟩ := hQ96
  have N96 := Fr.app N95 N96q
  obtain ⟨_, X96, N96⟩ := own_hide X96 N96
  refine own_go (T' := T96) (f' := (mkF m 18 #[oR b2, .val (.int y0), oI 17, .val (.int ((17 : Int32) + (own_dg y0)))] [vR b2])) (fun _ k => st96.trans (own_e X96 tt 17 1 k rfl)) ?_
  obtain ⟨cq97, kq97, q97a, q97b, q97c⟩ := isOf hZ hh96 PE9
  obtain ⟨_, T97, Lc97, X97, hQ97, st97⟩ := own_out (X96.virtualBack hx (y := mn17) (z := mn17) hown (mvT hZ (ow124 hw)) (mvT hZ (ow125 hw)) (notFace_of_selects (args := #[]) (mvT hZ (ow127 hw))) (mvT hZ (ow127 hw)) (mvT hZ (ow126 hw)) (by decide) (backOf (W := 0) (rm21a22 l Z a0 hw [] b2 cs h0 n0 Z0 PS0 PF11 PP0) hZ (ow128 hw) (ow25 hw) (by decide) (by decide)) q97a q97c (g := (mkF m 18 #[oR b2, .val (.int y0), oI 17, .val (.int ((17 : Int32) + (own_dg y0)))] [vR b2])) rfl (by rw [hml]; rfl) (Steps.refl _) (argsL := []) (rest := []) (lenOf pd6 rfl) rfl (by show 2 * 0 + _ ≤ _; exact Nat.le_of_eq rfl) (hb hby d19_18) (fun _ _ => ⟨rfl, hh96, (by decide : 0 + 0 ≤ _), (by decide : 0 + 0 ≤ _)⟩))
  obtain ⟨rfl, N97q, hh97⟩ := hQ97
  have N97 := Fr.app N96 N97q
  obtain ⟨_, X97, N97⟩ := own_hide X97 N97
  refine own_go (T' := T97) (f' := (mkF m 27 #[oR b2, .val (.int y0), oI 17, .val (.int ((17 : Int32) + (own_dg y0)))] [vR b2, (.int ((17 : Int32) + (own_dg y0))), (.int y0)])) (fun _ k => st97.trans (own_e X97 tt 21 4 k rfl)) ?_
  obtain ⟨T98, X98, e98, st98⟩ := getF X97 hx hZ hown (host := "") (Or.inl (ow33 hw)) Via.refl hh97 PF10 (g := (mkF m 27 #[oR b2, .val (.int y0), oI 17, .val (.int ((17 : Int32) + (own_dg y0)))] [vR b2, (.int ((17 : Int32) + (own_dg y0))), (.int y0)])) rfl rfl (hb hby d19_27)
  refine own_go (T' := T98) (f' := (mkF m 30 #[oR b2, .val (.int y0), oI 17, .val (.int ((17 : Int32) + (own_dg y0)))] [vR b56a, (.int ((17 : Int32) + (own_dg y0))), (.int y0)])) (fun _ k => st98 _ k) ?_
  obtain ⟨_, T99, Lc99, X99, hQ99, st99⟩ := own_outC (Jvm.LawKit.callS X98 hx (y := mn18) hown (mvT hZ (ow129 hw)) (mvT hZ (ow130 hw)) (mvT hZ (ow122 hw)) (mvT hZ (ow131 hw)) (by decide) (own_gcBack hZ hw (W := 0) (n0 := n0) PV19 PS1 PV2 PS3 PV4 ne_b56a_wd ne_b56a_wt pr_st_vd PP1 PP3 PP4 n_b56a (by decide) (by decide)) (g := (mkF m 30 #[oR b2, .val (.int y0), oI 17, .val (.int ((17 : Int32) + (own_dg y0)))] [vR b56a, (.int ((17 : Int32) + (own_dg y0))), (.int y0)])) rfl (by rw [hml]; rfl) (argsL := [(.int y0), (.int ((17 : Int32) + (own_dg y0))), (.ref b56a)]) (rest := []) (lenOf pd16 rfl) rfl (by show 2 * 0 + _ ≤ _; exact Nat.le_of_eq rfl) (hb hby d19_30) (fun _ _ => ⟨rfl, e98, (by decide : 0 + 0 ≤ _), (by decide : 0 + 0 ≤ _)⟩))
  obtain ⟨r99, us99, rfl, N99q, K99, hl99, V99⟩ := hQ99
  have N99 := Fr.app N97 N99q
  have eK99 : T99.heap = T99.heap := rfl
  have KK99 : Keep h0 T99.heap [b56a, b2] := Keep.trans (Keep.refl h0 [b56a, b2]) K99 (allS (Or.inl (List.mem_of_getElem? (i := 0) rfl)) all0)
  obtain ⟨_, X99, N99⟩ := own_hide X99 N99
  refine own_go (T' := T99) (f' := (mkF m 50 #[oR b2, .val (.int y0), oI 17, .val (.int ((17 : Int32) + (own_dg y0)))] [(.int ((17 : Int32) + (own_dg y0))), vR b2])) (fun _ k => st99 _ (own_e X99 tt 33 4 k rfl)) ?_
  obtain ⟨T5, h5, X5, e5, W5, st5⟩ := putF X99 hx hZ hown (host := "") (Or.inl (ow66 hw)) Via.refl eK99 (PF12.keep K99 (ninS ne_b2_b56a nin0)) (PE9.keep K99) (Or.inl (ow67 hw)) (ow16 hw) (ty := .int) (by decide) rfl rfl (g := (mkF m 50 #[oR b2, .val (.int y0), oI 17, .val (.int ((17 : Int32) + (own_dg y0)))] [(.int ((17 : Int32) + (own_dg y0))), vR b2])) rfl rfl (hb hby d19_50)
  have Fw5 := Fld.same W5 (PF12.keep K99 (ninS ne_b2_b56a nin0))
  have K5 : Keep h0 h5 [b56a, b2] := KK99.wr W5 (Or.inl (List.mem_of_getElem? (i := 1) rfl))
  have N5 := Fr.snoc X5 N99 n_b2
  refine own_go (T' := T5) (f' := (mkF m 54 #[oR b2, .val (.int y0), oI 17, .val (.int ((17 : Int32) + (own_dg y0)))] [vR b2])) (fun _ k => st5 _ (own_e X5 tt 53 1 k rfl)) ?_
  refine own_ret X5 (v := some (.ref b2)) (oN Br) Bs (fun fs hr => own_retA X5 hx Br rfl rfl (hb hby d19_54) hr) ?_ (by decide) (by decide)
  unfold Q19a26
  rw [e5]
  exact ⟨us99, rfl, N5, K5, (V99.other W5 ne_b56a_b2), ((PF10.keep K99 (ninS ne_b2_b56a nin0)).other W5 (Or.inr (sn_34_67 hw))), ((PF11.keep K99 (ninS ne_b2_b56a nin0)).other W5 (Or.inr (sn_36_67 hw))), Fw5, hl99⟩
theorem pd9 : parseMethodDescriptor "(I)Ljava/lang/AbstractStringBuilder;" = some ⟨[.int], some (.object "java/lang/AbstractStringBuilder")⟩ := by decide +kernel
def own_t18 (pc : Nat) : Option (Instr × Nat) := bif Nat.ble pc 1 then (bif Nat.ble pc 0 then (bif Nat.beq pc 0 then some (.aload_n 0, 1) else none) else (bif Nat.beq pc 1 then some (.iload_n 1, 1) else none)) else (bif Nat.ble pc 5 then (bif Nat.beq pc 5 then some (.pop, 1) else none) else (bif Nat.beq pc 6 then some (.aload_n 0, 1) else none))
theorem own_ok18 : ∀ pc q, own_fetch 8 own_t18 pc = some q → decode jdk_67_method_15_code pc = .ok q := own_tab (by decide +kernel)
theorem d18_2 : decode jdk_67_method_15_code 2 = .ok (.invokespecial 53, 3) := by decide +kernel
theorem d18_7 : decode jdk_67_method_15_code 7 = .ok (.areturn, 1) := by decide +kernel
def Q18a25 (Z : State) (b2 : Addr) (y0 : Int32) (b56a : Addr) (k56b : ClassId) (h0 : Heap) (n0 : Nat) (v : Option Value) (h : Heap) (L : List Loc) : Prop := ∃ (us3a : List Value), v = some (.ref b2) ∧ Fr n0 L ∧ Keep h0 h [b2, b56a] ∧ oF0 Z h b2 (.ref b56a) ∧ oF1 Z h b2 (.int (0 : Int32)) ∧ oF2 Z h b2 (.int ((17 : Int32) + (own_dg y0))) ∧ Arv Z h b56a k56b .byte (34 : Int32) us3a (.int (0 : Int32)) ∧ us3a.length = ((34 : Int32)).toNatClampNeg
set_option maxRecDepth 65536 in
set_option maxHeartbeats 40000000 in
theorem rm18a25 (l : Launch) (Z : State) (a0 : Array Value) (hw : HW a0 Z) (ws : List Jvm.Cond) (b2 : Addr) (y0 : Int32) (cs : Int32) (wd : Addr) (kd : ClassId) (vd : List Value) (wt : Addr) (kt : ClassId) (vt : List Value) (b56a : Addr) (k56b : ClassId) (h0 : Heap) (n0 : Nat) (Z0 : n0 ≤ h0.size) (PS0 : Sta Z h0 "java/lang/String" "COMPACT_STRINGS" "Z" (.int cs)) (PS1 : Sta Z h0 "java/lang/Integer" "DigitOnes" "[B" (.ref wd)) (PV2 : Arv Z h0 wd kd .byte (100 : Int32) vd (.int (0 : Int32))) (PS3 : Sta Z h0 "java/lang/Integer" "DigitTens" "[B" (.ref wt)) (PV4 : Arv Z h0 wt kt .byte (100 : Int32) vt (.int (0 : Int32))) (PE9 : Exa Z h0 b2 "java/lang/StringBuilder") (PF10 : oF0 Z h0 b2 (.ref b56a)) (PF11 : oF1 Z h0 b2 (.int (0 : Int32))) (PF12 : oF2 Z h0 b2 (.int (17 : Int32))) (PV19 : Arv Z h0 b56a k56b .byte (34 : Int32) own_ls3 (.int (0 : Int32))) (PP0 : ¬ (cs = (0 : Int32))) (PP1 : ¬ (y0 < (0 : Int32))) (PP2 : ¬ ((0 : Int32) < (((17 : Int32) + (own_dg y0)) - (34 : Int32)))) (PP3 : ¬ (((17 : Int32) + (own_dg y0)) < (own_dg y0))) (PP4 : ¬ ((34 : Int32) < ((17 : Int32) + (own_dg y0)))) (ne_b56a_wd : b56a ≠ wd) (ne_b56a_wt : b56a ≠ wt) (ne_b2_b56a : b2 ≠ b56a) (ne_b56a_b2 : b56a ≠ b2) (n_b2 : n0 ≤ b2) (n_b56a : n0 ≤ b56a) (pr_st_vd : own_SameSt Z) :
    own_Met l mn20 jdk_67_method_15_code 2 (some (.object "java/lang/StringBuilder")) ws (oRm 3 0 0 93) #[(.ref b2), (.int y0)] Z h0 (Q18a25 Z b2 y0 b56a k56b h0 n0) := by
  refine own_met (own := "java/lang/StringBuilder") rfl (plainFor_of_name pn_8) ?_
  intro p e s m below meth c s₁ hx hby hml hZ hown hnm X0 e0 Br Bs
  have N0 := Fr.nil n0
  have tt := own_tt hx hby own_ok18
  show own_Ends p e below s _ _ _ s₁ (mkF m 0 #[oR b2, .val (.int y0)] [])
  refine own_go (T' := s₁) (f' := (mkF m 2 #[oR b2, .val (.int y0)] [(.int y0), vR b2])) (fun _ k => own_e X0 tt 0 2 k rfl) ?_
  obtain ⟨_, T5, Lc5, X5, hQ5, st5⟩ := own_out (superBack X0 hx hZ (y := mn19) hown (ow116 hw) (own_same (y := mn19) (y2 := mn11) (ow71 hw) rfl (ow117 hw) (by decide)) (ow117 hw) (ow50 hw) (by decide) (backOf (W := 0) (rm19a26 l Z a0 hw [] b2 y0 cs wd kd vd wt kt vt b56a k56b h0 n0 Z0 PS0 PS1 PV2 PS3 PV4 PE9 PF10 PF11 PF12 PV19 PP0 PP1 PP2 PP3 PP4 ne_b56a_wd ne_b56a_wt ne_b2_b56a ne_b56a_b2 n_b2 n_b56a pr_st_vd) hZ (ow119 hw) (ow25 hw) (by decide) (by decide)) e0 (Ins.self PE9) (g := (mkF m 2 #[oR b2, .val (.int y0)] [(.int y0), vR b2])) rfl (by rw [hml]; rfl) (ow119 hw) (argsL := [(.int y0)]) (rest := []) (lenOf pd9 rfl) rfl (by show 2 * 0 + _ ≤ _; exact Nat.le_of_eq rfl) (hb hby d18_2) (fun _ _ => ⟨rfl, e0, (by decide : 0 + 0 ≤ _), (by decide : 0 + 0 ≤ _)⟩))
  obtain ⟨us5a, rfl, N5q, K5, g5_0, g5_1, g5_2, g5_3, g5_4⟩ := hQ5
  have N5 := Fr.app N0 N5q
  have eK5 : T5.heap = T5.heap := rfl
  have KK5 : Keep h0 T5.heap [b2, b56a] := Keep.trans (Keep.refl h0 [b2, b56a]) K5 (allS (Or.inl (List.mem_of_getElem? (i := 1) rfl)) (allS (Or.inl (List.mem_of_getElem? (i := 0) rfl)) all0))
  obtain ⟨_, X5, N5⟩ := own_hide X5 N5
  refine own_go (T' := T5) (f' := (mkF m 7 #[oR b2, .val (.int y0)] [vR b2])) (fun _ k => st5.trans (own_e X5 tt 5 2 k rfl)) ?_
  refine own_ret X5 (v := some (.ref b2)) (oN Br) Bs (fun fs hr => own_retA X5 hx Br rfl rfl (hb hby d18_7) hr) ?_ (by decide) (by decide)
  unfold Q18a25
  rw [eK5]
  exact ⟨us5a, rfl, N5, KK5, g5_1, g5_2, g5_3, g5_0, g5_4⟩
theorem pd10 : parseMethodDescriptor "(I)Ljava/lang/StringBuilder;" = some ⟨[.int], some (.object "java/lang/StringBuilder")⟩ := by decide +kernel
def Q9a29 (Z : State)  (h0 : Heap) (n0 : Nat) (v : Option Value) (h : Heap) (L : List Loc) : Prop := v = some (.int (5 : Int32)) ∧ Fr n0 L ∧ h = h0
set_option maxRecDepth 65536 in
set_option maxHeartbeats 40000000 in
theorem rm9a29 (l : Launch) (Z : State) (a0 : Array Value) (hw : HW a0 Z) (ws : List Jvm.Cond) (a3 : Addr) (cs : Int32) (b3 : Addr) (kc3 : ClassId) (h0 : Heap) (n0 : Nat) (Z0 : n0 ≤ h0.size) (PS0 : Sta Z h0 "java/lang/String" "COMPACT_STRINGS" "Z" (.int cs)) (PE21 : Exa Z h0 a3 "java/lang/String") (PF22 : oF3 Z h0 a3 (.int (0 : Int32))) (PF23 : oF4 Z h0 a3 (.ref b3)) (PV24 : Arv Z h0 b3 kc3 .byte (5 : Int32) own_ls4 (.int (0 : Int32))) (PP0 : ¬ (cs = (0 : Int32))) :
    own_Met l mn7 jdk_42_method_54_code 1 (some .int) ws (oRm 1 0 0 13) #[(.ref a3)] Z h0 (Q9a29 Z  h0 n0) := by
  refine own_met (own := "java/lang/String") rfl (plainFor_of_name pn_7) ?_
  intro p e s m below meth c s₁ hx hby hml hZ hown hnm X0 e0 Br Bs
  have N0 := Fr.nil n0
  have tt := own_tt hx hby own_ok9
  show own_Ends p e below s _ _ _ s₁ (mkF m 0 #[oR a3] [])
  refine own_go (T' := s₁) (f' := (mkF m 1 #[oR a3] [vR a3])) (fun _ k => own_e X0 tt 0 1 k rfl) ?_
  obtain ⟨T4, X4, e4, st4⟩ := getF X0 hx hZ hown (host := "") (Or.inl (ow58 hw)) Via.refl e0 PF23 (g := (mkF m 1 #[oR a3] [vR a3])) rfl rfl (hb hby d9_1)
  refine own_go (T' := T4) (f' := (mkF m 6 #[oR a3] [vR a3, vI 5])) (fun _ k => st4 _ (own_alen X4 hx hZ e4 PV24 rfl rfl (hb hby d9_4) (own_e X4 tt 5 1 k rfl))) ?_
  obtain ⟨cq5, kq5, q5a, q5b, q5c⟩ := isOf hZ e4 PE21
  obtain ⟨_, T5, Lc5, X5, hQ5, st5⟩ := own_out (X4.virtualBack hx (y := mn6) (z := mn6) hown (mvT hZ (ow59 hw)) (mvT hZ (ow60 hw)) (notFace_of_selects (args := #[]) (mvT hZ (ow62 hw))) (mvT hZ (ow62 hw)) (mvT hZ (ow61 hw)) (by decide) (backOf (W := 1) (rm10a6 l Z a0 hw [] a3 cs h0 n0 Z0 PS0 PF22 PP0) hZ (ow63 hw) (ow31 hw) (by decide) (by decide)) q5a q5c (g := (mkF m 6 #[oR a3] [vR a3, vI 5])) rfl (by rw [hml]; rfl) (Steps.refl _) (argsL := []) (rest := [(.int (5 : Int32))]) (lenOf pd0 rfl) rfl (by show 2 * 0 + _ ≤ _; exact Nat.le_of_eq rfl) (hb hby d9_6) (fun _ _ => ⟨rfl, e4, (by decide : 0 + 0 ≤ _), (by decide : 0 + 0 ≤ _)⟩))
  obtain ⟨rfl, N5q, hh5⟩ := hQ5
  have N5 := Fr.app N0 N5q
  obtain ⟨_, X5, N5⟩ := own_hide X5 N5
  refine own_go (T' := T5) (f' := (mkF m 10 #[oR a3] [vI 5])) (fun _ k => st5.trans (own_e X5 tt 9 1 k rfl)) ?_
  refine own_ret X5 (v := some (.int (5 : Int32))) (oN Br) Bs (fun fs hr => retI X5 hx Br (hb hby d9_10) hr) ?_ (by decide) (by decide)
  unfold Q9a29
  exact ⟨rfl, N5, hh5⟩
def Q11a33 (Z : State)  (h0 : Heap) (n0 : Nat) (v : Option Value) (h : Heap) (L : List Loc) : Prop := v = none ∧ Fr n0 L ∧ h = h0
set_option maxRecDepth 65536 in
set_option maxHeartbeats 40000000 in
theorem rm11a33 (l : Launch) (Z : State) (a0 : Array Value) (hw : HW a0 Z) (ws : List Jvm.Cond) (b2 : Addr) (i4 : Int32) (b56a : Addr) (k56b : ClassId) (us5a : List Value) (h0 : Heap) (n0 : Nat) (Z0 : n0 ≤ h0.size) (PF10 : oF0 Z h0 b2 (.ref b56a)) (PF11 : oF1 Z h0 b2 (.int (0 : Int32))) (PV19 : Arv Z h0 b56a k56b .byte (34 : Int32) us5a (.int (0 : Int32))) (PP3 : ¬ ((0 : Int32) < (i4 - (34 : Int32)))) :
    own_Met l mn11 jdk_68_method_9_code 3 none ws (oRm 0 0 0 0) #[(.ref b2), (.int i4)] Z h0 (Q11a33 Z  h0 n0) := by
  refine own_met (own := "java/lang/AbstractStringBuilder") rfl (plainFor_of_name pn_3) ?_
  intro p e s m below meth c s₁ hx hby hml hZ hown hnm X0 e0 Br Bs
  have N0 := Fr.nil n0
  have tt := own_tt hx hby own_ok11
  show own_Ends p e below s _ _ _ s₁ (mkF m 0 #[oR b2, .val (.int i4), oU] [])
  refine own_go (T' := s₁) (f' := (mkF m 1 #[oR b2, .val (.int i4), oU] [vR b2])) (fun _ k => own_e X0 tt 0 1 k rfl) ?_
  obtain ⟨T6, X6, e6, st6⟩ := getF X0 hx hZ hown (host := "") (Or.inl (ow33 hw)) Via.refl e0 PF10 (g := (mkF m 1 #[oR b2, .val (.int i4), oU] [vR b2])) rfl rfl (hb hby d11_1)
  refine own_go (T' := T6) (f' := (mkF m 6 #[oR b2, .val (.int i4), oU] [vR b2, vI 34])) (fun _ k => st6 _ (own_alen X6 hx hZ e6 PV19 rfl rfl (hb hby d11_4) (own_e X6 tt 5 1 k rfl))) ?_
  obtain ⟨T7, X7, e7, st7⟩ := getF X6 hx hZ hown (host := "") (Or.inl (ow35 hw)) Via.refl e6 PF11 (g := (mkF m 6 #[oR b2, .val (.int i4), oU] [vR b2, vI 34])) rfl rfl (hb hby d11_6)
  refine own_go (T' := T7) (f' := (mkF m 14 #[oR b2, .val (.int i4), oI 34] [(.int (i4 - (34 : Int32)))])) (fun _ k => st7 _ (own_e X7 tt 9 5 k rfl)) ?_
  refine own_go (T' := T7) (f' := (mkF m 38 #[oR b2, .val (.int i4), oI 34] [])) (fun _ k => XS.ifYes X7.here hx rfl (pc0 := 14) (pc' := 38) rfl (hb hby d11_14) rfl ((if0 _ _).trans (flt PP3).2.2.2) (by decide) (by decide) k) ?_
  refine own_ret X7 (v := none) (fun _ => rfl) Bs (fun fs hr => X7.returnOut hx Br (hb hby d11_38) hr) ?_ (by decide) (by decide)
  unfold Q11a33
  exact ⟨rfl, N0, e7⟩
def Q17a43 (Z : State) (b56a : Addr) (k56b : ClassId) (h0 : Heap) (n0 : Nat) (v : Option Value) (h : Heap) (L : List Loc) : Prop := ∃ (us3 : List Value), v = none ∧ Fr n0 L ∧ Keep h0 h [b56a] ∧ Arv Z h b56a k56b .byte (34 : Int32) us3 (.int (0 : Int32)) ∧ us3.length = ((34 : Int32)).toNatClampNeg
set_option maxRecDepth 65536 in
set_option maxHeartbeats 40000000 in
theorem rm17a43 (l : Launch) (Z : State) (a0 : Array Value) (hw : HW a0 Z) (ws : List Jvm.Cond) (a3 : Addr) (b56a : Addr) (i6 : Int32) (cs : Int32) (k56b : ClassId) (us7a : List Value) (b3 : Addr) (kc3 : ClassId) (h0 : Heap) (n0 : Nat) (Z0 : n0 ≤ h0.size) (PS0 : Sta Z h0 "java/lang/String" "COMPACT_STRINGS" "Z" (.int cs)) (PV19 : Arv Z h0 b56a k56b .byte (34 : Int32) us7a (.int (0 : Int32))) (PE21 : Exa Z h0 a3 "java/lang/String") (PF22 : oF3 Z h0 a3 (.int (0 : Int32))) (PF23 : oF4 Z h0 a3 (.ref b3)) (PV24 : Arv Z h0 b3 kc3 .byte (5 : Int32) own_ls4 (.int (0 : Int32))) (PP0 : ¬ (cs = (0 : Int32))) (PP4 : ¬ ((29 : Int32) < (i6 <<< ((0 : Int32) &&& 31)))) (PP5 : ¬ ((i6 <<< ((0 : Int32) &&& 31)) < (0 : Int32))) (n_b56a : n0 ≤ b56a) (pr_len_us7a : us7a.length = ((34 : Int32)).toNatClampNeg) :
    own_Met l mn13 jdk_42_method_147_code 4 none ws (oRm 1 0 0 18) #[(.ref a3), (.ref b56a), (.int i6), (.int (0 : Int32))] Z h0 (Q17a43 Z b56a k56b h0 n0) := by
  refine own_met (own := "java/lang/String") rfl (plainFor_of_name pn_7) ?_
  intro p e s m below meth c s₁ hx hby hml hZ hown hnm X0 e0 Br Bs
  have N0 := Fr.nil n0
  have tt := own_tt hx hby own_ok17
  show own_Ends p e below s _ _ _ s₁ (mkF m 0 #[oR a3, oR b56a, .val (.int i6), oI 0] [])
  refine own_go (T' := s₁) (f' := (mkF m 1 #[oR a3, oR b56a, .val (.int i6), oI 0] [vR a3])) (fun _ k => own_e X0 tt 0 1 k rfl) ?_
  obtain ⟨cq8, kq8, q8a, q8b, q8c⟩ := isOf hZ e0 PE21
  obtain ⟨_, T8, Lc8, X8, hQ8, st8⟩ := own_out (X0.virtualBack hx (y := mn6) (z := mn6) hown (mvT hZ (ow59 hw)) (mvT hZ (ow60 hw)) (notFace_of_selects (args := #[]) (mvT hZ (ow62 hw))) (mvT hZ (ow62 hw)) (mvT hZ (ow61 hw)) (by decide) (backOf (W := 0) (rm10a6 l Z a0 hw [] a3 cs h0 n0 Z0 PS0 PF22 PP0) hZ (ow63 hw) (ow31 hw) (by decide) (by decide)) q8a q8c (g := (mkF m 1 #[oR a3, oR b56a, .val (.int i6), oI 0] [vR a3])) rfl (by rw [hml]; rfl) (Steps.refl _) (argsL := []) (rest := []) (lenOf pd0 rfl) rfl (by show 2 * 0 + _ ≤ _; exact Nat.le_of_eq rfl) (hb hby d17_1) (fun _ _ => ⟨rfl, e0, (by decide : 0 + 0 ≤ _), (by decide : 0 + 0 ≤ _)⟩))
  obtain ⟨rfl, N8q, hh8⟩ := hQ8
  have N8 := Fr.app N0 N8q
  obtain ⟨_, X8, N8⟩ := own_hide X8 N8
  refine own_go (T' := T8) (f' := (mkF m 9 #[oR a3, oR b56a, .val (.int i6), oI 0] [vR a3])) (fun _ k => st8.trans (own_e X8 tt 4 3 k rfl)) ?_
  obtain ⟨T9, X9, e9, st9⟩ := getF X8 hx hZ hown (host := "") (Or.inl (ow58 hw)) Via.refl hh8 PF23 (g := (mkF m 9 #[oR a3, oR b56a, .val (.int i6), oI 0] [vR a3])) rfl rfl (hb hby d17_9)
  refine own_go (T' := T9) (f' := (mkF m 18 #[oR a3, oR b56a, .val (.int i6), oI 0] [vR a3, (.int (i6 <<< ((0 : Int32) &&& 31))), vR b56a, vI 0, vR b3])) (fun _ k => st9 _ (own_e X9 tt 12 6 k rfl)) ?_
  obtain ⟨T10, X10, e10, st10⟩ := getF X9 hx hZ hown (host := "") (Or.inl (ow58 hw)) Via.refl e9 PF23 (g := (mkF m 18 #[oR a3, oR b56a, .val (.int i6), oI 0] [vR a3, (.int (i6 <<< ((0 : Int32) &&& 31))), vR b56a, vI 0, vR b3])) rfl rfl (hb hby d17_18)
  refine own_go (T' := T10) (f' := (mkF m 22 #[oR a3, oR b56a, .val (.int i6), oI 0] [vI 5, (.int (i6 <<< ((0 : Int32) &&& 31))), vR b56a, vI 0, vR b3])) (fun _ k => st10 _ (own_alen X10 hx hZ e10 PV24 rfl rfl (hb hby d17_21) k)) ?_
  obtain ⟨T11, h11, Lq11, X11, e11, N11, K11, V11, st11⟩ := cpA X10 hx hZ hown (ow110 hw) (ow93 hw) (ow91 hw) (ow92 hw) e10 PV24 PV19 (Or.inl ⟨rfl, rfl⟩) (sp := (0 : Int32)) (dp := (i6 <<< ((0 : Int32) &&& 31))) (nn := (5 : Int32)) (by decide) PP5 (by decide) (by decide) (own_cl (k := (29 : Int32)) (by decide) (by decide) (by decide) PP4) rfl (by rw [pr_len_us7a]; exact (own_cl (k := (29 : Int32)) (by decide) (by decide) (by decide) PP4)) N8 n_b56a (g := (mkF m 22 #[oR a3, oR b56a, .val (.int i6), oI 0] [vI 5, (.int (i6 <<< ((0 : Int32) &&& 31))), vR b56a, vI 0, vR b3])) rfl (by rw [hml]; rfl) rfl (hb hby d17_22) (by decide) (W := 0) (by show 2 * 0 + _ ≤ _; exact Nat.le_of_eq rfl) (by decide)
  obtain ⟨us11, hl11, Vo11⟩ := own_open V11
  have KK11 : Keep h0 h11 [b56a] := Keep.trans (Keep.refl h0 [b56a]) K11 (allS (Or.inl (List.mem_of_getElem? (i := 0) rfl)) all0)
  refine own_go (T' := T11) (f' := (mkF m 43 #[oR a3, oR b56a, .val (.int i6), oI 0] [])) (fun _ k => st11 _ (own_e X11 tt 25 1 k rfl)) ?_
  refine own_ret X11 (v := none) (fun _ => rfl) Bs (fun fs hr => X11.returnOut hx Br (hb hby d17_43) hr) ?_ (by decide) (by decide)
  unfold Q17a43
  rw [e11]
  exact ⟨us11, rfl, N11, KK11, Vo11, hl11⟩
def Q15a42 (Z : State) (b56a : Addr) (k56b : ClassId) (h0 : Heap) (n0 : Nat) (v : Option Value) (h : Heap) (L : List Loc) : Prop := ∃ (us3a : List Value), v = none ∧ Fr n0 L ∧ Keep h0 h [b56a] ∧ Arv Z h b56a k56b .byte (34 : Int32) us3a (.int (0 : Int32)) ∧ us3a.length = ((34 : Int32)).toNatClampNeg
set_option maxRecDepth 65536 in
set_option maxHeartbeats 40000000 in
theorem rm15a42 (l : Launch) (Z : State) (a0 : Array Value) (hw : HW a0 Z) (ws : List Jvm.Cond) (b2 : Addr) (i3 : Int32) (a6 : Addr) (cs : Int32) (b56a : Addr) (k56b : ClassId) (us7a : List Value) (b6 : Addr) (kc6 : ClassId) (h0 : Heap) (n0 : Nat) (Z0 : n0 ≤ h0.size) (PS0 : Sta Z h0 "java/lang/String" "COMPACT_STRINGS" "Z" (.int cs)) (PE9 : Exa Z h0 b2 "java/lang/StringBuilder") (PF10 : oF0 Z h0 b2 (.ref b56a)) (PF11 : oF1 Z h0 b2 (.int (0 : Int32))) (PV19 : Arv Z h0 b56a k56b .byte (34 : Int32) us7a (.int (0 : Int32))) (PE21 : Exa Z h0 a6 "java/lang/String") (PF22 : oF3 Z h0 a6 (.int (0 : Int32))) (PF23 : oF4 Z h0 a6 (.ref b6)) (PV24 : Arv Z h0 b6 kc6 .byte (5 : Int32) own_ls4 (.int (0 : Int32))) (PP0 : ¬ (cs = (0 : Int32))) (PP4 : ¬ ((29 : Int32) < (i3 <<< ((0 : Int32) &&& 31)))) (PP5 : ¬ ((i3 <<< ((0 : Int32) &&& 31)) < (0 : Int32))) (n_b56a : n0 ≤ b56a) (pr_len_us7a : us7a.length = ((34 : Int32)).toNatClampNeg) :
    own_Met l mn14 jdk_68_method_73_code 3 none ws (oRm 2 0 0 33) #[(.ref b2), (.int i3), (.ref a6)] Z h0 (Q15a42 Z b56a k56b h0 n0) := by
  refine own_met (own := "java/lang/AbstractStringBuilder") rfl (plainFor_of_name pn_3) ?_
  intro p e s m below meth c s₁ hx hby hml hZ hown hnm X0 e0 Br Bs
  have N0 := Fr.nil n0
  have tt := own_tt hx hby own_ok15
  show own_Ends p e below s _ _ _ s₁ (mkF m 0 #[oR b2, .val (.int i3), oR a6] [])
  refine own_go (T' := s₁) (f' := (mkF m 2 #[oR b2, .val (.int i3), oR a6] [vR a6, vR b2])) (fun _ k => own_e X0 tt 0 2 k rfl) ?_
  obtain ⟨cq8, q8, q8'⟩ := PE9.cell
  obtain ⟨_, T8, Lc8, X8, hQ8, st8⟩ := own_out (X0.privateBack hx (y := mn12) hown (mvT hZ (ow99 hw)) (mvT hZ (ow100 hw)) (own_selp (mvT hZ (ow102 hw)) (Cond.privateMethod_at (mvP hZ (ow101 hw) (args := #[]))) (mvT hZ (ow100 hw)) (by decide)) (Cond.privateMethod_at (mvP hZ (ow101 hw) (args := #[]))) (mvT hZ (ow103 hw)) (by decide) (backOf (W := 0) (rm16a14 l Z a0 hw [] b2 a6 cs h0 n0 Z0 PS0 PF11 PE21 PF22 PP0) hZ (ow103 hw) (ow25 hw) (by decide) (by decide)) (g := (mkF m 2 #[oR b2, .val (.int i3), oR a6] [vR a6, vR b2])) rfl (by rw [hml]; rfl) (Steps.refl _) (a := b2) (by rw [e0]; exact q8) q8' (argsL := [(.ref a6)]) (rest := []) (lenOf pd24 rfl) rfl (by show 2 * 0 + _ ≤ _; exact Nat.le_of_eq rfl) (hb hby d15_2) (fun _ _ => ⟨rfl, e0, (by decide : 0 + 0 ≤ _), (by decide : 0 + 0 ≤ _)⟩))
  obtain ⟨rfl, N8q, hh8⟩ := hQ8
  have N8 := Fr.app N0 N8q
  obtain ⟨_, X8, N8⟩ := own_hide X8 N8
  refine own_go (T' := T8) (f' := (mkF m 7 #[oR b2, .val (.int i3), oR a6] [vR b2, vR a6])) (fun _ k => st8.trans (own_e X8 tt 5 2 k rfl)) ?_
  obtain ⟨T12, X12, e12, st12⟩ := getF X8 hx hZ hown (host := "") (Or.inl (ow33 hw)) Via.refl hh8 PF10 (g := (mkF m 7 #[oR b2, .val (.int i3), oR a6] [vR b2, vR a6])) rfl rfl (hb hby d15_7)
  refine own_go (T' := T12) (f' := (mkF m 12 #[oR b2, .val (.int i3), oR a6] [vR b2, (.int i3), vR b56a, vR a6])) (fun _ k => st12 _ (own_e X12 tt 10 2 k rfl)) ?_
  obtain ⟨T13, X13, e13, st13⟩ := getF X12 hx hZ hown (host := "") (Or.inl (ow35 hw)) Via.refl e12 PF11 (g := (mkF m 12 #[oR b2, .val (.int i3), oR a6] [vR b2, (.int i3), vR b56a, vR a6])) rfl rfl (hb hby d15_12)
  refine own_go (T' := T13) (f' := (mkF m 15 #[oR b2, .val (.int i3), oR a6] [vI 0, (.int i3), vR b56a, vR a6])) (fun _ k => st13 _ k) ?_
  obtain ⟨cq14, kq14, q14a, q14b, q14c⟩ := isOf hZ e13 PE21
  obtain ⟨_, T14, Lc14, X14, hQ14, st14⟩ := own_out (X13.virtualBack hx (y := mn13) (z := mn13) hown (mvT hZ (ow105 hw)) (mvT hZ (ow106 hw)) (notFace_of_selects (args := #[]) (mvT hZ (ow108 hw))) (mvT hZ (ow108 hw)) (mvT hZ (ow107 hw)) (by decide) (backOf (W := 0) (rm17a43 l Z a0 hw [] a6 b56a i3 cs k56b us7a b6 kc6 h0 n0 Z0 PS0 PV19 PE21 PF22 PF23 PV24 PP0 PP4 PP5 n_b56a pr_len_us7a) hZ (ow109 hw) (ow31 hw) (by decide) (by decide)) q14a q14c (g := (mkF m 15 #[oR b2, .val (.int i3), oR a6] [vI 0, (.int i3), vR b56a, vR a6])) rfl (by rw [hml]; rfl) (Steps.refl _) (argsL := [(.ref b56a), (.int i3), (.int (0 : Int32))]) (rest := []) (lenOf pd28 rfl) rfl (by show 2 * 0 + _ ≤ _; exact Nat.le_of_eq rfl) (hb hby d15_15) (fun _ _ => ⟨rfl, e13, (by decide : 0 + 0 ≤ _), (by decide : 0 + 0 ≤ _)⟩))
  obtain ⟨us14a, rfl, N14q, K14, g14_0, g14_1⟩ := hQ14
  have N14 := Fr.app N8 N14q
  have eK14 : T14.heap = T14.heap := rfl
  have KK14 : Keep h0 T14.heap [b56a] := Keep.trans (Keep.refl h0 [b56a]) K14 (allS (Or.inl (List.mem_of_getElem? (i := 0) rfl)) all0)
  obtain ⟨_, X14, N14⟩ := own_hide X14 N14
  refine own_go (T' := T14) (f' := (mkF m 18 #[oR b2, .val (.int i3), oR a6] [])) (fun _ k => st14.trans k) ?_
  refine own_ret X14 (v := none) (fun _ => rfl) Bs (fun fs hr => X14.returnOut hx Br (hb hby d15_18) hr) ?_ (by decide) (by decide)
  unfold Q15a42
  rw [eK14]
  exact ⟨us14a, rfl, N14, KK14, g14_0, g14_1⟩
def Q8a41 (Z : State) (b2 : Addr) (b56a : Addr) (i3 : Int32) (k56b : ClassId) (h0 : Heap) (n0 : Nat) (v : Option Value) (h : Heap) (L : List Loc) : Prop := ∃ (us4a : List Value), v = some (.ref b2) ∧ Fr n0 L ∧ Keep h0 h [b56a, b2] ∧ Arv Z h b56a k56b .byte (34 : Int32) us4a (.int (0 : Int32)) ∧ oF0 Z h b2 (.ref b56a) ∧ oF1 Z h b2 (.int (0 : Int32)) ∧ oF2 Z h b2 (.int (i3 + (5 : Int32))) ∧ us4a.length = ((34 : Int32)).toNatClampNeg
set_option maxRecDepth 65536 in
set_option maxHeartbeats 40000000 in
theorem rm8a41 (l : Launch) (Z : State) (a0 : Array Value) (hw : HW a0 Z) (ws : List Jvm.Cond) (b2 : Addr) (a6 : Addr) (cs : Int32) (b56a : Addr) (i7 : Int32) (k56b : ClassId) (us8a : List Value) (b6 : Addr) (kc6 : ClassId) (h0 : Heap) (n0 : Nat) (Z0 : n0 ≤ h0.size) (PS0 : Sta Z h0 "java/lang/String" "COMPACT_STRINGS" "Z" (.int cs)) (PE9 : Exa Z h0 b2 "java/lang/StringBuilder") (PF10 : oF0 Z h0 b2 (.ref b56a)) (PF11 : oF1 Z h0 b2 (.int (0 : Int32))) (PF12 : oF2 Z h0 b2 (.int i7)) (PV19 : Arv Z h0 b56a k56b .byte (34 : Int32) us8a (.int (0 : Int32))) (PE21 : Exa Z h0 a6 "java/lang/String") (PF22 : oF3 Z h0 a6 (.int (0 : Int32))) (PF23 : oF4 Z h0 a6 (.ref b6)) (PV24 : Arv Z h0 b6 kc6 .byte (5 : Int32) own_ls4 (.int (0 : Int32))) (PP0 : ¬ (cs = (0 : Int32))) (PP3 : ¬ ((0 : Int32) < ((i7 + (5 : Int32)) - (34 : Int32)))) (PP4 : ¬ ((29 : Int32) < (i7 <<< ((0 : Int32) &&& 31)))) (PP5 : ¬ ((i7 <<< ((0 : Int32) &&& 31)) < (0 : Int32))) (ne_b2_b56a : b2 ≠ b56a) (ne_b56a_b2 : b56a ≠ b2) (n_b2 : n0 ≤ b2) (n_b56a : n0 ≤ b56a) (pr_len_us8a : us8a.length = ((34 : Int32)).toNatClampNeg) :
    own_Met l mn15 jdk_68_method_22_code 3 (some (.object "java/lang/AbstractStringBuilder")) ws (oRm 3 0 0 47) #[(.ref b2), (.ref a6)] Z h0 (Q8a41 Z b2 b56a i7 k56b h0 n0) := by
  refine own_met (own := "java/lang/AbstractStringBuilder") rfl (plainFor_of_name pn_3) ?_
  intro p e s m below meth c s₁ hx hby hml hZ hown hnm X0 e0 Br Bs
  have N0 := Fr.nil n0
  have tt := own_tt hx hby own_ok8
  show own_Ends p e below s _ _ _ s₁ (mkF m 0 #[oR b2, oR a6, oU] [])
  refine own_go (T' := s₁) (f' := (mkF m 10 #[oR b2, oR a6, oU] [vR a6])) (fun _ k => own_e X0 tt 0 3 k rfl) ?_
  obtain ⟨cq13, kq13, q13a, q13b, q13c⟩ := isOf hZ e0 PE21
  obtain ⟨_, T13, Lc13, X13, hQ13, st13⟩ := own_out (X0.virtualBack hx (y := mn7) (z := mn7) hown (mvT hZ (ow53 hw)) (mvT hZ (ow54 hw)) (notFace_of_selects (args := #[]) (mvT hZ (ow56 hw))) (mvT hZ (ow56 hw)) (mvT hZ (ow55 hw)) (by decide) (backOf (W := 0) (rm9a29 l Z a0 hw [] a6 cs b6 kc6 h0 n0 Z0 PS0 PE21 PF22 PF23 PV24 PP0) hZ (ow57 hw) (ow31 hw) (by decide) (by decide)) q13a q13c (g := (mkF m 10 #[oR b2, oR a6, oU] [vR a6])) rfl (by rw [hml]; rfl) (Steps.refl _) (argsL := []) (rest := []) (lenOf pd1 rfl) rfl (by show 2 * 0 + _ ≤ _; exact Nat.le_of_eq rfl) (hb hby d8_10) (fun _ _ => ⟨rfl, e0, (by decide : 0 + 0 ≤ _), (by decide : 0 + 0 ≤ _)⟩))
  obtain ⟨rfl, N13q, hh13⟩ := hQ13
  have N13 := Fr.app N0 N13q
  obtain ⟨_, X13, N13⟩ := own_hide X13 N13
  refine own_go (T' := T13) (f' := (mkF m 16 #[oR b2, oR a6, oI 5] [vR b2, vR b2])) (fun _ k => st13.trans (own_e X13 tt 13 3 k rfl)) ?_
  obtain ⟨T14, X14, e14, st14⟩ := getF X13 hx hZ hown (host := "") (Or.inl (ow66 hw)) Via.refl hh13 PF12 (g := (mkF m 16 #[oR b2, oR a6, oI 5] [vR b2, vR b2])) rfl rfl (hb hby d8_16)
  refine own_go (T' := T14) (f' := (mkF m 21 #[oR b2, oR a6, oI 5] [(.int (i7 + (5 : Int32))), vR b2])) (fun _ k => st14 _ (own_e X14 tt 19 2 k rfl)) ?_
  obtain ⟨cq15, q15, q15'⟩ := PE9.cell
  obtain ⟨_, T15, Lc15, X15, hQ15, st15⟩ := own_out (X14.privateBack hx (y := mn11) hown (mvT hZ (ow68 hw)) (mvT hZ (ow69 hw)) (own_selp (mvT hZ (ow71 hw)) (Cond.privateMethod_at (mvP hZ (ow70 hw) (args := #[]))) (mvT hZ (ow69 hw)) (by decide)) (Cond.privateMethod_at (mvP hZ (ow70 hw) (args := #[]))) (mvT hZ (ow72 hw)) (by decide) (backOf (W := 0) (rm11a33 l Z a0 hw [] b2 (i7 + (5 : Int32)) b56a k56b us8a h0 n0 Z0 PF10 PF11 PV19 PP3) hZ (ow72 hw) (ow25 hw) (by decide) (by decide)) (g := (mkF m 21 #[oR b2, oR a6, oI 5] [(.int (i7 + (5 : Int32))), vR b2])) rfl (by rw [hml]; rfl) (Steps.refl _) (a := b2) (by rw [e14]; exact q15) q15' (argsL := [(.int (i7 + (5 : Int32)))]) (rest := []) (lenOf pd11 rfl) rfl (by show 2 * 0 + _ ≤ _; exact Nat.le_of_eq rfl) (hb hby d8_21) (fun _ _ => ⟨rfl, e14, (by decide : 0 + 0 ≤ _), (by decide : 0 + 0 ≤ _)⟩))
  obtain ⟨rfl, N15q, hh15⟩ := hQ15
  have N15 := Fr.app N13 N15q
  obtain ⟨_, X15, N15⟩ := own_hide X15 N15
  refine own_go (T' := T15) (f' := (mkF m 26 #[oR b2, oR a6, oI 5] [vR b2, vR b2])) (fun _ k => st15.trans (own_e X15 tt 24 2 k rfl)) ?_
  obtain ⟨T16, X16, e16, st16⟩ := getF X15 hx hZ hown (host := "") (Or.inl (ow66 hw)) Via.refl hh15 PF12 (g := (mkF m 26 #[oR b2, oR a6, oI 5] [vR b2, vR b2])) rfl rfl (hb hby d8_26)
  refine own_go (T' := T16) (f' := (mkF m 30 #[oR b2, oR a6, oI 5] [vR a6, (.int i7), vR b2])) (fun _ k => st16 _ (own_e X16 tt 29 1 k rfl)) ?_
  obtain ⟨cq17, q17, q17'⟩ := PE9.cell
  obtain ⟨_, T17, Lc17, X17, hQ17, st17⟩ := own_out (X16.privateBack hx (y := mn14) hown (mvT hZ (ow94 hw)) (mvT hZ (ow95 hw)) (own_selp (mvT hZ (ow97 hw)) (Cond.privateMethod_at (mvP hZ (ow96 hw) (args := #[]))) (mvT hZ (ow95 hw)) (by decide)) (Cond.privateMethod_at (mvP hZ (ow96 hw) (args := #[]))) (mvT hZ (ow98 hw)) (by decide) (backOf (W := 0) (rm15a42 l Z a0 hw [] b2 i7 a6 cs b56a k56b us8a b6 kc6 h0 n0 Z0 PS0 PE9 PF10 PF11 PV19 PE21 PF22 PF23 PV24 PP0 PP4 PP5 n_b56a pr_len_us8a) hZ (ow98 hw) (ow25 hw) (by decide) (by decide)) (g := (mkF m 30 #[oR b2, oR a6, oI 5] [vR a6, (.int i7), vR b2])) rfl (by rw [hml]; rfl) (Steps.refl _) (a := b2) (by rw [e16]; exact q17) q17' (argsL := [(.int i7), (.ref a6)]) (rest := []) (lenOf pd18 rfl) rfl (by show 2 * 0 + _ ≤ _; exact Nat.le_of_eq rfl) (hb hby d8_30) (fun _ _ => ⟨rfl, e16, (by decide : 0 + 0 ≤ _), (by decide : 0 + 0 ≤ _)⟩))
  obtain ⟨us17a, rfl, N17q, K17, g17_0, g17_1⟩ := hQ17
  have N17 := Fr.app N15 N17q
  have eK17 : T17.heap = T17.heap := rfl
  have KK17 : Keep h0 T17.heap [b56a, b2] := Keep.trans (Keep.refl h0 [b56a, b2]) K17 (allS (Or.inl (List.mem_of_getElem? (i := 0) rfl)) all0)
  obtain ⟨_, X17, N17⟩ := own_hide X17 N17
  refine own_go (T' := T17) (f' := (mkF m 35 #[oR b2, oR a6, oI 5] [vR b2, vR b2])) (fun _ k => st17.trans (own_e X17 tt 33 2 k rfl)) ?_
  obtain ⟨T18, X18, e18, st18⟩ := getF X17 hx hZ hown (host := "") (Or.inl (ow66 hw)) Via.refl eK17 (PF12.keep K17 (ninS ne_b2_b56a nin0)) (g := (mkF m 35 #[oR b2, oR a6, oI 5] [vR b2, vR b2])) rfl rfl (hb hby d8_35)
  refine own_go (T' := T18) (f' := (mkF m 40 #[oR b2, oR a6, oI 5] [(.int (i7 + (5 : Int32))), vR b2])) (fun _ k => st18 _ (own_e X18 tt 38 2 k rfl)) ?_
  obtain ⟨T20, h20, X20, e20, W20, st20⟩ := putF X18 hx hZ hown (host := "") (Or.inl (ow66 hw)) Via.refl e18 (PF12.keep K17 (ninS ne_b2_b56a nin0)) (PE9.keep K17) (Or.inl (ow67 hw)) (ow16 hw) (ty := .int) (by decide) rfl rfl (g := (mkF m 40 #[oR b2, oR a6, oI 5] [(.int (i7 + (5 : Int32))), vR b2])) rfl rfl (hb hby d8_40)
  have Fw20 := Fld.same W20 (PF12.keep K17 (ninS ne_b2_b56a nin0))
  have K20 : Keep h0 h20 [b56a, b2] := KK17.wr W20 (Or.inl (List.mem_of_getElem? (i := 1) rfl))
  have N20 := Fr.snoc X20 N17 n_b2
  refine own_go (T' := T20) (f' := (mkF m 44 #[oR b2, oR a6, oI 5] [vR b2])) (fun _ k => st20 _ (own_e X20 tt 43 1 k rfl)) ?_
  refine own_ret X20 (v := some (.ref b2)) (oN Br) Bs (fun fs hr => own_retA X20 hx Br rfl rfl (hb hby d8_44) hr) ?_ (by decide) (by decide)
  unfold Q8a41
  rw [e20]
  exact ⟨us17a, rfl, N20, K20, (g17_0.other W20 ne_b56a_b2), ((PF10.keep K17 (ninS ne_b2_b56a nin0)).other W20 (Or.inr (sn_34_67 hw))), ((PF11.keep K17 (ninS ne_b2_b56a nin0)).other W20 (Or.inr (sn_36_67 hw))), Fw20, g17_1⟩
def Q7a40 (Z : State) (b2 : Addr) (b56a : Addr) (i3 : Int32) (k56b : ClassId) (h0 : Heap) (n0 : Nat) (v : Option Value) (h : Heap) (L : List Loc) : Prop := ∃ (us4a : List Value), v = some (.ref b2) ∧ Fr n0 L ∧ Keep h0 h [b2, b56a] ∧ oF0 Z h b2 (.ref b56a) ∧ oF1 Z h b2 (.int (0 : Int32)) ∧ oF2 Z h b2 (.int (i3 + (5 : Int32))) ∧ Arv Z h b56a k56b .byte (34 : Int32) us4a (.int (0 : Int32)) ∧ us4a.length = ((34 : Int32)).toNatClampNeg
set_option maxRecDepth 65536 in
set_option maxHeartbeats 40000000 in
theorem rm7a40 (l : Launch) (Z : State) (a0 : Array Value) (hw : HW a0 Z) (ws : List Jvm.Cond) (b2 : Addr) (a6 : Addr) (cs : Int32) (b56a : Addr) (i7 : Int32) (k56b : ClassId) (us8a : List Value) (b6 : Addr) (kc6 : ClassId) (h0 : Heap) (n0 : Nat) (Z0 : n0 ≤ h0.size) (PS0 : Sta Z h0 "java/lang/String" "COMPACT_STRINGS" "Z" (.int cs)) (PE9 : Exa Z h0 b2 "java/lang/StringBuilder") (PF10 : oF0 Z h0 b2 (.ref b56a)) (PF11 : oF1 Z h0 b2 (.int (0 : Int32))) (PF12 : oF2 Z h0 b2 (.int i7)) (PV19 : Arv Z h0 b56a k56b .byte (34 : Int32) us8a (.int (0 : Int32))) (PE21 : Exa Z h0 a6 "java/lang/String") (PF22 : oF3 Z h0 a6 (.int (0 : Int32))) (PF23 : oF4 Z h0 a6 (.ref b6)) (PV24 : Arv Z h0 b6 kc6 .byte (5 : Int32) own_ls4 (.int (0 : Int32))) (PP0 : ¬ (cs = (0 : Int32))) (PP3 : ¬ ((0 : Int32) < ((i7 + (5 : Int32)) - (34 : Int32)))) (PP4 : ¬ ((29 : Int32) < (i7 <<< ((0 : Int32) &&& 31)))) (PP5 : ¬ ((i7 <<< ((0 : Int32) &&& 31)) < (0 : Int32))) (ne_b2_b56a : b2 ≠ b56a) (ne_b56a_b2 : b56a ≠ b2) (n_b2 : n0 ≤ b2) (n_b56a : n0 ≤ b56a) (pr_len_us8a : us8a.length = ((34 : Int32)).toNatClampNeg) :
    own_Met l mn16 jdk_67_method_7_code 2 (some (.object "java/lang/StringBuilder")) ws (oRm 4 0 0 61) #[(.ref b2), (.ref a6)] Z h0 (Q7a40 Z b2 b56a i7 k56b h0 n0) := by
  refine own_met (own := "java/lang/StringBuilder") rfl (plainFor_of_name pn_8) ?_
  intro p e s m below meth c s₁ hx hby hml hZ hown hnm X0 e0 Br Bs
  have N0 := Fr.nil n0
  have tt := own_tt hx hby own_ok7
  show own_Ends p e below s _ _ _ s₁ (mkF m 0 #[oR b2, oR a6] [])
  refine own_go (T' := s₁) (f' := (mkF m 2 #[oR b2, oR a6] [vR a6, vR b2])) (fun _ k => own_e X0 tt 0 2 k rfl) ?_
  obtain ⟨_, T13, Lc13, X13, hQ13, st13⟩ := own_out (superBack X0 hx hZ (y := mn15) hown (ow48 hw) (own_same (y := mn15) (y2 := mn11) (ow71 hw) rfl (ow49 hw) (by decide)) (ow49 hw) (ow50 hw) (by decide) (backOf (W := 0) (rm8a41 l Z a0 hw [] b2 a6 cs b56a i7 k56b us8a b6 kc6 h0 n0 Z0 PS0 PE9 PF10 PF11 PF12 PV19 PE21 PF22 PF23 PV24 PP0 PP3 PP4 PP5 ne_b2_b56a ne_b56a_b2 n_b2 n_b56a pr_len_us8a) hZ (ow52 hw) (ow25 hw) (by decide) (by decide)) e0 (Ins.self PE9) (g := (mkF m 2 #[oR b2, oR a6] [vR a6, vR b2])) rfl (by rw [hml]; rfl) (ow52 hw) (argsL := [(.ref a6)]) (rest := []) (lenOf pd22 rfl) rfl (by show 2 * 0 + _ ≤ _; exact Nat.le_of_eq rfl) (hb hby d7_2) (fun _ _ => ⟨rfl, e0, (by decide : 0 + 0 ≤ _), (by decide : 0 + 0 ≤ _)⟩))
  obtain ⟨us13a, rfl, N13q, K13, g13_0, g13_1, g13_2, g13_3, g13_4⟩ := hQ13
  have N13 := Fr.app N0 N13q
  have eK13 : T13.heap = T13.heap := rfl
  have KK13 : Keep h0 T13.heap [b2, b56a] := Keep.trans (Keep.refl h0 [b2, b56a]) K13 (allS (Or.inl (List.mem_of_getElem? (i := 1) rfl)) (allS (Or.inl (List.mem_of_getElem? (i := 0) rfl)) all0))
  obtain ⟨_, X13, N13⟩ := own_hide X13 N13
  refine own_go (T' := T13) (f' := (mkF m 7 #[oR b2, oR a6] [vR b2])) (fun _ k => st13.trans (own_e X13 tt 5 2 k rfl)) ?_
  refine own_ret X13 (v := some (.ref b2)) (oN Br) Bs (fun fs hr => own_retA X13 hx Br rfl rfl (hb hby d7_7) hr) ?_ (by decide) (by decide)
  unfold Q7a40
  rw [eK13]
  exact ⟨us13a, rfl, N13, KK13, g13_1, g13_2, g13_3, g13_0, g13_4⟩
def Q2a60 (Z : State)  (h0 : Heap) (n0 : Nat) (v : Option Value) (h : Heap) (L : List Loc) : Prop := v = some (.int (36 : Int32)) ∧ Fr n0 L ∧ h = h0
set_option maxRecDepth 65536 in
set_option maxHeartbeats 40000000 in
theorem rm2a60 (l : Launch) (Z : State) (a0 : Array Value) (hw : HW a0 Z) (ws : List Jvm.Cond) (i3 : Int32) (h0 : Heap) (n0 : Nat) (Z0 : n0 ≤ h0.size) (PP2 : i3 < (36 : Int32)) :
    own_Met l mn1 jdk_29_method_65_code 2 (some .int) ws (oRm 0 0 0 0) #[(.int i3), (.int (36 : Int32))] Z h0 (Q2a60 Z  h0 n0) := by
  refine own_met (own := "java/lang/Math") rfl (Jvm.Free.JP.mathPlain rfl (by decide +kernel)) ?_
  intro p e s m below meth c s₁ hx hby hml hZ hown hnm X0 e0 Br Bs
  have N0 := Fr.nil n0
  have tt := own_tt hx hby own_ok2
  show own_Ends p e below s _ _ _ s₁ (mkF m 0 #[.val (.int i3), oI 36] [])
  refine own_go (T' := s₁) (f' := (mkF m 2 #[.val (.int i3), oI 36] [vI 36, (.int i3)])) (fun _ k => own_e X0 tt 0 2 k rfl) ?_
  refine own_go (T' := s₁) (f' := (mkF m 10 #[.val (.int i3), oI 36] [vI 36])) (fun _ k => XS.icmpYes X0.here hx rfl (pc0 := 2) (pc' := 9) rfl (hb hby d2_2) rfl (tlt PP2).1 (by decide) (by decide) (own_e X0 tt 9 1 k rfl)) ?_
  refine own_ret X0 (v := some (.int (36 : Int32))) (oN Br) Bs (fun fs hr => retI X0 hx Br (hb hby d2_10) hr) ?_ (by decide) (by decide)
  unfold Q2a60
  exact ⟨rfl, N0, e0⟩
def Q13a59 (Z : State)  (h0 : Heap) (n0 : Nat) (v : Option Value) (h : Heap) (L : List Loc) : Prop := v = some (.int (70 : Int32)) ∧ Fr n0 L ∧ h = h0
set_option maxRecDepth 65536 in
set_option maxHeartbeats 40000000 in
theorem rm13a59 (l : Launch) (Z : State) (a0 : Array Value) (hw : HW a0 Z) (ws : List Jvm.Cond) (i3 : Int32) (h0 : Heap) (n0 : Nat) (Z0 : n0 ≤ h0.size) (PP2 : i3 < (36 : Int32)) :
    own_Met l mn8 jdk_48_method_27_code 4 (some .int) ws (oRm 1 0 0 14) #[(.int (34 : Int32)), (.int i3), (.int (36 : Int32))] Z h0 (Q13a59 Z  h0 n0) := by
  refine own_met (own := "jdk/internal/util/ArraysSupport") rfl (plainFor_of_name pn_12) ?_
  intro p e s m below meth c s₁ hx hby hml hZ hown hnm X0 e0 Br Bs
  have N0 := Fr.nil n0
  have tt := own_tt hx hby own_ok13
  show own_Ends p e below s _ _ _ s₁ (mkF m 0 #[oI 34, .val (.int i3), oI 36, oU] [])
  refine own_go (T' := s₁) (f' := (mkF m 3 #[oI 34, .val (.int i3), oI 36, oU] [vI 36, (.int i3), vI 34])) (fun _ k => own_e X0 tt 0 3 k rfl) ?_
  obtain ⟨_, T4, Lc4, X4, hQ4, st4⟩ := own_outC (Jvm.LawKit.callS X0 hx (y := mn1) hown (mvT hZ (ow82 hw)) (mvT hZ (ow6 hw)) (mvT hZ (ow3 hw)) (mvT hZ (ow7 hw)) (by decide) (backOf (W := 1) (rm2a60 l Z a0 hw [] i3 h0 n0 Z0 PP2) hZ (ow7 hw) (ow3 hw) (by decide) (by decide)) (g := (mkF m 3 #[oI 34, .val (.int i3), oI 36, oU] [vI 36, (.int i3), vI 34])) rfl (by rw [hml]; rfl) (argsL := [(.int i3), (.int (36 : Int32))]) (rest := [(.int (34 : Int32))]) (lenOf pd12 rfl) rfl (by show 2 * 0 + _ ≤ _; exact Nat.le_of_eq rfl) (hb hby d13_3) (fun _ _ => ⟨rfl, e0, (by decide : 0 + 0 ≤ _), (by decide : 0 + 0 ≤ _)⟩))
  obtain ⟨rfl, N4q, hh4⟩ := hQ4
  have N4 := Fr.app N0 N4q
  obtain ⟨_, X4, N4⟩ := own_hide X4 N4
  refine own_go (T' := T4) (f' := (mkF m 14 #[oI 34, .val (.int i3), oI 36, oI 70] [vI 70])) (fun _ k => st4 _ (own_e X4 tt 6 6 k rfl)) ?_
  refine own_go (T' := T4) (f' := (mkF m 20 #[oI 34, .val (.int i3), oI 36, oI 70] [vI 70])) (fun _ k => X4.ldcInt hx hown (mvT hZ (ow83 hw)) (g := (mkF m 14 #[oI 34, .val (.int i3), oI 36, oI 70] [vI 70])) rfl (hb hby d13_14) _ (own_e X4 tt 16 2 k rfl)) ?_
  refine own_ret X4 (v := some (.int (70 : Int32))) (oN Br) Bs (fun fs hr => retI X4 hx Br (hb hby d13_20) hr) ?_ (by decide) (by decide)
  unfold Q13a59
  exact ⟨rfl, N4, hh4⟩
def Q12a58 (Z : State)  (h0 : Heap) (n0 : Nat) (v : Option Value) (h : Heap) (L : List Loc) : Prop := v = some (.int (70 : Int32)) ∧ Fr n0 L ∧ h = h0
set_option maxRecDepth 65536 in
set_option maxHeartbeats 40000000 in
theorem rm12a58 (l : Launch) (Z : State) (a0 : Array Value) (hw : HW a0 Z) (ws : List Jvm.Cond) (b2 : Addr) (i4 : Int32) (b56a : Addr) (k56b : ClassId) (us5a : List Value) (h0 : Heap) (n0 : Nat) (Z0 : n0 ≤ h0.size) (PF10 : oF0 Z h0 b2 (.ref b56a)) (PF11 : oF1 Z h0 b2 (.int (0 : Int32))) (PV19 : Arv Z h0 b56a k56b .byte (34 : Int32) us5a (.int (0 : Int32))) (PP3 : ((i4 <<< ((0 : Int32) &&& 31)) - (34 : Int32)) < (36 : Int32)) :
    own_Met l mn9 jdk_68_method_10_code 6 (some .int) ws (oRm 2 0 0 29) #[(.ref b2), (.int i4)] Z h0 (Q12a58 Z  h0 n0) := by
  refine own_met (own := "java/lang/AbstractStringBuilder") rfl (plainFor_of_name pn_3) ?_
  intro p e s m below meth c s₁ hx hby hml hZ hown hnm X0 e0 Br Bs
  have N0 := Fr.nil n0
  have tt := own_tt hx hby own_ok12
  show own_Ends p e below s _ _ _ s₁ (mkF m 0 #[oR b2, .val (.int i4), oU, oU, oU, oU] [])
  refine own_go (T' := s₁) (f' := (mkF m 1 #[oR b2, .val (.int i4), oU, oU, oU, oU] [vR b2])) (fun _ k => own_e X0 tt 0 1 k rfl) ?_
  obtain ⟨T6, X6, e6, st6⟩ := getF X0 hx hZ hown (host := "") (Or.inl (ow33 hw)) Via.refl e0 PF10 (g := (mkF m 1 #[oR b2, .val (.int i4), oU, oU, oU, oU] [vR b2])) rfl rfl (hb hby d12_1)
  refine own_go (T' := T6) (f' := (mkF m 8 #[oR b2, .val (.int i4), oI 34, oU, oU, oU] [vR b2, (.int i4)])) (fun _ k => st6 _ (own_alen X6 hx hZ e6 PV19 rfl rfl (hb hby d12_4) (own_e X6 tt 5 3 k rfl))) ?_
  obtain ⟨T7, X7, e7, st7⟩ := getF X6 hx hZ hown (host := "") (Or.inl (ow35 hw)) Via.refl e6 PF11 (g := (mkF m 8 #[oR b2, .val (.int i4), oI 34, oU, oU, oU] [vR b2, (.int i4)])) rfl rfl (hb hby d12_8)
  refine own_go (T' := T7) (f' := (mkF m 24 #[oR b2, .val (.int i4), oI 34, .val (.int (i4 <<< ((0 : Int32) &&& 31))), .val (.int ((i4 <<< ((0 : Int32) &&& 31)) - (34 : Int32))), oU] [vR b2, vI 2, vI 34, (.int ((i4 <<< ((0 : Int32) &&& 31)) - (34 : Int32))), vI 34])) (fun _ k => st7 _ (own_e X7 tt 11 11 k rfl)) ?_
  obtain ⟨T8, X8, e8, st8⟩ := getF X7 hx hZ hown (host := "") (Or.inl (ow35 hw)) Via.refl e7 PF11 (g := (mkF m 24 #[oR b2, .val (.int i4), oI 34, .val (.int (i4 <<< ((0 : Int32) &&& 31))), .val (.int ((i4 <<< ((0 : Int32) &&& 31)) - (34 : Int32))), oU] [vR b2, vI 2, vI 34, (.int ((i4 <<< ((0 : Int32) &&& 31)) - (34 : Int32))), vI 34])) rfl rfl (hb hby d12_24)
  refine own_go (T' := T8) (f' := (mkF m 29 #[oR b2, .val (.int i4), oI 34, .val (.int (i4 <<< ((0 : Int32) &&& 31))), .val (.int ((i4 <<< ((0 : Int32) &&& 31)) - (34 : Int32))), oU] [vI 36, (.int ((i4 <<< ((0 : Int32) &&& 31)) - (34 : Int32))), vI 34])) (fun _ k => st8 _ (own_e X8 tt 27 2 k rfl)) ?_
  obtain ⟨_, T9, Lc9, X9, hQ9, st9⟩ := own_outC (Jvm.LawKit.callS X8 hx (y := mn8) hown (mvT hZ (ow78 hw)) (mvT hZ (ow79 hw)) (mvT hZ (ow80 hw)) (mvT hZ (ow81 hw)) (by decide) (backOf (W := 0) (rm13a59 l Z a0 hw [] ((i4 <<< ((0 : Int32) &&& 31)) - (34 : Int32)) h0 n0 Z0 PP3) hZ (ow81 hw) (ow80 hw) (by decide) (by decide)) (g := (mkF m 29 #[oR b2, .val (.int i4), oI 34, .val (.int (i4 <<< ((0 : Int32) &&& 31))), .val (.int ((i4 <<< ((0 : Int32) &&& 31)) - (34 : Int32))), oU] [vI 36, (.int ((i4 <<< ((0 : Int32) &&& 31)) - (34 : Int32))), vI 34])) rfl (by rw [hml]; rfl) (argsL := [(.int (34 : Int32)), (.int ((i4 <<< ((0 : Int32) &&& 31)) - (34 : Int32))), (.int (36 : Int32))]) (rest := []) (lenOf pd15 rfl) rfl (by show 2 * 0 + _ ≤ _; exact Nat.le_of_eq rfl) (hb hby d12_29) (fun _ _ => ⟨rfl, e8, (by decide : 0 + 0 ≤ _), (by decide : 0 + 0 ≤ _)⟩))
  obtain ⟨rfl, N9q, hh9⟩ := hQ9
  have N9 := Fr.app N0 N9q
  obtain ⟨_, X9, N9⟩ := own_hide X9 N9
  refine own_go (T' := T9) (f' := (mkF m 36 #[oR b2, .val (.int i4), oI 34, .val (.int (i4 <<< ((0 : Int32) &&& 31))), .val (.int ((i4 <<< ((0 : Int32) &&& 31)) - (34 : Int32))), oI 70] [vI 70])) (fun _ k => st9 _ (own_e X9 tt 32 2 k rfl)) ?_
  refine own_go (T' := T9) (f' := (mkF m 54 #[oR b2, .val (.int i4), oI 34, .val (.int (i4 <<< ((0 : Int32) &&& 31))), .val (.int ((i4 <<< ((0 : Int32) &&& 31)) - (34 : Int32))), oI 70] [vR b2, vI 70])) (fun _ k => X9.ldcInt hx hown (mvT hZ (ow84 hw)) (g := (mkF m 36 #[oR b2, .val (.int i4), oI 34, .val (.int (i4 <<< ((0 : Int32) &&& 31))), .val (.int ((i4 <<< ((0 : Int32) &&& 31)) - (34 : Int32))), oI 70] [vI 70])) rfl (hb hby d12_36) _ (own_e X9 tt 38 3 k rfl)) ?_
  obtain ⟨T12, X12, e12, st12⟩ := getF X9 hx hZ hown (host := "") (Or.inl (ow35 hw)) Via.refl hh9 PF11 (g := (mkF m 54 #[oR b2, .val (.int i4), oI 34, .val (.int (i4 <<< ((0 : Int32) &&& 31))), .val (.int ((i4 <<< ((0 : Int32) &&& 31)) - (34 : Int32))), oI 70] [vR b2, vI 70])) rfl rfl (hb hby d12_54)
  refine own_go (T' := T12) (f' := (mkF m 58 #[oR b2, .val (.int i4), oI 34, .val (.int (i4 <<< ((0 : Int32) &&& 31))), .val (.int ((i4 <<< ((0 : Int32) &&& 31)) - (34 : Int32))), oI 70] [vI 70])) (fun _ k => st12 _ (own_e X12 tt 57 1 k rfl)) ?_
  refine own_ret X12 (v := some (.int (70 : Int32))) (oN Br) Bs (fun fs hr => retI X12 hx Br (hb hby d12_58) hr) ?_ (by decide) (by decide)
  unfold Q12a58
  exact ⟨rfl, N9, e12⟩
def Q1a62 (Z : State)  (h0 : Heap) (n0 : Nat) (v : Option Value) (h : Heap) (L : List Loc) : Prop := v = some (.int (34 : Int32)) ∧ Fr n0 L ∧ h = h0
set_option maxRecDepth 65536 in
set_option maxHeartbeats 40000000 in
theorem rm1a62 (l : Launch) (Z : State) (a0 : Array Value) (hw : HW a0 Z) (ws : List Jvm.Cond)  (h0 : Heap) (n0 : Nat) (Z0 : n0 ≤ h0.size) :
    own_Met l mn0 jdk_29_method_69_code 2 (some .int) ws (oRm 0 0 0 0) #[(.int (34 : Int32)), (.int (70 : Int32))] Z h0 (Q1a62 Z  h0 n0) := by
  refine own_met (own := "java/lang/Math") rfl (Jvm.Free.JP.mathPlain rfl (by decide +kernel)) ?_
  intro p e s m below meth c s₁ hx hby hml hZ hown hnm X0 e0 Br Bs
  have N0 := Fr.nil n0
  have tt := own_tt hx hby own_ok1
  show own_Ends p e below s _ _ _ s₁ (mkF m 0 #[oI 34, oI 70] [])
  refine own_go (T' := s₁) (f' := (mkF m 10 #[oI 34, oI 70] [vI 34])) (fun _ k => own_e X0 tt 0 5 k rfl) ?_
  refine own_ret X0 (v := some (.int (34 : Int32))) (oN Br) Bs (fun fs hr => retI X0 hx Br (hb hby d1_10) hr) ?_ (by decide) (by decide)
  unfold Q1a62
  exact ⟨rfl, N0, e0⟩
def Q14a61 (Z : State)  (h0 : Heap) (n0 : Nat) (v : Option Value) (h : Heap) (L : List Loc) : Prop := ∃ (b3 : Addr) (k3 : ClassId) (us4 : List Value), v = some (.ref b3) ∧ Fr n0 L ∧ Keep h0 h [] ∧ n0 ≤ b3 ∧ h0.size ≤ b3 ∧ Arv Z h b3 k3 .byte (70 : Int32) us4 (.int (0 : Int32)) ∧ Exa Z h b3 "[B" ∧ us4.length = ((70 : Int32)).toNatClampNeg
set_option maxRecDepth 65536 in
set_option maxHeartbeats 40000000 in
theorem rm14a61 (l : Launch) (Z : State) (a0 : Array Value) (hw : HW a0 Z) (ws : List Jvm.Cond) (b56a : Addr) (k56b : ClassId) (us3a : List Value) (h0 : Heap) (n0 : Nat) (Z0 : n0 ≤ h0.size) (PV19 : Arv Z h0 b56a k56b .byte (34 : Int32) us3a (.int (0 : Int32))) :
    own_Met l mn10 jdk_65_method_121_code 3 (some (.array .byte)) ws (oRm 1 1 70 18) #[(.ref b56a), (.int (70 : Int32))] Z h0 (Q14a61 Z  h0 n0) := by
  refine own_met (own := "java/util/Arrays") rfl (plainFor_of_name pn_11) ?_
  intro p e s m below meth c s₁ hx hby hml hZ hown hnm X0 e0 Br Bs
  have N0 := Fr.nil n0
  have tt := own_tt hx hby own_ok14
  show own_Ends p e below s _ _ _ s₁ (mkF m 0 #[oR b56a, oI 70, oU] [])
  refine own_go (T' := s₁) (f' := (mkF m 2 #[oR b56a, oI 70, oU] [vR b56a, vI 70])) (fun _ k => own_e X0 tt 0 2 k rfl) ?_
  refine own_go (T' := s₁) (f' := (mkF m 15 #[oR b56a, oI 70, oU] [vI 70])) (fun _ k => own_alen X0 hx hZ e0 PV19 rfl rfl (hb hby d14_2) (own_e X0 tt 3 2 k rfl)) ?_
  obtain ⟨T4, h4, k4, X4, e4, E4, A4, EA4, st4⟩ := newPE (aty := .byte) X0 hx hZ (ow32 hw) e0 (g := (mkF m 15 #[oR b56a, oI 70, oU] [vI 70])) rfl (hb hby d14_15) rfl (by decide) (cap := 70) (by decide) (by decide) (by decide) (by decide) (ad := "[B") (by decide +kernel)
  obtain ⟨b4, g_b4⟩ : ∃ z, z = h0.size := ⟨_, rfl⟩
  have sg_b4 : h0.size ≤ b4 := Nat.le_of_eq g_b4.symm
  rw [← g_b4] at A4 EA4 st4
  have n_b4 := oT Z0 sg_b4
  have sz_b4 := oT (Keep.refl h0 []).1 sg_b4
  have K4 : Keep h0 h4 [] := (Keep.refl h0 []).ext E4
  have V_b4 : Arv Z h4 b4 k4 .byte (70 : Int32) [] (.int (0 : Int32)) := Arv.new A4 (by decide)
  obtain ⟨us4, hl4, Vo4⟩ := own_open V_b4
  refine own_go (T' := T4) (f' := (mkF m 23 #[oR b56a, oI 70, oR b4] [vR b56a, vI 0, vR b4, vI 0, vR b56a])) (fun _ k => st4 _ (own_e X4 tt 17 6 k rfl)) ?_
  refine own_go (T' := T4) (f' := (mkF m 25 #[oR b56a, oI 70, oR b4] [vI 70, vI 34, vI 0, vR b4, vI 0, vR b56a])) (fun _ k => own_alen X4 hx hZ e4 (PV19.ext E4) rfl rfl (hb hby d14_23) (own_e X4 tt 24 1 k rfl)) ?_
  obtain ⟨_, T5, Lc5, X5, hQ5, st5⟩ := own_outC (Jvm.LawKit.callS X4 hx (y := mn0) hown (mvT hZ (ow89 hw)) (mvT hZ (ow2 hw)) (mvT hZ (ow3 hw)) (mvT hZ (ow4 hw)) (by decide) (backOf (W := 4) (rm1a62 l Z a0 hw []  h4 n0 (oT Z0 E4.1) ) hZ (ow4 hw) (ow3 hw) (by decide) (by decide)) (g := (mkF m 25 #[oR b56a, oI 70, oR b4] [vI 70, vI 34, vI 0, vR b4, vI 0, vR b56a])) rfl (by rw [hml]; rfl) (argsL := [(.int (34 : Int32)), (.int (70 : Int32))]) (rest := [(.int (0 : Int32)), (.ref b4), (.int (0 : Int32)), (.ref b56a)]) (lenOf pd12 rfl) rfl (by show 2 * 0 + _ ≤ _; exact Nat.le_of_eq rfl) (hb hby d14_25) (fun _ _ => ⟨rfl, e4, (by decide : 1 + 0 ≤ _), (by decide : 70 + 0 ≤ _)⟩))
  obtain ⟨rfl, N5q, hh5⟩ := hQ5
  have N5 := Fr.app N0 N5q
  obtain ⟨_, X5, N5⟩ := own_hide X5 N5
  refine own_go (T' := T5) (f' := (mkF m 28 #[oR b56a, oI 70, oR b4] [vI 34, vI 0, vR b4, vI 0, vR b56a])) (fun _ k => st5 _ k) ?_
  obtain ⟨T6, h6, Lq6, X6, e6, N6, K6, V6, st6⟩ := cpA X5 hx hZ hown (ow90 hw) (ow93 hw) (ow91 hw) (ow92 hw) hh5 (PV19.ext E4) Vo4 (Or.inl ⟨rfl, rfl⟩) (sp := (0 : Int32)) (dp := (0 : Int32)) (nn := (34 : Int32)) (by decide) (by decide) (by decide) (by decide) (by decide) rfl (by rw [hl4]; exact (by decide)) N5 n_b4 (g := (mkF m 28 #[oR b56a, oI 70, oR b4] [vI 34, vI 0, vR b4, vI 0, vR b56a])) rfl (by rw [hml]; rfl) rfl (hb hby d14_28) (by decide) (W := 0) (by show 2 * 0 + _ ≤ _; exact Nat.le_of_eq rfl) (by decide)
  obtain ⟨us6, hl6, Vo6⟩ := own_open V6
  have KK6 : Keep h0 h6 [] := Keep.trans K4 K6 (allS (Or.inr sz_b4) all0)
  refine own_go (T' := T6) (f' := (mkF m 32 #[oR b56a, oI 70, oR b4] [vR b4])) (fun _ k => st6 _ (own_e X6 tt 31 1 k rfl)) ?_
  refine own_ret X6 (v := some (.ref b4)) (oN Br) Bs (fun fs hr => own_retA X6 hx Br rfl rfl (hb hby d14_32) hr) ?_ (by decide) (by decide)
  unfold Q14a61
  rw [e6]
  exact ⟨b4, k4, us6, rfl, N6, KK6, n_b4, sz_b4, Vo6, (EA4.keep K6), hl6⟩
def Q11a57 (Z : State) (b2 : Addr) (i3 : Int32) (h0 : Heap) (n0 : Nat) (v : Option Value) (h : Heap) (L : List Loc) : Prop := ∃ (b4a : Addr) (k4b : ClassId) (us4c : List Value), v = none ∧ Fr n0 L ∧ Keep h0 h [b2] ∧ n0 ≤ b4a ∧ h0.size ≤ b4a ∧ oF0 Z h b2 (.ref b4a) ∧ oF1 Z h b2 (.int (0 : Int32)) ∧ oF2 Z h b2 (.int i3) ∧ Arv Z h b4a k4b .byte (70 : Int32) us4c (.int (0 : Int32)) ∧ Exa Z h b4a "[B" ∧ us4c.length = ((70 : Int32)).toNatClampNeg
set_option maxRecDepth 65536 in
set_option maxHeartbeats 40000000 in
theorem rm11a57 (l : Launch) (Z : State) (a0 : Array Value) (hw : HW a0 Z) (ws : List Jvm.Cond) (b2 : Addr) (i4 : Int32) (b56a : Addr) (i5 : Int32) (k56b : ClassId) (us6a : List Value) (h0 : Heap) (n0 : Nat) (Z0 : n0 ≤ h0.size) (PE9 : Exa Z h0 b2 "java/lang/StringBuilder") (PF10 : oF0 Z h0 b2 (.ref b56a)) (PF11 : oF1 Z h0 b2 (.int (0 : Int32))) (PF12 : oF2 Z h0 b2 (.int i5)) (PV19 : Arv Z h0 b56a k56b .byte (34 : Int32) us6a (.int (0 : Int32))) (PP2 : (0 : Int32) < (i4 - (34 : Int32))) (PP3 : ((i4 <<< ((0 : Int32) &&& 31)) - (34 : Int32)) < (36 : Int32)) (n_b2 : n0 ≤ b2) :
    own_Met l mn11 jdk_68_method_9_code 3 none ws (oRm 3 1 70 48) #[(.ref b2), (.int i4)] Z h0 (Q11a57 Z b2 i5 h0 n0) := by
  refine own_met (own := "java/lang/AbstractStringBuilder") rfl (plainFor_of_name pn_3) ?_
  intro p e s m below meth c s₁ hx hby hml hZ hown hnm X0 e0 Br Bs
  have N0 := Fr.nil n0
  have tt := own_tt hx hby own_ok11
  show own_Ends p e below s _ _ _ s₁ (mkF m 0 #[oR b2, .val (.int i4), oU] [])
  refine own_go (T' := s₁) (f' := (mkF m 1 #[oR b2, .val (.int i4), oU] [vR b2])) (fun _ k => own_e X0 tt 0 1 k rfl) ?_
  obtain ⟨T7, X7, e7, st7⟩ := getF X0 hx hZ hown (host := "") (Or.inl (ow33 hw)) Via.refl e0 PF10 (g := (mkF m 1 #[oR b2, .val (.int i4), oU] [vR b2])) rfl rfl (hb hby d11_1)
  refine own_go (T' := T7) (f' := (mkF m 6 #[oR b2, .val (.int i4), oU] [vR b2, vI 34])) (fun _ k => st7 _ (own_alen X7 hx hZ e7 PV19 rfl rfl (hb hby d11_4) (own_e X7 tt 5 1 k rfl))) ?_
  obtain ⟨T8, X8, e8, st8⟩ := getF X7 hx hZ hown (host := "") (Or.inl (ow35 hw)) Via.refl e7 PF11 (g := (mkF m 6 #[oR b2, .val (.int i4), oU] [vR b2, vI 34])) rfl rfl (hb hby d11_6)
  refine own_go (T' := T8) (f' := (mkF m 14 #[oR b2, .val (.int i4), oI 34] [(.int (i4 - (34 : Int32)))])) (fun _ k => st8 _ (own_e X8 tt 9 5 k rfl)) ?_
  refine own_go (T' := T8) (f' := (mkF m 19 #[oR b2, .val (.int i4), oI 34] [vR b2, vR b2])) (fun _ k => XS.ifNo X8.here hx rfl (hb hby d11_14) rfl ((if0 _ _).trans (tlt PP2).2.2.2) (own_e X8 tt 17 2 k rfl)) ?_
  obtain ⟨T13, X13, e13, st13⟩ := getF X8 hx hZ hown (host := "") (Or.inl (ow33 hw)) Via.refl e8 PF10 (g := (mkF m 19 #[oR b2, .val (.int i4), oI 34] [vR b2, vR b2])) rfl rfl (hb hby d11_19)
  refine own_go (T' := T13) (f' := (mkF m 24 #[oR b2, .val (.int i4), oI 34] [(.int i4), vR b2, vR b56a, vR b2])) (fun _ k => st13 _ (own_e X13 tt 22 2 k rfl)) ?_
  obtain ⟨cq14, q14, q14'⟩ := PE9.cell
  obtain ⟨_, T14, Lc14, X14, hQ14, st14⟩ := own_out (X13.privateBack hx (y := mn9) hown (mvT hZ (ow73 hw)) (mvT hZ (ow74 hw)) (own_selp (mvT hZ (ow76 hw)) (Cond.privateMethod_at (mvP hZ (ow75 hw) (args := #[]))) (mvT hZ (ow74 hw)) (by decide)) (Cond.privateMethod_at (mvP hZ (ow75 hw) (args := #[]))) (mvT hZ (ow77 hw)) (by decide) (backOf (W := 2) (rm12a58 l Z a0 hw [] b2 i4 b56a k56b us6a h0 n0 Z0 PF10 PF11 PV19 PP3) hZ (ow77 hw) (ow25 hw) (by decide) (by decide)) (g := (mkF m 24 #[oR b2, .val (.int i4), oI 34] [(.int i4), vR b2, vR b56a, vR b2])) rfl (by rw [hml]; rfl) (Steps.refl _) (a := b2) (by rw [e13]; exact q14) q14' (argsL := [(.int i4)]) (rest := [(.ref b56a), (.ref b2)]) (lenOf pd8 rfl) rfl (by show 2 * 0 + _ ≤ _; exact Nat.le_of_eq rfl) (hb hby d11_24) (fun _ _ => ⟨rfl, e13, (by decide : 0 + 0 ≤ _), (by decide : 0 + 0 ≤ _)⟩))
  obtain ⟨rfl, N14q, hh14⟩ := hQ14
  have N14 := Fr.app N0 N14q
  obtain ⟨_, X14, N14⟩ := own_hide X14 N14
  refine own_go (T' := T14) (f' := (mkF m 28 #[oR b2, .val (.int i4), oI 34] [vR b2, vI 70, vR b56a, vR b2])) (fun _ k => st14.trans (own_e X14 tt 27 1 k rfl)) ?_
  obtain ⟨T15, X15, e15, st15⟩ := getF X14 hx hZ hown (host := "") (Or.inl (ow35 hw)) Via.refl hh14 PF11 (g := (mkF m 28 #[oR b2, .val (.int i4), oI 34] [vR b2, vI 70, vR b56a, vR b2])) rfl rfl (hb hby d11_28)
  refine own_go (T' := T15) (f' := (mkF m 32 #[oR b2, .val (.int i4), oI 34] [vI 70, vR b56a, vR b2])) (fun _ k => st15 _ (own_e X15 tt 31 1 k rfl)) ?_
  obtain ⟨_, T16, Lc16, X16, hQ16, st16⟩ := own_outC (Jvm.LawKit.callS X15 hx (y := mn10) hown (mvT hZ (ow85 hw)) (mvT hZ (ow86 hw)) (mvT hZ (ow87 hw)) (mvT hZ (ow88 hw)) (by decide) (backOf (W := 1) (rm14a61 l Z a0 hw [] b56a k56b us6a h0 n0 Z0 PV19) hZ (ow88 hw) (ow87 hw) (by decide) (by decide)) (g := (mkF m 32 #[oR b2, .val (.int i4), oI 34] [vI 70, vR b56a, vR b2])) rfl (by rw [hml]; rfl) (argsL := [(.ref b56a), (.int (70 : Int32))]) (rest := [(.ref b2)]) (lenOf pd27 rfl) rfl (by show 2 * 0 + _ ≤ _; exact Nat.le_of_eq rfl) (hb hby d11_32) (fun _ _ => ⟨rfl, e15, (by decide : 0 + 1 ≤ _), (by decide : 0 + 70 ≤ _)⟩))
  obtain ⟨b16a, k16b, us16c, rfl, N16q, K16, n_b16a, sg_b16a, g16_0, g16_1, g16_2⟩ := hQ16
  have N16 := Fr.app N14 N16q
  have sz_b16a := oT (Keep.refl h0 [b2]).1 sg_b16a
  have eK16 : T16.heap = T16.heap := rfl
  have KK16 : Keep h0 T16.heap [b2] := Keep.trans (Keep.refl h0 [b2]) K16 all0
  obtain ⟨_, X16, N16⟩ := own_hide X16 N16
  refine own_go (T' := T16) (f' := (mkF m 35 #[oR b2, .val (.int i4), oI 34] [vR b16a, vR b2])) (fun _ k => st16 _ k) ?_
  obtain ⟨T17, h17, X17, e17, W17, st17⟩ := putF X16 hx hZ hown (host := "") (Or.inl (ow33 hw)) Via.refl eK16 (PF10.keep K16 nin0) (PE9.keep K16) (Or.inl (ow34 hw)) (ow16 hw) (ty := (.array .byte)) (by decide) rfl rfl (g := (mkF m 35 #[oR b2, .val (.int i4), oI 34] [vR b16a, vR b2])) rfl rfl (hb hby d11_35)
  have Fw17 := Fld.same W17 (PF10.keep K16 nin0)
  have K17 : Keep h0 h17 [b2] := KK16.wr W17 (Or.inl (List.mem_of_getElem? (i := 0) rfl))
  have N17 := Fr.snoc X17 N16 n_b2
  refine own_go (T' := T17) (f' := (mkF m 38 #[oR b2, .val (.int i4), oI 34] [])) (fun _ k => st17 _ k) ?_
  refine own_ret X17 (v := none) (fun _ => rfl) Bs (fun fs hr => X17.returnOut hx Br (hb hby d11_38) hr) ?_ (by decide) (by decide)
  unfold Q11a57
  rw [e17]
  exact ⟨b16a, k16b, us16c, rfl, N17, K17, n_b16a, sz_b16a, Fw17, ((PF11.keep K16 nin0).other W17 (Or.inr (sn_36_34 hw))), ((PF12.keep K16 nin0).other W17 (Or.inr (sn_67_34 hw))), (g16_0.other W17 (oM PE9.lt sz_b16a)), (g16_1.wr W17), g16_2⟩
def Q19a66 (Z : State) (b2 : Addr) (y1 : Int32) (i3 : Int32) (h0 : Heap) (n0 : Nat) (v : Option Value) (h : Heap) (L : List Loc) : Prop := ∃ (b4a : Addr) (k4b : ClassId) (us5 : List Value), v = some (.ref b2) ∧ Fr n0 L ∧ Keep h0 h [b2] ∧ n0 ≤ b4a ∧ h0.size ≤ b4a ∧ oF0 Z h b2 (.ref b4a) ∧ oF1 Z h b2 (.int (0 : Int32)) ∧ oF2 Z h b2 (.int (i3 + (own_dg y1))) ∧ Arv Z h b4a k4b .byte (70 : Int32) us5 (.int (0 : Int32)) ∧ Exa Z h b4a "[B" ∧ us5.length = ((70 : Int32)).toNatClampNeg
set_option maxRecDepth 65536 in
set_option maxHeartbeats 40000000 in
theorem rm19a66 (l : Launch) (Z : State) (a0 : Array Value) (hw : HW a0 Z) (ws : List Jvm.Cond) (b2 : Addr) (y1 : Int32) (cs : Int32) (wd : Addr) (kd : ClassId) (vd : List Value) (wt : Addr) (kt : ClassId) (vt : List Value) (b56a : Addr) (i7 : Int32) (k56b : ClassId) (us8a : List Value) (h0 : Heap) (n0 : Nat) (Z0 : n0 ≤ h0.size) (PS0 : Sta Z h0 "java/lang/String" "COMPACT_STRINGS" "Z" (.int cs)) (PS1 : Sta Z h0 "java/lang/Integer" "DigitOnes" "[B" (.ref wd)) (PV2 : Arv Z h0 wd kd .byte (100 : Int32) vd (.int (0 : Int32))) (PS3 : Sta Z h0 "java/lang/Integer" "DigitTens" "[B" (.ref wt)) (PV4 : Arv Z h0 wt kt .byte (100 : Int32) vt (.int (0 : Int32))) (PE9 : Exa Z h0 b2 "java/lang/StringBuilder") (PF10 : oF0 Z h0 b2 (.ref b56a)) (PF11 : oF1 Z h0 b2 (.int (0 : Int32))) (PF12 : oF2 Z h0 b2 (.int i7)) (PV19 : Arv Z h0 b56a k56b .byte (34 : Int32) us8a (.int (0 : Int32))) (PP0 : ¬ (cs = (0 : Int32))) (PP2 : ¬ (y1 < (0 : Int32))) (PP3 : (0 : Int32) < ((i7 + (own_dg y1)) - (34 : Int32))) (PP4 : (((i7 + (own_dg y1)) <<< ((0 : Int32) &&& 31)) - (34 : Int32)) < (36 : Int32)) (PP5 : ¬ ((i7 + (own_dg y1)) < (own_dg y1))) (PP6 : ¬ ((70 : Int32) < (i7 + (own_dg y1)))) (ne_wd_b2 : wd ≠ b2) (ne_wt_b2 : wt ≠ b2) (n_b2 : n0 ≤ b2) (pr_st_vd : own_SameSt Z) :
    own_Met l mn19 jdk_68_method_32_code 4 (some (.object "java/lang/AbstractStringBuilder")) ws (oRm 4 1 70 78) #[(.ref b2), (.int y1)] Z h0 (Q19a66 Z b2 y1 i7 h0 n0) := by
  refine own_met (own := "java/lang/AbstractStringBuilder") rfl (plainFor_of_name pn_3) ?_
  intro p e s m below meth c s₁ hx hby hml hZ hown hnm X0 e0 Br Bs
  have N0 := Fr.nil n0
  have tt := own_tt hx hby own_ok19
  show own_Ends p e below s _ _ _ s₁ (mkF m 0 #[oR b2, .val (.int y1), oU, oU] [])
  refine own_go (T' := s₁) (f' := (mkF m 1 #[oR b2, .val (.int y1), oU, oU] [vR b2])) (fun _ k => own_e X0 tt 0 1 k rfl) ?_
  obtain ⟨T13, X13, e13, st13⟩ := getF X0 hx hZ hown (host := "") (Or.inl (ow66 hw)) Via.refl e0 PF12 (g := (mkF m 1 #[oR b2, .val (.int y1), oU, oU] [vR b2])) rfl rfl (hb hby d19_1)
  refine own_go (T' := T13) (f' := (mkF m 7 #[oR b2, .val (.int y1), .val (.int i7), oU] [(.int y1), (.int i7)])) (fun _ k => st13 _ (own_e X13 tt 4 3 k rfl)) ?_
  obtain ⟨_, T14, Lc14, X14, hQ14, st14⟩ := own_outC (Jvm.LawKit.callS X13 hx (y := mn3) hown (mvT hZ (ow120 hw)) (mvT hZ (ow121 hw)) (mvT hZ (ow122 hw)) (mvT hZ (ow123 hw)) (by decide) (backOf (W := 1) (rm20 l Z a0 hw [] y1 h0 n0 Z0 PP2) hZ (ow123 hw) (ow122 hw) (by decide) (by decide)) (g := (mkF m 7 #[oR b2, .val (.int y1), .val (.int i7), oU] [(.int y1), (.int i7)])) rfl (by rw [hml]; rfl) (argsL := [(.int y1)]) (rest := [(.int i7)]) (lenOf pd8 rfl) rfl (by show 2 * 0 + _ ≤ _; exact Nat.le_of_eq rfl) (hb hby d19_7) (fun _ _ => ⟨rfl, e13, (by decide : 0 + 0 ≤ _), (by decide : 0 + 0 ≤ _)⟩))
  obtain ⟨rfl, N14q, hh14⟩ := hQ14
  have N14 := Fr.app N0 N14q
  obtain ⟨_, X14, N14⟩ := own_hide X14 N14
  refine own_go (T' := T14) (f' := (mkF m 14 #[oR b2, .val (.int y1), .val (.int i7), .val (.int (i7 + (own_dg y1)))] [(.int (i7 + (own_dg y1))), vR b2])) (fun _ k => st14 _ (own_e X14 tt 10 4 k rfl)) ?_
  obtain ⟨cq15, q15, q15'⟩ := PE9.cell
  obtain ⟨_, T15, Lc15, X15, hQ15, st15⟩ := own_out (X14.privateBack hx (y := mn11) hown (mvT hZ (ow68 hw)) (mvT hZ (ow69 hw)) (own_selp (mvT hZ (ow71 hw)) (Cond.privateMethod_at (mvP hZ (ow70 hw) (args := #[]))) (mvT hZ (ow69 hw)) (by decide)) (Cond.privateMethod_at (mvP hZ (ow70 hw) (args := #[]))) (mvT hZ (ow72 hw)) (by decide) (backOf (W := 0) (rm11a57 l Z a0 hw [] b2 (i7 + (own_dg y1)) b56a i7 k56b us8a h0 n0 Z0 PE9 PF10 PF11 PF12 PV19 PP3 PP4 n_b2) hZ (ow72 hw) (ow25 hw) (by decide) (by decide)) (g := (mkF m 14 #[oR b2, .val (.int y1), .val (.int i7), .val (.int (i7 + (own_dg y1)))] [(.int (i7 + (own_dg y1))), vR b2])) rfl (by rw [hml]; rfl) (Steps.refl _) (a := b2) (by rw [hh14]; exact q15) q15' (argsL := [(.int (i7 + (own_dg y1)))]) (rest := []) (lenOf pd11 rfl) rfl (by show 2 * 0 + _ ≤ _; exact Nat.le_of_eq rfl) (hb hby d19_14) (fun _ _ => ⟨rfl, hh14, (by decide : 0 + 1 ≤ _), (by decide : 0 + 70 ≤ _)⟩))
  obtain ⟨b15a, k15b, us15c, rfl, N15q, K15, n_b15a, sg_b15a, g15_0, g15_1, g15_2, g15_3, g15_4, g15_5⟩ := hQ15
  have N15 := Fr.app N14 N15q
  have sz_b15a := oT (Keep.refl h0 [b2]).1 sg_b15a
  have eK15 : T15.heap = T15.heap := rfl
  have KK15 : Keep h0 T15.heap [b2] := Keep.trans (Keep.refl h0 [b2]) K15 (allS (Or.inl (List.mem_of_getElem? (i := 0) rfl)) all0)
  obtain ⟨_, X15, N15⟩ := own_hide X15 N15
  refine own_go (T' := T15) (f' := (mkF m 18 #[oR b2, .val (.int y1), .val (.int i7), .val (.int (i7 + (own_dg y1)))] [vR b2])) (fun _ k => st15.trans (own_e X15 tt 17 1 k rfl)) ?_
  obtain ⟨cq16, kq16, q16a, q16b, q16c⟩ := isOf hZ eK15 (PE9.keep K15)
  obtain ⟨_, T16, Lc16, X16, hQ16, st16⟩ := own_out (X15.virtualBack hx (y := mn17) (z := mn17) hown (mvT hZ (ow124 hw)) (mvT hZ (ow125 hw)) (notFace_of_selects (args := #[]) (mvT hZ (ow127 hw))) (mvT hZ (ow127 hw)) (mvT hZ (ow126 hw)) (by decide) (backOf (W := 0) (rm21a22 l Z a0 hw [] b2 cs T15.heap n0 (oT Z0 K15.1) (own_sta_keep PS0 K15 (own_wsE PE9 own_ws0)) g15_1 PP0) hZ (ow128 hw) (ow25 hw) (by decide) (by decide)) q16a q16c (g := (mkF m 18 #[oR b2, .val (.int y1), .val (.int i7), .val (.int (i7 + (own_dg y1)))] [vR b2])) rfl (by rw [hml]; rfl) (Steps.refl _) (argsL := []) (rest := []) (lenOf pd6 rfl) rfl (by show 2 * 0 + _ ≤ _; exact Nat.le_of_eq rfl) (hb hby d19_18) (fun _ _ => ⟨rfl, eK15, (by decide : 1 + 0 ≤ _), (by decide : 70 + 0 ≤ _)⟩))
  obtain ⟨rfl, N16q, hh16⟩ := hQ16
  have N16 := Fr.app N15 N16q
  obtain ⟨_, X16, N16⟩ := own_hide X16 N16
  refine own_go (T' := T16) (f' := (mkF m 27 #[oR b2, .val (.int y1), .val (.int i7), .val (.int (i7 + (own_dg y1)))] [vR b2, (.int (i7 + (own_dg y1))), (.int y1)])) (fun _ k => st16.trans (own_e X16 tt 21 4 k rfl)) ?_
  obtain ⟨T17, X17, e17, st17⟩ := getF X16 hx hZ hown (host := "") (Or.inl (ow33 hw)) Via.refl hh16 g15_0 (g := (mkF m 27 #[oR b2, .val (.int y1), .val (.int i7), .val (.int (i7 + (own_dg y1)))] [vR b2, (.int (i7 + (own_dg y1))), (.int y1)])) rfl rfl (hb hby d19_27)
  refine own_go (T' := T17) (f' := (mkF m 30 #[oR b2, .val (.int y1), .val (.int i7), .val (.int (i7 + (own_dg y1)))] [vR b15a, (.int (i7 + (own_dg y1))), (.int y1)])) (fun _ k => st17 _ k) ?_
  obtain ⟨_, T18, Lc18, X18, hQ18, st18⟩ := own_outC (Jvm.LawKit.callS X17 hx (y := mn18) hown (mvT hZ (ow129 hw)) (mvT hZ (ow130 hw)) (mvT hZ (ow122 hw)) (mvT hZ (ow131 hw)) (by decide) (own_gcBack hZ hw (W := 0) (n0 := n0) g15_3 (own_sta_keep PS1 K15 (own_wsE PE9 own_ws0)) (PV2.keep K15 (ninS ne_wd_b2 nin0)) (own_sta_keep PS3 K15 (own_wsE PE9 own_ws0)) (PV4.keep K15 (ninS ne_wt_b2 nin0)) (oM PV2.lt sz_b15a) (oM PV4.lt sz_b15a) pr_st_vd PP2 PP5 PP6 n_b15a (by decide) (by decide)) (g := (mkF m 30 #[oR b2, .val (.int y1), .val (.int i7), .val (.int (i7 + (own_dg y1)))] [vR b15a, (.int (i7 + (own_dg y1))), (.int y1)])) rfl (by rw [hml]; rfl) (argsL := [(.int y1), (.int (i7 + (own_dg y1))), (.ref b15a)]) (rest := []) (lenOf pd16 rfl) rfl (by show 2 * 0 + _ ≤ _; exact Nat.le_of_eq rfl) (hb hby d19_30) (fun _ _ => ⟨rfl, e17, (by decide : 1 + 0 ≤ _), (by decide : 70 + 0 ≤ _)⟩))
  obtain ⟨r18, us18, rfl, N18q, K18, hl18, V18⟩ := hQ18
  have N18 := Fr.app N16 N18q
  have eK18 : T18.heap = T18.heap := rfl
  have KK18 : Keep h0 T18.heap [b2] := Keep.trans KK15 K18 (allS (Or.inr sz_b15a) all0)
  obtain ⟨_, X18, N18⟩ := own_hide X18 N18
  refine own_go (T' := T18) (f' := (mkF m 50 #[oR b2, .val (.int y1), .val (.int i7), .val (.int (i7 + (own_dg y1)))] [(.int (i7 + (own_dg y1))), vR b2])) (fun _ k => st18 _ (own_e X18 tt 33 4 k rfl)) ?_
  obtain ⟨T20, h20, X20, e20, W20, st20⟩ := putF X18 hx hZ hown (host := "") (Or.inl (ow66 hw)) Via.refl eK18 (g15_2.keep K18 (ninS (oL PE9.lt sz_b15a) nin0)) ((PE9.keep K15).keep K18) (Or.inl (ow67 hw)) (ow16 hw) (ty := .int) (by decide) rfl rfl (g := (mkF m 50 #[oR b2, .val (.int y1), .val (.int i7), .val (.int (i7 + (own_dg y1)))] [(.int (i7 + (own_dg y1))), vR b2])) rfl rfl (hb hby d19_50)
  have Fw20 := Fld.same W20 (g15_2.keep K18 (ninS (oL PE9.lt sz_b15a) nin0))
  have K20 : Keep h0 h20 [b2] := KK18.wr W20 (Or.inl (List.mem_of_getElem? (i := 0) rfl))
  have N20 := Fr.snoc X20 N18 n_b2
  refine own_go (T' := T20) (f' := (mkF m 54 #[oR b2, .val (.int y1), .val (.int i7), .val (.int (i7 + (own_dg y1)))] [vR b2])) (fun _ k => st20 _ (own_e X20 tt 53 1 k rfl)) ?_
  refine own_ret X20 (v := some (.ref b2)) (oN Br) Bs (fun fs hr => own_retA X20 hx Br rfl rfl (hb hby d19_54) hr) ?_ (by decide) (by decide)
  unfold Q19a66
  rw [e20]
  exact ⟨b15a, k15b, us18, rfl, N20, K20, n_b15a, sz_b15a, ((g15_0.keep K18 (ninS (oL PE9.lt sz_b15a) nin0)).other W20 (Or.inr (sn_34_67 hw))), ((g15_1.keep K18 (ninS (oL PE9.lt sz_b15a) nin0)).other W20 (Or.inr (sn_36_67 hw))), Fw20, (V18.other W20 (oM PE9.lt sz_b15a)), ((g15_4.keep K18).wr W20), hl18⟩
def Q18a65 (Z : State) (b2 : Addr) (y1 : Int32) (i3 : Int32) (h0 : Heap) (n0 : Nat) (v : Option Value) (h : Heap) (L : List Loc) : Prop := ∃ (b4a : Addr) (k4b : ClassId) (us4c : List Value), v = some (.ref b2) ∧ Fr n0 L ∧ Keep h0 h [b2] ∧ n0 ≤ b4a ∧ h0.size ≤ b4a ∧ oF0 Z h b2 (.ref b4a) ∧ oF1 Z h b2 (.int (0 : Int32)) ∧ oF2 Z h b2 (.int (i3 + (own_dg y1))) ∧ Arv Z h b4a k4b .byte (70 : Int32) us4c (.int (0 : Int32)) ∧ Exa Z h b4a "[B" ∧ us4c.length = ((70 : Int32)).toNatClampNeg
set_option maxRecDepth 65536 in
set_option maxHeartbeats 40000000 in
theorem rm18a65 (l : Launch) (Z : State) (a0 : Array Value) (hw : HW a0 Z) (ws : List Jvm.Cond) (b2 : Addr) (y1 : Int32) (cs : Int32) (wd : Addr) (kd : ClassId) (vd : List Value) (wt : Addr) (kt : ClassId) (vt : List Value) (b56a : Addr) (i7 : Int32) (k56b : ClassId) (us8a : List Value) (h0 : Heap) (n0 : Nat) (Z0 : n0 ≤ h0.size) (PS0 : Sta Z h0 "java/lang/String" "COMPACT_STRINGS" "Z" (.int cs)) (PS1 : Sta Z h0 "java/lang/Integer" "DigitOnes" "[B" (.ref wd)) (PV2 : Arv Z h0 wd kd .byte (100 : Int32) vd (.int (0 : Int32))) (PS3 : Sta Z h0 "java/lang/Integer" "DigitTens" "[B" (.ref wt)) (PV4 : Arv Z h0 wt kt .byte (100 : Int32) vt (.int (0 : Int32))) (PE9 : Exa Z h0 b2 "java/lang/StringBuilder") (PF10 : oF0 Z h0 b2 (.ref b56a)) (PF11 : oF1 Z h0 b2 (.int (0 : Int32))) (PF12 : oF2 Z h0 b2 (.int i7)) (PV19 : Arv Z h0 b56a k56b .byte (34 : Int32) us8a (.int (0 : Int32))) (PP0 : ¬ (cs = (0 : Int32))) (PP2 : ¬ (y1 < (0 : Int32))) (PP3 : (0 : Int32) < ((i7 + (own_dg y1)) - (34 : Int32))) (PP4 : (((i7 + (own_dg y1)) <<< ((0 : Int32) &&& 31)) - (34 : Int32)) < (36 : Int32)) (PP5 : ¬ ((i7 + (own_dg y1)) < (own_dg y1))) (PP6 : ¬ ((70 : Int32) < (i7 + (own_dg y1)))) (ne_wd_b2 : wd ≠ b2) (ne_wt_b2 : wt ≠ b2) (n_b2 : n0 ≤ b2) (pr_st_vd : own_SameSt Z) :
    own_Met l mn20 jdk_67_method_15_code 2 (some (.object "java/lang/StringBuilder")) ws (oRm 5 1 70 93) #[(.ref b2), (.int y1)] Z h0 (Q18a65 Z b2 y1 i7 h0 n0) := by
  refine own_met (own := "java/lang/StringBuilder") rfl (plainFor_of_name pn_8) ?_
  intro p e s m below meth c s₁ hx hby hml hZ hown hnm X0 e0 Br Bs
  have N0 := Fr.nil n0
  have tt := own_tt hx hby own_ok18
  show own_Ends p e below s _ _ _ s₁ (mkF m 0 #[oR b2, .val (.int y1)] [])
  refine own_go (T' := s₁) (f' := (mkF m 2 #[oR b2, .val (.int y1)] [(.int y1), vR b2])) (fun _ k => own_e X0 tt 0 2 k rfl) ?_
  obtain ⟨_, T13, Lc13, X13, hQ13, st13⟩ := own_out (superBack X0 hx hZ (y := mn19) hown (ow116 hw) (own_same (y := mn19) (y2 := mn11) (ow71 hw) rfl (ow117 hw) (by decide)) (ow117 hw) (ow50 hw) (by decide) (backOf (W := 0) (rm19a66 l Z a0 hw [] b2 y1 cs wd kd vd wt kt vt b56a i7 k56b us8a h0 n0 Z0 PS0 PS1 PV2 PS3 PV4 PE9 PF10 PF11 PF12 PV19 PP0 PP2 PP3 PP4 PP5 PP6 ne_wd_b2 ne_wt_b2 n_b2 pr_st_vd) hZ (ow119 hw) (ow25 hw) (by decide) (by decide)) e0 (Ins.self PE9) (g := (mkF m 2 #[oR b2, .val (.int y1)] [(.int y1), vR b2])) rfl (by rw [hml]; rfl) (ow119 hw) (argsL := [(.int y1)]) (rest := []) (lenOf pd9 rfl) rfl (by show 2 * 0 + _ ≤ _; exact Nat.le_of_eq rfl) (hb hby d18_2) (fun _ _ => ⟨rfl, e0, (by decide : 0 + 1 ≤ _), (by decide : 0 + 70 ≤ _)⟩))
  obtain ⟨b13a, k13b, us13c, rfl, N13q, K13, n_b13a, sg_b13a, g13_0, g13_1, g13_2, g13_3, g13_4, g13_5⟩ := hQ13
  have N13 := Fr.app N0 N13q
  have sz_b13a := oT (Keep.refl h0 [b2]).1 sg_b13a
  have eK13 : T13.heap = T13.heap := rfl
  have KK13 : Keep h0 T13.heap [b2] := Keep.trans (Keep.refl h0 [b2]) K13 (allS (Or.inl (List.mem_of_getElem? (i := 0) rfl)) all0)
  obtain ⟨_, X13, N13⟩ := own_hide X13 N13
  refine own_go (T' := T13) (f' := (mkF m 7 #[oR b2, .val (.int y1)] [vR b2])) (fun _ k => st13.trans (own_e X13 tt 5 2 k rfl)) ?_
  refine own_ret X13 (v := some (.ref b2)) (oN Br) Bs (fun fs hr => own_retA X13 hx Br rfl rfl (hb hby d18_7) hr) ?_ (by decide) (by decide)
  unfold Q18a65
  rw [eK13]
  exact ⟨b13a, k13b, us13c, rfl, N13, KK13, n_b13a, sz_b13a, g13_0, g13_1, g13_2, g13_3, g13_4, g13_5⟩
def own_t26 (pc : Nat) : Option (Instr × Nat) := bif Nat.beq pc 0 then some (.aload_n 0, 1) else none
theorem own_ok26 : ∀ pc q, own_fetch 5 own_t26 pc = some q → decode jdk_68_method_64_code pc = .ok q := own_tab (by decide +kernel)
theorem d26_1 : decode jdk_68_method_64_code 1 = .ok (.getfield 15, 3) := by decide +kernel
theorem d26_4 : decode jdk_68_method_64_code 4 = .ok (.areturn, 1) := by decide +kernel
def Q26a70 (Z : State) (b3a : Addr) (h0 : Heap) (n0 : Nat) (v : Option Value) (h : Heap) (L : List Loc) : Prop := v = some (.ref b3a) ∧ Fr n0 L ∧ h = h0
set_option maxRecDepth 65536 in
set_option maxHeartbeats 40000000 in
theorem rm26a70 (l : Launch) (Z : State) (a0 : Array Value) (hw : HW a0 Z) (ws : List Jvm.Cond) (b2 : Addr) (b3a : Addr) (h0 : Heap) (n0 : Nat) (Z0 : n0 ≤ h0.size) (PF10 : oF0 Z h0 b2 (.ref b3a)) :
    own_Met l mn21 jdk_68_method_64_code 1 (some (.array .byte)) ws (oRm 0 0 0 0) #[(.ref b2)] Z h0 (Q26a70 Z b3a h0 n0) := by
  refine own_met (own := "java/lang/AbstractStringBuilder") rfl (plainFor_of_name pn_3) ?_
  intro p e s m below meth c s₁ hx hby hml hZ hown hnm X0 e0 Br Bs
  have N0 := Fr.nil n0
  have tt := own_tt hx hby own_ok26
  show own_Ends p e below s _ _ _ s₁ (mkF m 0 #[oR b2] [])
  refine own_go (T' := s₁) (f' := (mkF m 1 #[oR b2] [vR b2])) (fun _ k => own_e X0 tt 0 1 k rfl) ?_
  obtain ⟨T4, X4, e4, st4⟩ := getF X0 hx hZ hown (host := "") (Or.inl (ow33 hw)) Via.refl e0 PF10 (g := (mkF m 1 #[oR b2] [vR b2])) rfl rfl (hb hby d26_1)
  refine own_go (T' := T4) (f' := (mkF m 4 #[oR b2] [vR b3a])) (fun _ k => st4 _ k) ?_
  refine own_ret X4 (v := some (.ref b3a)) (oN Br) Bs (fun fs hr => own_retA X4 hx Br rfl rfl (hb hby d26_4) hr) ?_ (by decide) (by decide)
  unfold Q26a70
  exact ⟨rfl, N0, e4⟩
theorem pd7 : parseMethodDescriptor "()[B" = some ⟨[], some (.array .byte)⟩ := by decide +kernel
def own_t28 (pc : Nat) : Option (Instr × Nat) := bif Nat.beq pc 0 then some (.aload_n 0, 1) else none
theorem own_ok28 : ∀ pc q, own_fetch 5 own_t28 pc = some q → decode jdk_68_method_6_code pc = .ok q := own_tab (by decide +kernel)
theorem d28_1 : decode jdk_68_method_6_code 1 = .ok (.getfield 79, 3) := by decide +kernel
theorem d28_4 : decode jdk_68_method_6_code 4 = .ok (.ireturn, 1) := by decide +kernel
def Q28a72 (Z : State) (i3 : Int32) (h0 : Heap) (n0 : Nat) (v : Option Value) (h : Heap) (L : List Loc) : Prop := v = some (.int i3) ∧ Fr n0 L ∧ h = h0
set_option maxRecDepth 65536 in
set_option maxHeartbeats 40000000 in
theorem rm28a72 (l : Launch) (Z : State) (a0 : Array Value) (hw : HW a0 Z) (ws : List Jvm.Cond) (b2 : Addr) (i3 : Int32) (h0 : Heap) (n0 : Nat) (Z0 : n0 ≤ h0.size) (PF12 : oF2 Z h0 b2 (.int i3)) :
    own_Met l mn22 jdk_68_method_6_code 1 (some .int) ws (oRm 0 0 0 0) #[(.ref b2)] Z h0 (Q28a72 Z i3 h0 n0) := by
  refine own_met (own := "java/lang/AbstractStringBuilder") rfl (plainFor_of_name pn_3) ?_
  intro p e s m below meth c s₁ hx hby hml hZ hown hnm X0 e0 Br Bs
  have N0 := Fr.nil n0
  have tt := own_tt hx hby own_ok28
  show own_Ends p e below s _ _ _ s₁ (mkF m 0 #[oR b2] [])
  refine own_go (T' := s₁) (f' := (mkF m 1 #[oR b2] [vR b2])) (fun _ k => own_e X0 tt 0 1 k rfl) ?_
  obtain ⟨T4, X4, e4, st4⟩ := getF X0 hx hZ hown (host := "") (Or.inl (ow66 hw)) Via.refl e0 PF12 (g := (mkF m 1 #[oR b2] [vR b2])) rfl rfl (hb hby d28_1)
  refine own_go (T' := T4) (f' := (mkF m 4 #[oR b2] [(.int i3)])) (fun _ k => st4 _ k) ?_
  refine own_ret X4 (v := some (.int i3)) (oN Br) Bs (fun fs hr => retI X4 hx Br (hb hby d28_4) hr) ?_ (by decide) (by decide)
  unfold Q28a72
  exact ⟨rfl, N0, e4⟩
def own_t27 (pc : Nat) : Option (Instr × Nat) := bif Nat.beq pc 0 then some (.aload_n 0, 1) else none
theorem own_ok27 : ∀ pc q, own_fetch 5 own_t27 pc = some q → decode jdk_67_method_93_code pc = .ok q := own_tab (by decide +kernel)
theorem d27_1 : decode jdk_67_method_93_code 1 = .ok (.invokespecial 343, 3) := by decide +kernel
theorem d27_4 : decode jdk_67_method_93_code 4 = .ok (.ireturn, 1) := by decide +kernel
def Q27a71 (Z : State) (i3 : Int32) (h0 : Heap) (n0 : Nat) (v : Option Value) (h : Heap) (L : List Loc) : Prop := v = some (.int i3) ∧ Fr n0 L ∧ h = h0
set_option maxRecDepth 65536 in
set_option maxHeartbeats 40000000 in
theorem rm27a71 (l : Launch) (Z : State) (a0 : Array Value) (hw : HW a0 Z) (ws : List Jvm.Cond) (b2 : Addr) (i3 : Int32) (h0 : Heap) (n0 : Nat) (Z0 : n0 ≤ h0.size) (PE9 : Exa Z h0 b2 "java/lang/StringBuilder") (PF12 : oF2 Z h0 b2 (.int i3)) :
    own_Met l mn23 jdk_67_method_93_code 1 (some .int) ws (oRm 1 0 0 12) #[(.ref b2)] Z h0 (Q27a71 Z i3 h0 n0) := by
  refine own_met (own := "java/lang/StringBuilder") rfl (plainFor_of_name pn_8) ?_
  intro p e s m below meth c s₁ hx hby hml hZ hown hnm X0 e0 Br Bs
  have N0 := Fr.nil n0
  have tt := own_tt hx hby own_ok27
  show own_Ends p e below s _ _ _ s₁ (mkF m 0 #[oR b2] [])
  refine own_go (T' := s₁) (f' := (mkF m 1 #[oR b2] [vR b2])) (fun _ k => own_e X0 tt 0 1 k rfl) ?_
  obtain ⟨_, T4, Lc4, X4, hQ4, st4⟩ := own_out (superBack X0 hx hZ (y := mn22) hown (ow159 hw) (own_same (y := mn22) (y2 := mn11) (ow71 hw) rfl (ow155 hw) (by decide)) (ow155 hw) (ow50 hw) (by decide) (backOf (W := 0) (rm28a72 l Z a0 hw [] b2 i3 h0 n0 Z0 PF12) hZ (ow160 hw) (ow25 hw) (by decide) (by decide)) e0 (Ins.self PE9) (g := (mkF m 1 #[oR b2] [vR b2])) rfl (by rw [hml]; rfl) (ow160 hw) (argsL := []) (rest := []) (lenOf pd1 rfl) rfl (by show 2 * 0 + _ ≤ _; exact Nat.le_of_eq rfl) (hb hby d27_1) (fun _ _ => ⟨rfl, e0, (by decide : 0 + 0 ≤ _), (by decide : 0 + 0 ≤ _)⟩))
  obtain ⟨rfl, N4q, hh4⟩ := hQ4
  have N4 := Fr.app N0 N4q
  obtain ⟨_, X4, N4⟩ := own_hide X4 N4
  refine own_go (T' := T4) (f' := (mkF m 4 #[oR b2] [(.int i3)])) (fun _ k => st4.trans k) ?_
  refine own_ret X4 (v := some (.int i3)) (oN Br) Bs (fun fs hr => retI X4 hx Br (hb hby d27_4) hr) ?_ (by decide) (by decide)
  unfold Q27a71
  exact ⟨rfl, N4, hh4⟩
def own_t31 (pc : Nat) : Option (Instr × Nat) := bif Nat.ble pc 0 then (bif Nat.beq pc 0 then some (.iload_n 1, 1) else none) else (bif Nat.ble pc 1 then (bif Nat.beq pc 1 then some (.iload_n 0, 1) else none) else (bif Nat.beq pc 2 then some (.if_icmp .ge 35, 3) else none))
theorem own_ok31 : ∀ pc q, own_fetch 38 own_t31 pc = some q → decode jdk_65_method_131_code pc = .ok q := own_tab (by decide +kernel)
theorem d31_2 : decode jdk_65_method_131_code 2 = .ok (.if_icmp .ge 35, 3) := by decide +kernel
theorem d31_37 : decode jdk_65_method_131_code 37 = .ok (.return_, 1) := by decide +kernel
def Q31a85 (Z : State)  (h0 : Heap) (n0 : Nat) (v : Option Value) (h : Heap) (L : List Loc) : Prop := v = none ∧ Fr n0 L ∧ h = h0
set_option maxRecDepth 65536 in
set_option maxHeartbeats 40000000 in
theorem rm31a85 (l : Launch) (Z : State) (a0 : Array Value) (hw : HW a0 Z) (ws : List Jvm.Cond) (i3 : Int32) (h0 : Heap) (n0 : Nat) (Z0 : n0 ≤ h0.size) (PP5 : ¬ (i3 < (0 : Int32))) :
    own_Met l mn24 jdk_65_method_131_code 2 none ws (oRm 0 0 0 0) #[(.int (0 : Int32)), (.int i3)] Z h0 (Q31a85 Z  h0 n0) := by
  refine own_met (own := "java/util/Arrays") rfl (plainFor_of_name pn_11) ?_
  intro p e s m below meth c s₁ hx hby hml hZ hown hnm X0 e0 Br Bs
  have N0 := Fr.nil n0
  have tt := own_tt hx hby own_ok31
  show own_Ends p e below s _ _ _ s₁ (mkF m 0 #[oI 0, .val (.int i3)] [])
  refine own_go (T' := s₁) (f' := (mkF m 2 #[oI 0, .val (.int i3)] [vI 0, (.int i3)])) (fun _ k => own_e X0 tt 0 2 k rfl) ?_
  refine own_go (T' := s₁) (f' := (mkF m 37 #[oI 0, .val (.int i3)] [])) (fun _ k => XS.icmpYes X0.here hx rfl (pc0 := 2) (pc' := 37) rfl (hb hby d31_2) rfl (flt PP5).2.1 (by decide) (by decide) k) ?_
  refine own_ret X0 (v := none) (fun _ => rfl) Bs (fun fs hr => X0.returnOut hx Br (hb hby d31_37) hr) ?_ (by decide) (by decide)
  unfold Q31a85
  exact ⟨rfl, N0, e0⟩
theorem pd14 : parseMethodDescriptor "(II)V" = some ⟨[.int, .int], none⟩ := by decide +kernel
def Q1a102 (Z : State) (i3 : Int32) (h0 : Heap) (n0 : Nat) (v : Option Value) (h : Heap) (L : List Loc) : Prop := v = some (.int i3) ∧ Fr n0 L ∧ h = h0
set_option maxRecDepth 65536 in
set_option maxHeartbeats 40000000 in
theorem rm1a102 (l : Launch) (Z : State) (a0 : Array Value) (hw : HW a0 Z) (ws : List Jvm.Cond) (i3 : Int32) (h0 : Heap) (n0 : Nat) (Z0 : n0 ≤ h0.size) (PP8 : i3 < (70 : Int32)) :
    own_Met l mn0 jdk_29_method_69_code 2 (some .int) ws (oRm 0 0 0 0) #[(.int (70 : Int32)), (.int i3)] Z h0 (Q1a102 Z i3 h0 n0) := by
  refine own_met (own := "java/lang/Math") rfl (Jvm.Free.JP.mathPlain rfl (by decide +kernel)) ?_
  intro p e s m below meth c s₁ hx hby hml hZ hown hnm X0 e0 Br Bs
  have N0 := Fr.nil n0
  have tt := own_tt hx hby own_ok1
  show own_Ends p e below s _ _ _ s₁ (mkF m 0 #[oI 70, .val (.int i3)] [])
  refine own_go (T' := s₁) (f' := (mkF m 2 #[oI 70, .val (.int i3)] [(.int i3), vI 70])) (fun _ k => own_e X0 tt 0 2 k rfl) ?_
  refine own_go (T' := s₁) (f' := (mkF m 10 #[oI 70, .val (.int i3)] [(.int i3)])) (fun _ k => XS.icmpYes X0.here hx rfl (pc0 := 2) (pc' := 9) rfl (hb hby d1_2) rfl (tlt PP8).2.2.1 (by decide) (by decide) (own_e X0 tt 9 1 k rfl)) ?_
  refine own_ret X0 (v := some (.int i3)) (oN Br) Bs (fun fs hr => retI X0 hx Br (hb hby d1_10) hr) ?_ (by decide) (by decide)
  unfold Q1a102
  exact ⟨rfl, N0, e0⟩
def own_t30 (pc : Nat) : Option (Instr × Nat) := bif Nat.ble pc 12 then (bif Nat.ble pc 6 then (bif Nat.ble pc 1 then (bif Nat.ble pc 0 then (bif Nat.beq pc 0 then some (.iload_n 1, 1) else none) else (bif Nat.beq pc 1 then some (.iload_n 2, 1) else none)) else (bif Nat.ble pc 5 then (bif Nat.beq pc 5 then some (.iload_n 2, 1) else none) else (bif Nat.beq pc 6 then some (.iload_n 1, 1) else none))) else (bif Nat.ble pc 8 then (bif Nat.ble pc 7 then (bif Nat.beq pc 7 then some (.isub, 1) else none) else (bif Nat.beq pc 8 then some (.istore_n 3, 1) else none)) else (bif Nat.ble pc 9 then (bif Nat.beq pc 9 then some (.iload_n 3, 1) else none) else (bif Nat.beq pc 12 then some (.astore 4, 2) else none)))) else (bif Nat.ble pc 18 then (bif Nat.ble pc 15 then (bif Nat.ble pc 14 then (bif Nat.beq pc 14 then some (.aload_n 0, 1) else none) else (bif Nat.beq pc 15 then some (.iload_n 1, 1) else none)) else (bif Nat.ble pc 16 then (bif Nat.beq pc 16 then some (.aload 4, 2) else none) else (bif Nat.beq pc 18 then some (.iconst 0, 1) else none))) else (bif Nat.ble pc 21 then (bif Nat.ble pc 19 then (bif Nat.beq pc 19 then some (.aload_n 0, 1) else none) else (bif Nat.beq pc 21 then some (.iload_n 1, 1) else none)) else (bif Nat.ble pc 22 then (bif Nat.beq pc 22 then some (.isub, 1) else none) else (bif Nat.ble pc 23 then (bif Nat.beq pc 23 then some (.iload_n 3, 1) else none) else (bif Nat.beq pc 30 then some (.aload 4, 2) else none)))))
theorem own_ok30 : ∀ pc q, own_fetch 33 own_t30 pc = some q → decode jdk_65_method_133_code pc = .ok q := own_tab (by decide +kernel)
theorem d30_2 : decode jdk_65_method_133_code 2 = .ok (.invokestatic 343, 3) := by decide +kernel
theorem d30_10 : decode jdk_65_method_133_code 10 = .ok (.newarray .byte, 2) := by decide +kernel
theorem d30_20 : decode jdk_65_method_133_code 20 = .ok (.arraylength, 1) := by decide +kernel
theorem d30_24 : decode jdk_65_method_133_code 24 = .ok (.invokestatic 304, 3) := by decide +kernel
theorem d30_27 : decode jdk_65_method_133_code 27 = .ok (.invokestatic 150, 3) := by decide +kernel
theorem d30_32 : decode jdk_65_method_133_code 32 = .ok (.areturn, 1) := by decide +kernel
def Q30a112 (Z : State) (i3 : Int32) (h0 : Heap) (n0 : Nat) (v : Option Value) (h : Heap) (L : List Loc) : Prop := ∃ (b4 : Addr) (k4 : ClassId) (us5 : List Value), v = some (.ref b4) ∧ Fr n0 L ∧ Keep h0 h [] ∧ n0 ≤ b4 ∧ h0.size ≤ b4 ∧ Arv Z h b4 k4 .byte (i3 - (0 : Int32)) us5 (.int (0 : Int32)) ∧ Exa Z h b4 "[B" ∧ us5.length = ((i3 - (0 : Int32))).toNatClampNeg
set_option maxRecDepth 65536 in
set_option maxHeartbeats 40000000 in
theorem rm30a112 (l : Launch) (Z : State) (a0 : Array Value) (hw : HW a0 Z) (ws : List Jvm.Cond) (b3a : Addr) (i4 : Int32) (k3b : ClassId) (us3c : List Value) (h0 : Heap) (n0 : Nat) (Z0 : n0 ≤ h0.size) (PV25 : Arv Z h0 b3a k3b .byte (70 : Int32) us3c (.int (0 : Int32))) (PP5 : ¬ (i4 < (0 : Int32))) (PP6 : ¬ ((i4 - (0 : Int32)) < (0 : Int32))) (PP7 : ¬ ((42 : Int32) < (i4 - (0 : Int32)))) (PP8 : (i4 - (0 : Int32)) < (70 : Int32)) (PP9 : ¬ ((i4 - (0 : Int32)) < (i4 - (0 : Int32)))) (PP10 : ¬ ((70 : Int32) < (i4 - (0 : Int32)))) :
    own_Met l mn25 jdk_65_method_133_code 5 (some (.array .byte)) ws (oRm 1 1 42 18) #[(.ref b3a), (.int (0 : Int32)), (.int i4)] Z h0 (Q30a112 Z i4 h0 n0) := by
  refine own_met (own := "java/util/Arrays") rfl (plainFor_of_name pn_11) ?_
  intro p e s m below meth c s₁ hx hby hml hZ hown hnm X0 e0 Br Bs
  have N0 := Fr.nil n0
  have tt := own_tt hx hby own_ok30
  show own_Ends p e below s _ _ _ s₁ (mkF m 0 #[oR b3a, oI 0, .val (.int i4), oU, oU] [])
  refine own_go (T' := s₁) (f' := (mkF m 2 #[oR b3a, oI 0, .val (.int i4), oU, oU] [(.int i4), vI 0])) (fun _ k => own_e X0 tt 0 2 k rfl) ?_
  obtain ⟨_, T11, Lc11, X11, hQ11, st11⟩ := own_outC (Jvm.LawKit.callS X0 hx (y := mn24) hown (mvT hZ (ow168 hw)) (mvT hZ (ow169 hw)) (mvT hZ (ow87 hw)) (mvT hZ (ow170 hw)) (by decide) (backOf (W := 0) (rm31a85 l Z a0 hw [] i4 h0 n0 Z0 PP5) hZ (ow170 hw) (ow87 hw) (by decide) (by decide)) (g := (mkF m 2 #[oR b3a, oI 0, .val (.int i4), oU, oU] [(.int i4), vI 0])) rfl (by rw [hml]; rfl) (argsL := [(.int (0 : Int32)), (.int i4)]) (rest := []) (lenOf pd14 rfl) rfl (by show 2 * 0 + _ ≤ _; exact Nat.le_of_eq rfl) (hb hby d30_2) (fun _ _ => ⟨rfl, e0, (by decide : 0 + 0 ≤ _), (by decide : 0 + 0 ≤ _)⟩))
  obtain ⟨rfl, N11q, hh11⟩ := hQ11
  have N11 := Fr.app N0 N11q
  obtain ⟨_, X11, N11⟩ := own_hide X11 N11
  refine own_go (T' := T11) (f' := (mkF m 10 #[oR b3a, oI 0, .val (.int i4), .val (.int (i4 - (0 : Int32))), oU] [(.int (i4 - (0 : Int32)))])) (fun _ k => st11 _ (own_e X11 tt 5 5 k rfl)) ?_
  obtain ⟨T12, h12, k12, X12, e12, E12, A12, EA12, st12⟩ := newPE (aty := .byte) X11 hx hZ (ow32 hw) hh11 (g := (mkF m 10 #[oR b3a, oI 0, .val (.int i4), .val (.int (i4 - (0 : Int32))), oU] [(.int (i4 - (0 : Int32)))])) rfl (hb hby d30_10) rfl PP6 (cap := 42) (own_cap (by decide) PP7) (by decide) (by decide) (by decide) (ad := "[B") (by decide +kernel)
  obtain ⟨b12, g_b12⟩ : ∃ z, z = h0.size := ⟨_, rfl⟩
  have sg_b12 : h0.size ≤ b12 := Nat.le_of_eq g_b12.symm
  rw [← g_b12] at A12 EA12 st12
  have n_b12 := oT Z0 sg_b12
  have sz_b12 := oT (Keep.refl h0 []).1 sg_b12
  have K12 : Keep h0 h12 [] := (Keep.refl h0 []).ext E12
  have V_b12 : Arv Z h12 b12 k12 .byte (i4 - (0 : Int32)) [] (.int (0 : Int32)) := Arv.new A12 PP6
  obtain ⟨us12, hl12, Vo12⟩ := own_open V_b12
  refine own_go (T' := T12) (f' := (mkF m 20 #[oR b3a, oI 0, .val (.int i4), .val (.int (i4 - (0 : Int32))), oR b12] [vR b3a, vI 0, vR b12, vI 0, vR b3a])) (fun _ k => st12 _ (own_e X12 tt 12 6 k rfl)) ?_
  refine own_go (T' := T12) (f' := (mkF m 24 #[oR b3a, oI 0, .val (.int i4), .val (.int (i4 - (0 : Int32))), oR b12] [(.int (i4 - (0 : Int32))), vI 70, vI 0, vR b12, vI 0, vR b3a])) (fun _ k => own_alen X12 hx hZ e12 (PV25.ext E12) rfl rfl (hb hby d30_20) (own_e X12 tt 21 3 k rfl)) ?_
  obtain ⟨_, T13, Lc13, X13, hQ13, st13⟩ := own_outC (Jvm.LawKit.callS X12 hx (y := mn0) hown (mvT hZ (ow89 hw)) (mvT hZ (ow2 hw)) (mvT hZ (ow3 hw)) (mvT hZ (ow4 hw)) (by decide) (backOf (W := 4) (rm1a102 l Z a0 hw [] (i4 - (0 : Int32)) h12 n0 (oT Z0 E12.1) PP8) hZ (ow4 hw) (ow3 hw) (by decide) (by decide)) (g := (mkF m 24 #[oR b3a, oI 0, .val (.int i4), .val (.int (i4 - (0 : Int32))), oR b12] [(.int (i4 - (0 : Int32))), vI 70, vI 0, vR b12, vI 0, vR b3a])) rfl (by rw [hml]; rfl) (argsL := [(.int (70 : Int32)), (.int (i4 - (0 : Int32)))]) (rest := [(.int (0 : Int32)), (.ref b12), (.int (0 : Int32)), (.ref b3a)]) (lenOf pd12 rfl) rfl (by show 2 * 0 + _ ≤ _; exact Nat.le_of_eq rfl) (hb hby d30_24) (fun _ _ => ⟨rfl, e12, (by decide : 1 + 0 ≤ _), (by decide : 42 + 0 ≤ _)⟩))
  obtain ⟨rfl, N13q, hh13⟩ := hQ13
  have N13 := Fr.app N11 N13q
  obtain ⟨_, X13, N13⟩ := own_hide X13 N13
  refine own_go (T' := T13) (f' := (mkF m 27 #[oR b3a, oI 0, .val (.int i4), .val (.int (i4 - (0 : Int32))), oR b12] [(.int (i4 - (0 : Int32))), vI 0, vR b12, vI 0, vR b3a])) (fun _ k => st13 _ k) ?_
  obtain ⟨T14, h14, Lq14, X14, e14, N14, K14, V14, st14⟩ := cpA X13 hx hZ hown (ow90 hw) (ow93 hw) (ow91 hw) (ow92 hw) hh13 (PV25.ext E12) Vo12 (Or.inl ⟨rfl, rfl⟩) (sp := (0 : Int32)) (dp := (0 : Int32)) (nn := (i4 - (0 : Int32))) (by decide) (by decide) PP6 (own_cl0 PP10) (own_cl0 PP9) rfl (by rw [hl12]; exact (own_cl0 PP9)) N13 n_b12 (g := (mkF m 27 #[oR b3a, oI 0, .val (.int i4), .val (.int (i4 - (0 : Int32))), oR b12] [(.int (i4 - (0 : Int32))), vI 0, vR b12, vI 0, vR b3a])) rfl (by rw [hml]; rfl) rfl (hb hby d30_27) (by decide) (W := 0) (by show 2 * 0 + _ ≤ _; exact Nat.le_of_eq rfl) (by decide)
  obtain ⟨us14, hl14, Vo14⟩ := own_open V14
  have KK14 : Keep h0 h14 [] := Keep.trans K12 K14 (allS (Or.inr sz_b12) all0)
  refine own_go (T' := T14) (f' := (mkF m 32 #[oR b3a, oI 0, .val (.int i4), .val (.int (i4 - (0 : Int32))), oR b12] [vR b12])) (fun _ k => st14 _ (own_e X14 tt 30 1 k rfl)) ?_
  refine own_ret X14 (v := some (.ref b12)) (oN Br) Bs (fun fs hr => own_retA X14 hx Br rfl rfl (hb hby d30_32) hr) ?_ (by decide) (by decide)
  unfold Q30a112
  rw [e14]
  exact ⟨b12, k12, us14, rfl, N14, KK14, n_b12, sz_b12, Vo14, (EA12.keep K14), hl14⟩
theorem pd29 : parseMethodDescriptor "([BII)[B" = some ⟨[(.array .byte), .int, .int], some (.array .byte)⟩ := by decide +kernel
def own_t29 (pc : Nat) : Option (Instr × Nat) := bif Nat.ble pc 5 then (bif Nat.ble pc 1 then (bif Nat.ble pc 0 then (bif Nat.beq pc 0 then some (.iload_n 1, 1) else none) else (bif Nat.beq pc 1 then some (.ifCond .ne 9, 3) else none)) else (bif Nat.ble pc 4 then (bif Nat.beq pc 4 then some (.iload_n 2, 1) else none) else (bif Nat.beq pc 5 then some (.aload_n 0, 1) else none))) else (bif Nat.ble pc 10 then (bif Nat.ble pc 7 then (bif Nat.beq pc 7 then some (.if_icmp .eq 10, 3) else none) else (bif Nat.beq pc 10 then some (.aload_n 0, 1) else none)) else (bif Nat.ble pc 11 then (bif Nat.beq pc 11 then some (.iload_n 1, 1) else none) else (bif Nat.ble pc 12 then (bif Nat.beq pc 12 then some (.iload_n 2, 1) else none) else (bif Nat.beq pc 17 then some (.aload_n 0, 1) else none))))
theorem own_ok29 : ∀ pc q, own_fetch 25 own_t29 pc = some q → decode jdk_65_method_132_code pc = .ok q := own_tab (by decide +kernel)
theorem d29_6 : decode jdk_65_method_132_code 6 = .ok (.arraylength, 1) := by decide +kernel
theorem d29_7 : decode jdk_65_method_132_code 7 = .ok (.if_icmp .eq 10, 3) := by decide +kernel
theorem d29_13 : decode jdk_65_method_132_code 13 = .ok (.invokestatic 339, 3) := by decide +kernel
theorem d29_16 : decode jdk_65_method_132_code 16 = .ok (.areturn, 1) := by decide +kernel
def Q29a111 (Z : State) (i3 : Int32) (h0 : Heap) (n0 : Nat) (v : Option Value) (h : Heap) (L : List Loc) : Prop := ∃ (b4a : Addr) (k4b : ClassId) (us4c : List Value), v = some (.ref b4a) ∧ Fr n0 L ∧ Keep h0 h [] ∧ n0 ≤ b4a ∧ h0.size ≤ b4a ∧ Arv Z h b4a k4b .byte (i3 - (0 : Int32)) us4c (.int (0 : Int32)) ∧ Exa Z h b4a "[B" ∧ us4c.length = ((i3 - (0 : Int32))).toNatClampNeg
set_option maxRecDepth 65536 in
set_option maxHeartbeats 40000000 in
theorem rm29a111 (l : Launch) (Z : State) (a0 : Array Value) (hw : HW a0 Z) (ws : List Jvm.Cond) (b3a : Addr) (i11 : Int32) (k3b : ClassId) (us3c : List Value) (h0 : Heap) (n0 : Nat) (Z0 : n0 ≤ h0.size) (PV25 : Arv Z h0 b3a k3b .byte (70 : Int32) us3c (.int (0 : Int32))) (PP4 : ¬ (i11 = (70 : Int32))) (PP5 : ¬ (i11 < (0 : Int32))) (PP6 : ¬ ((i11 - (0 : Int32)) < (0 : Int32))) (PP7 : ¬ ((42 : Int32) < (i11 - (0 : Int32)))) (PP8 : (i11 - (0 : Int32)) < (70 : Int32)) (PP9 : ¬ ((i11 - (0 : Int32)) < (i11 - (0 : Int32)))) (PP10 : ¬ ((70 : Int32) < (i11 - (0 : Int32)))) :
    own_Met l mn26 jdk_65_method_132_code 3 (some (.array .byte)) ws (oRm 2 1 42 34) #[(.ref b3a), (.int (0 : Int32)), (.int i11)] Z h0 (Q29a111 Z i11 h0 n0) := by
  refine own_met (own := "java/util/Arrays") rfl (plainFor_of_name pn_11) ?_
  intro p e s m below meth c s₁ hx hby hml hZ hown hnm X0 e0 Br Bs
  have N0 := Fr.nil n0
  have tt := own_tt hx hby own_ok29
  show own_Ends p e below s _ _ _ s₁ (mkF m 0 #[oR b3a, oI 0, .val (.int i11)] [])
  refine own_go (T' := s₁) (f' := (mkF m 6 #[oR b3a, oI 0, .val (.int i11)] [vR b3a, (.int i11)])) (fun _ k => own_e X0 tt 0 4 k rfl) ?_
  refine own_go (T' := s₁) (f' := (mkF m 13 #[oR b3a, oI 0, .val (.int i11)] [(.int i11), vI 0, vR b3a])) (fun _ k => own_alen X0 hx hZ e0 PV25 rfl rfl (hb hby d29_6) (XS.icmpNo X0.here hx rfl (hb hby d29_7) rfl (feq PP4).1 (own_e X0 tt 10 3 k rfl))) ?_
  obtain ⟨_, T12, Lc12, X12, hQ12, st12⟩ := own_outC (Jvm.LawKit.callS X0 hx (y := mn25) hown (mvT hZ (ow165 hw)) (mvT hZ (ow166 hw)) (mvT hZ (ow87 hw)) (mvT hZ (ow167 hw)) (by decide) (backOf (W := 0) (rm30a112 l Z a0 hw [] b3a i11 k3b us3c h0 n0 Z0 PV25 PP5 PP6 PP7 PP8 PP9 PP10) hZ (ow167 hw) (ow87 hw) (by decide) (by decide)) (g := (mkF m 13 #[oR b3a, oI 0, .val (.int i11)] [(.int i11), vI 0, vR b3a])) rfl (by rw [hml]; rfl) (argsL := [(.ref b3a), (.int (0 : Int32)), (.int i11)]) (rest := []) (lenOf pd29 rfl) rfl (by show 2 * 0 + _ ≤ _; exact Nat.le_of_eq rfl) (hb hby d29_13) (fun _ _ => ⟨rfl, e0, (by decide : 0 + 1 ≤ _), (by decide : 0 + 42 ≤ _)⟩))
  obtain ⟨b12a, k12b, us12c, rfl, N12q, K12, n_b12a, sg_b12a, g12_0, g12_1, g12_2⟩ := hQ12
  have N12 := Fr.app N0 N12q
  have sz_b12a := oT (Keep.refl h0 []).1 sg_b12a
  have eK12 : T12.heap = T12.heap := rfl
  have KK12 : Keep h0 T12.heap [] := Keep.trans (Keep.refl h0 []) K12 all0
  obtain ⟨_, X12, N12⟩ := own_hide X12 N12
  refine own_go (T' := T12) (f' := (mkF m 16 #[oR b3a, oI 0, .val (.int i11)] [vR b12a])) (fun _ k => st12 _ k) ?_
  refine own_ret X12 (v := some (.ref b12a)) (oN Br) Bs (fun fs hr => own_retA X12 hx Br rfl rfl (hb hby d29_16) hr) ?_ (by decide) (by decide)
  unfold Q29a111
  rw [eK12]
  exact ⟨b12a, k12b, us12c, rfl, N12, KK12, n_b12a, sz_b12a, g12_0, g12_1, g12_2⟩
def own_t25 (pc : Nat) : Option (Instr × Nat) := bif Nat.ble pc 19 then (bif Nat.ble pc 8 then (bif Nat.ble pc 0 then (bif Nat.beq pc 0 then some (.aload_n 0, 1) else none) else (bif Nat.ble pc 4 then (bif Nat.beq pc 4 then some (.aload_n 1, 1) else none) else (bif Nat.beq pc 8 then some (.astore_n 3, 1) else none))) else (bif Nat.ble pc 13 then (bif Nat.ble pc 9 then (bif Nat.beq pc 9 then some (.aload_n 1, 1) else none) else (bif Nat.beq pc 13 then some (.istore 4, 2) else none)) else (bif Nat.ble pc 15 then (bif Nat.beq pc 15 then some (.aload_n 1, 1) else none) else (bif Nat.beq pc 19 then some (.ifCond .eq 22, 3) else none)))) else (bif Nat.ble pc 27 then (bif Nat.ble pc 22 then (bif Nat.beq pc 22 then some (.aload_n 0, 1) else none) else (bif Nat.ble pc 23 then (bif Nat.beq pc 23 then some (.iconst 0, 1) else none) else (bif Nat.beq pc 27 then some (.aload_n 0, 1) else none))) else (bif Nat.ble pc 29 then (bif Nat.ble pc 28 then (bif Nat.beq pc 28 then some (.aload_n 3, 1) else none) else (bif Nat.beq pc 29 then some (.iconst 0, 1) else none)) else (bif Nat.ble pc 30 then (bif Nat.beq pc 30 then some (.iload 4, 2) else none) else (bif Nat.beq pc 38 then some (.goto 59, 3) else none))))
theorem own_ok25 : ∀ pc q, own_fetch 98 own_t25 pc = some q → decode jdk_42_method_150_code pc = .ok q := own_tab (by decide +kernel)
theorem d25_1 : decode jdk_42_method_150_code 1 = .ok (.invokespecial 1, 3) := by decide +kernel
theorem d25_5 : decode jdk_42_method_150_code 5 = .ok (.invokevirtual 552, 3) := by decide +kernel
theorem d25_10 : decode jdk_42_method_150_code 10 = .ok (.invokevirtual 549, 3) := by decide +kernel
theorem d25_16 : decode jdk_42_method_150_code 16 = .ok (.invokevirtual 1047, 3) := by decide +kernel
theorem d25_24 : decode jdk_42_method_150_code 24 = .ok (.putfield 15, 3) := by decide +kernel
theorem d25_32 : decode jdk_42_method_150_code 32 = .ok (.invokestatic 54, 3) := by decide +kernel
theorem d25_35 : decode jdk_42_method_150_code 35 = .ok (.putfield 9, 3) := by decide +kernel
theorem d25_97 : decode jdk_42_method_150_code 97 = .ok (.return_, 1) := by decide +kernel
def Q25a110 (Z : State) (b3 : Addr) (i4 : Int32) (h0 : Heap) (n0 : Nat) (v : Option Value) (h : Heap) (L : List Loc) : Prop := ∃ (b5a : Addr) (k5b : ClassId) (us5c : List Value), v = none ∧ Fr n0 L ∧ Keep h0 h [b3] ∧ n0 ≤ b5a ∧ h0.size ≤ b5a ∧ oF4 Z h b3 (.ref b5a) ∧ oF3 Z h b3 (.int (0 : Int32)) ∧ Arv Z h b5a k5b .byte (i4 - (0 : Int32)) us5c (.int (0 : Int32)) ∧ Exa Z h b5a "[B" ∧ us5c.length = ((i4 - (0 : Int32))).toNatClampNeg
set_option maxRecDepth 65536 in
set_option maxHeartbeats 40000000 in
theorem rm25a110 (l : Launch) (Z : State) (a0 : Array Value) (hw : HW a0 Z) (ws : List Jvm.Cond) (b3 : Addr) (b2 : Addr) (cs : Int32) (b13a : Addr) (i14 : Int32) (k13b : ClassId) (us13c : List Value) (h0 : Heap) (n0 : Nat) (Z0 : n0 ≤ h0.size) (PS0 : Sta Z h0 "java/lang/String" "COMPACT_STRINGS" "Z" (.int cs)) (PE9 : Exa Z h0 b2 "java/lang/StringBuilder") (PF10 : oF0 Z h0 b2 (.ref b13a)) (PF11 : oF1 Z h0 b2 (.int (0 : Int32))) (PF12 : oF2 Z h0 b2 (.int i14)) (PV25 : Arv Z h0 b13a k13b .byte (70 : Int32) us13c (.int (0 : Int32))) (PE27 : Exa Z h0 b3 "java/lang/String") (PF28 : oF4 Z h0 b3 .null) (PF29 : oF3 Z h0 b3 (.int (0 : Int32))) (PP0 : ¬ (cs = (0 : Int32))) (PP4 : ¬ (i14 = (70 : Int32))) (PP5 : ¬ (i14 < (0 : Int32))) (PP6 : ¬ ((i14 - (0 : Int32)) < (0 : Int32))) (PP7 : ¬ ((42 : Int32) < (i14 - (0 : Int32)))) (PP8 : (i14 - (0 : Int32)) < (70 : Int32)) (PP9 : ¬ ((i14 - (0 : Int32)) < (i14 - (0 : Int32)))) (PP10 : ¬ ((70 : Int32) < (i14 - (0 : Int32)))) (ne_b13a_b3 : b13a ≠ b3) (n_b3 : n0 ≤ b3) :
    own_Met l mn27 jdk_42_method_150_code 5 none ws (oRm 3 1 42 49) #[(.ref b3), (.ref b2), .null] Z h0 (Q25a110 Z b3 i14 h0 n0) := by
  refine own_met (own := "java/lang/String") rfl (plainFor_of_name pn_7) ?_
  intro p e s m below meth c s₁ hx hby hml hZ hown hnm X0 e0 Br Bs
  have N0 := Fr.nil n0
  have tt := own_tt hx hby own_ok25
  show own_Ends p e below s _ _ _ s₁ (mkF m 0 #[oR b3, oR b2, .val .null, oU, oU] [])
  refine own_go (T' := s₁) (f' := (mkF m 1 #[oR b3, oR b2, .val .null, oU, oU] [vR b3])) (fun _ k => own_e X0 tt 0 1 k rfl) ?_
  obtain ⟨T15, X15, e15, st15⟩ := initO X0 hx hZ hown (ow147 hw) (ow28 hw) (ow29 hw) e0 (g := (mkF m 1 #[oR b3, oR b2, .val .null, oU, oU] [vR b3])) rfl (by rw [hml]; rfl) rfl (hb hby d25_1) (by decide) (W := 0) (by show 2 * 0 + _ ≤ _; exact Nat.le_of_eq rfl) (by decide)
  refine own_go (T' := T15) (f' := (mkF m 5 #[oR b3, oR b2, .val .null, oU, oU] [vR b2])) (fun _ k => st15 _ (own_e X15 tt 4 1 k rfl)) ?_
  obtain ⟨cq16, kq16, q16a, q16b, q16c⟩ := isOf hZ e15 PE9
  obtain ⟨_, T16, Lc16, X16, hQ16, st16⟩ := own_out (X15.virtualBack hx (y := mn21) (z := mn21) hown (mvT hZ (ow148 hw)) (mvT hZ (ow149 hw)) (notFace_of_selects (args := #[]) (mvT hZ (ow151 hw))) (mvT hZ (ow151 hw)) (mvT hZ (ow150 hw)) (by decide) (backOf (W := 0) (rm26a70 l Z a0 hw [] b2 b13a h0 n0 Z0 PF10) hZ (ow152 hw) (ow25 hw) (by decide) (by decide)) q16a q16c (g := (mkF m 5 #[oR b3, oR b2, .val .null, oU, oU] [vR b2])) rfl (by rw [hml]; rfl) (Steps.refl _) (argsL := []) (rest := []) (lenOf pd7 rfl) rfl (by show 2 * 0 + _ ≤ _; exact Nat.le_of_eq rfl) (hb hby d25_5) (fun _ _ => ⟨rfl, e15, (by decide : 0 + 0 ≤ _), (by decide : 0 + 0 ≤ _)⟩))
  obtain ⟨rfl, N16q, hh16⟩ := hQ16
  have N16 := Fr.app N0 N16q
  obtain ⟨_, X16, N16⟩ := own_hide X16 N16
  refine own_go (T' := T16) (f' := (mkF m 10 #[oR b3, oR b2, .val .null, oR b13a, oU] [vR b2])) (fun _ k => st16.trans (own_e X16 tt 8 2 k rfl)) ?_
  obtain ⟨cq17, kq17, q17a, q17b, q17c⟩ := isOf hZ hh16 PE9
  obtain ⟨_, T17, Lc17, X17, hQ17, st17⟩ := own_out (X16.virtualBack hx (y := mn22) (z := mn23) hown (mvT hZ (ow153 hw)) (mvT hZ (ow154 hw)) (own_nf (args := #[]) (y2 := mn11) (mvT hZ (ow71 hw)) rfl) (mvT hZ (ow156 hw)) (mvT hZ (ow157 hw)) (by decide) (backOf (W := 0) (rm27a71 l Z a0 hw [] b2 i14 h0 n0 Z0 PE9 PF12) hZ (ow158 hw) (ow17 hw) (by decide) (by decide)) q17a q17c (g := (mkF m 10 #[oR b3, oR b2, .val .null, oR b13a, oU] [vR b2])) rfl (by rw [hml]; rfl) (Steps.refl _) (argsL := []) (rest := []) (lenOf pd1 rfl) rfl (by show 2 * 0 + _ ≤ _; exact Nat.le_of_eq rfl) (hb hby d25_10) (fun _ _ => ⟨rfl, hh16, (by decide : 0 + 0 ≤ _), (by decide : 0 + 0 ≤ _)⟩))
  obtain ⟨rfl, N17q, hh17⟩ := hQ17
  have N17 := Fr.app N16 N17q
  obtain ⟨_, X17, N17⟩ := own_hide X17 N17
  refine own_go (T' := T17) (f' := (mkF m 16 #[oR b3, oR b2, .val .null, oR b13a, .val (.int i14)] [vR b2])) (fun _ k => st17.trans (own_e X17 tt 13 2 k rfl)) ?_
  obtain ⟨cq18, kq18, q18a, q18b, q18c⟩ := isOf hZ hh17 PE9
  obtain ⟨_, T18, Lc18, X18, hQ18, st18⟩ := own_out (X17.virtualBack hx (y := mn17) (z := mn17) hown (mvT hZ (ow161 hw)) (mvT hZ (ow125 hw)) (notFace_of_selects (args := #[]) (mvT hZ (ow127 hw))) (mvT hZ (ow127 hw)) (mvT hZ (ow126 hw)) (by decide) (backOf (W := 0) (rm21a22 l Z a0 hw [] b2 cs h0 n0 Z0 PS0 PF11 PP0) hZ (ow128 hw) (ow25 hw) (by decide) (by decide)) q18a q18c (g := (mkF m 16 #[oR b3, oR b2, .val .null, oR b13a, .val (.int i14)] [vR b2])) rfl (by rw [hml]; rfl) (Steps.refl _) (argsL := []) (rest := []) (lenOf pd6 rfl) rfl (by show 2 * 0 + _ ≤ _; exact Nat.le_of_eq rfl) (hb hby d25_16) (fun _ _ => ⟨rfl, hh17, (by decide : 0 + 0 ≤ _), (by decide : 0 + 0 ≤ _)⟩))
  obtain ⟨rfl, N18q, hh18⟩ := hQ18
  have N18 := Fr.app N17 N18q
  obtain ⟨_, X18, N18⟩ := own_hide X18 N18
  refine own_go (T' := T18) (f' := (mkF m 24 #[oR b3, oR b2, .val .null, oR b13a, .val (.int i14)] [vI 0, vR b3])) (fun _ k => st18.trans (own_e X18 tt 19 3 k rfl)) ?_
  obtain ⟨T19, h19, X19, e19, W19, st19⟩ := putFN X18 hx hZ hown (ow65 hw) Via.refl hh18 PF29 PE27 (Or.inr ⟨(ow40 hw), rfl, hnm⟩) (ow38 hw) (ty := .byte) (v' := (.int (0 : Int32))) (by decide) rfl (fits_nar_byte (0 : Int32)) (g := (mkF m 24 #[oR b3, oR b2, .val .null, oR b13a, .val (.int i14)] [vI 0, vR b3])) rfl rfl (hb hby d25_24)
  have Fw19 := Fld.same W19 PF29
  have K19 : Keep h0 h19 [b3] := (Keep.refl h0 [b3]).wr W19 (Or.inl (List.mem_of_getElem? (i := 0) rfl))
  have N19 := Fr.snoc X19 N18 n_b3
  refine own_go (T' := T19) (f' := (mkF m 32 #[oR b3, oR b2, .val .null, oR b13a, .val (.int i14)] [(.int i14), vI 0, vR b13a, vR b3])) (fun _ k => st19 _ (own_e X19 tt 27 4 k rfl)) ?_
  obtain ⟨_, T20, Lc20, X20, hQ20, st20⟩ := own_outC (Jvm.LawKit.callS X19 hx (y := mn26) hown (mvT hZ (ow162 hw)) (mvT hZ (ow163 hw)) (mvT hZ (ow87 hw)) (mvT hZ (ow164 hw)) (by decide) (backOf (W := 1) (rm29a111 l Z a0 hw [] b13a i14 k13b us13c h19 n0 (oT Z0 (Keep.of_wr W19).1) (PV25.other W19 ne_b13a_b3) PP4 PP5 PP6 PP7 PP8 PP9 PP10) hZ (ow164 hw) (ow87 hw) (by decide) (by decide)) (g := (mkF m 32 #[oR b3, oR b2, .val .null, oR b13a, .val (.int i14)] [(.int i14), vI 0, vR b13a, vR b3])) rfl (by rw [hml]; rfl) (argsL := [(.ref b13a), (.int (0 : Int32)), (.int i14)]) (rest := [(.ref b3)]) (lenOf pd29 rfl) rfl (by show 2 * 0 + _ ≤ _; exact Nat.le_of_eq rfl) (hb hby d25_32) (fun _ _ => ⟨rfl, e19, (by decide : 0 + 1 ≤ _), (by decide : 0 + 42 ≤ _)⟩))
  obtain ⟨b20a, k20b, us20c, rfl, N20q, K20, n_b20a, sg_b20a, g20_0, g20_1, g20_2⟩ := hQ20
  have N20 := Fr.app N19 N20q
  have sz_b20a := oT K19.1 sg_b20a
  have eK20 : T20.heap = T20.heap := rfl
  have KK20 : Keep h0 T20.heap [b3] := Keep.trans K19 K20 all0
  obtain ⟨_, X20, N20⟩ := own_hide X20 N20
  refine own_go (T' := T20) (f' := (mkF m 35 #[oR b3, oR b2, .val .null, oR b13a, .val (.int i14)] [vR b20a, vR b3])) (fun _ k => st20 _ k) ?_
  obtain ⟨T21, h21, X21, e21, W21, st21⟩ := putF X20 hx hZ hown (host := "") (Or.inl (ow58 hw)) Via.refl eK20 ((PF28.other W19 (Or.inr (sn_39_40 hw))).keep K20 nin0) ((PE27.wr W19).keep K20) (Or.inr ⟨(ow39 hw), rfl, hnm⟩) (ow38 hw) (ty := (.array .byte)) (by decide) rfl rfl (g := (mkF m 35 #[oR b3, oR b2, .val .null, oR b13a, .val (.int i14)] [vR b20a, vR b3])) rfl rfl (hb hby d25_35)
  have Fw21 := Fld.same W21 ((PF28.other W19 (Or.inr (sn_39_40 hw))).keep K20 nin0)
  have K21 : Keep h0 h21 [b3] := KK20.wr W21 (Or.inl (List.mem_of_getElem? (i := 0) rfl))
  have N21 := Fr.snoc X21 N20 n_b3
  refine own_go (T' := T21) (f' := (mkF m 97 #[oR b3, oR b2, .val .null, oR b13a, .val (.int i14)] [])) (fun _ k => st21 _ (own_e X21 tt 38 1 k rfl)) ?_
  refine own_ret X21 (v := none) (fun _ => rfl) Bs (fun fs hr => X21.returnOut hx Br (hb hby d25_97) hr) ?_ (by decide) (by decide)
  unfold Q25a110
  rw [e21]
  exact ⟨b20a, k20b, us20c, rfl, N21, K21, n_b20a, sz_b20a, Fw21, ((Fw19.keep K20 nin0).other W21 (Or.inr (sn_40_39 hw))), (g20_0.other W21 (oM PE27.lt sz_b20a)), (g20_1.wr W21), g20_2⟩
theorem pd19 : parseMethodDescriptor "(Ljava/lang/AbstractStringBuilder;Ljava/lang/Void;)V" = some ⟨[(.object "java/lang/AbstractStringBuilder"), (.object "java/lang/Void")], none⟩ := by decide +kernel
def own_t24 (pc : Nat) : Option (Instr × Nat) := bif Nat.ble pc 0 then (bif Nat.beq pc 0 then some (.aload_n 0, 1) else none) else (bif Nat.ble pc 1 then (bif Nat.beq pc 1 then some (.aload_n 1, 1) else none) else (bif Nat.beq pc 2 then some (.aconst_null, 1) else none))
theorem own_ok24 : ∀ pc q, own_fetch 7 own_t24 pc = some q → decode jdk_42_method_53_code pc = .ok q := own_tab (by decide +kernel)
theorem d24_3 : decode jdk_42_method_53_code 3 = .ok (.invokespecial 489, 3) := by decide +kernel
theorem d24_6 : decode jdk_42_method_53_code 6 = .ok (.return_, 1) := by decide +kernel
def Q24a109 (Z : State) (b3 : Addr) (i4 : Int32) (h0 : Heap) (n0 : Nat) (v : Option Value) (h : Heap) (L : List Loc) : Prop := ∃ (b5a : Addr) (k5b : ClassId) (us5c : List Value), v = none ∧ Fr n0 L ∧ Keep h0 h [b3] ∧ n0 ≤ b5a ∧ h0.size ≤ b5a ∧ oF4 Z h b3 (.ref b5a) ∧ oF3 Z h b3 (.int (0 : Int32)) ∧ Arv Z h b5a k5b .byte (i4 - (0 : Int32)) us5c (.int (0 : Int32)) ∧ Exa Z h b5a "[B" ∧ us5c.length = ((i4 - (0 : Int32))).toNatClampNeg
set_option maxRecDepth 65536 in
set_option maxHeartbeats 40000000 in
theorem rm24a109 (l : Launch) (Z : State) (a0 : Array Value) (hw : HW a0 Z) (ws : List Jvm.Cond) (b13 : Addr) (b2 : Addr) (cs : Int32) (b14a : Addr) (i15 : Int32) (k14b : ClassId) (us14c : List Value) (h0 : Heap) (n0 : Nat) (Z0 : n0 ≤ h0.size) (PS0 : Sta Z h0 "java/lang/String" "COMPACT_STRINGS" "Z" (.int cs)) (PE9 : Exa Z h0 b2 "java/lang/StringBuilder") (PF10 : oF0 Z h0 b2 (.ref b14a)) (PF11 : oF1 Z h0 b2 (.int (0 : Int32))) (PF12 : oF2 Z h0 b2 (.int i15)) (PV25 : Arv Z h0 b14a k14b .byte (70 : Int32) us14c (.int (0 : Int32))) (PE27 : Exa Z h0 b13 "java/lang/String") (PF28 : oF4 Z h0 b13 .null) (PF29 : oF3 Z h0 b13 (.int (0 : Int32))) (PP0 : ¬ (cs = (0 : Int32))) (PP4 : ¬ (i15 = (70 : Int32))) (PP5 : ¬ (i15 < (0 : Int32))) (PP6 : ¬ ((i15 - (0 : Int32)) < (0 : Int32))) (PP7 : ¬ ((42 : Int32) < (i15 - (0 : Int32)))) (PP8 : (i15 - (0 : Int32)) < (70 : Int32)) (PP9 : ¬ ((i15 - (0 : Int32)) < (i15 - (0 : Int32)))) (PP10 : ¬ ((70 : Int32) < (i15 - (0 : Int32)))) (ne_b14a_b13 : b14a ≠ b13) (n_b13 : n0 ≤ b13) :
    own_Met l mn28 jdk_42_method_53_code 2 none ws (oRm 4 1 42 65) #[(.ref b13), (.ref b2)] Z h0 (Q24a109 Z b13 i15 h0 n0) := by
  refine own_met (own := "java/lang/String") rfl (plainFor_of_name pn_7) ?_
  intro p e s m below meth c s₁ hx hby hml hZ hown hnm X0 e0 Br Bs
  have N0 := Fr.nil n0
  have tt := own_tt hx hby own_ok24
  show own_Ends p e below s _ _ _ s₁ (mkF m 0 #[oR b13, oR b2] [])
  refine own_go (T' := s₁) (f' := (mkF m 3 #[oR b13, oR b2] [.null, vR b2, vR b13])) (fun _ k => own_e X0 tt 0 3 k rfl) ?_
  obtain ⟨_, T16, Lc16, X16, hQ16, st16⟩ := own_out (X0.specialBack hx (y := mn27) rfl hown (mvT hZ (ow144 hw)) (mvT hZ (ow145 hw)) (mvT hZ (ow146 hw)) (by decide) (backOf (W := 0) (rm25a110 l Z a0 hw [] b13 b2 cs b14a i15 k14b us14c h0 n0 Z0 PS0 PE9 PF10 PF11 PF12 PV25 PE27 PF28 PF29 PP0 PP4 PP5 PP6 PP7 PP8 PP9 PP10 ne_b14a_b13 n_b13) hZ (ow146 hw) (ow31 hw) (by decide) (by decide)) (g := (mkF m 3 #[oR b13, oR b2] [.null, vR b2, vR b13])) rfl (by rw [hml]; rfl) (Steps.refl _) (a := b13) (argsL := [(.ref b2), .null]) (rest := []) (lenOf pd19 rfl) rfl (by show 2 * 0 + _ ≤ _; exact Nat.le_of_eq rfl) (hb hby d24_3) (fun _ _ => ⟨rfl, e0, (by decide : 0 + 1 ≤ _), (by decide : 0 + 42 ≤ _)⟩))
  obtain ⟨b16a, k16b, us16c, rfl, N16q, K16, n_b16a, sg_b16a, g16_0, g16_1, g16_2, g16_3, g16_4⟩ := hQ16
  have N16 := Fr.app N0 N16q
  have sz_b16a := oT (Keep.refl h0 [b13]).1 sg_b16a
  have eK16 : T16.heap = T16.heap := rfl
  have KK16 : Keep h0 T16.heap [b13] := Keep.trans (Keep.refl h0 [b13]) K16 (allS (Or.inl (List.mem_of_getElem? (i := 0) rfl)) all0)
  obtain ⟨_, X16, N16⟩ := own_hide X16 N16
  refine own_go (T' := T16) (f' := (mkF m 6 #[oR b13, oR b2] [])) (fun _ k => st16.trans k) ?_
  refine own_ret X16 (v := none) (fun _ => rfl) Bs (fun fs hr => X16.returnOut hx Br (hb hby d24_6) hr) ?_ (by decide) (by decide)
  unfold Q24a109
  rw [eK16]
  exact ⟨b16a, k16b, us16c, rfl, N16, KK16, n_b16a, sz_b16a, g16_0, g16_1, g16_2, g16_3, g16_4⟩
theorem pd25 : parseMethodDescriptor "(Ljava/lang/StringBuilder;)V" = some ⟨[(.object "java/lang/StringBuilder")], none⟩ := by decide +kernel
def own_t23 (pc : Nat) : Option (Instr × Nat) := bif Nat.ble pc 3 then (bif Nat.beq pc 3 then some (.dup, 1) else none) else (bif Nat.beq pc 4 then some (.aload_n 0, 1) else none)
theorem own_ok23 : ∀ pc q, own_fetch 9 own_t23 pc = some q → decode jdk_67_method_42_code pc = .ok q := own_tab (by decide +kernel)
theorem d23_0 : decode jdk_67_method_42_code 0 = .ok (.new 18, 3) := by decide +kernel
theorem d23_5 : decode jdk_67_method_42_code 5 = .ok (.invokespecial 137, 3) := by decide +kernel
theorem d23_8 : decode jdk_67_method_42_code 8 = .ok (.areturn, 1) := by decide +kernel
def Q23a108 (Z : State) (i3 : Int32) (h0 : Heap) (n0 : Nat) (v : Option Value) (h : Heap) (L : List Loc) : Prop := ∃ (b4 : Addr) (b5a : Addr) (k5b : ClassId) (us5c : List Value), v = some (.ref b4) ∧ Fr n0 L ∧ Keep h0 h [] ∧ n0 ≤ b4 ∧ h0.size ≤ b4 ∧ n0 ≤ b5a ∧ h0.size ≤ b5a ∧ b5a ≠ b4 ∧ Exa Z h b4 "java/lang/String" ∧ oF4 Z h b4 (.ref b5a) ∧ oF3 Z h b4 (.int (0 : Int32)) ∧ Arv Z h b5a k5b .byte (i3 - (0 : Int32)) us5c (.int (0 : Int32)) ∧ Exa Z h b5a "[B" ∧ us5c.length = ((i3 - (0 : Int32))).toNatClampNeg
set_option maxRecDepth 65536 in
set_option maxHeartbeats 40000000 in
theorem rm23a108 (l : Launch) (Z : State) (a0 : Array Value) (hw : HW a0 Z) (ws : List Jvm.Cond) (b2 : Addr) (cs : Int32) (b13a : Addr) (i14 : Int32) (k13b : ClassId) (us13c : List Value) (h0 : Heap) (n0 : Nat) (Z0 : n0 ≤ h0.size) (PS0 : Sta Z h0 "java/lang/String" "COMPACT_STRINGS" "Z" (.int cs)) (PE9 : Exa Z h0 b2 "java/lang/StringBuilder") (PF10 : oF0 Z h0 b2 (.ref b13a)) (PF11 : oF1 Z h0 b2 (.int (0 : Int32))) (PF12 : oF2 Z h0 b2 (.int i14)) (PV25 : Arv Z h0 b13a k13b .byte (70 : Int32) us13c (.int (0 : Int32))) (PP0 : ¬ (cs = (0 : Int32))) (PP4 : ¬ (i14 = (70 : Int32))) (PP5 : ¬ (i14 < (0 : Int32))) (PP6 : ¬ ((i14 - (0 : Int32)) < (0 : Int32))) (PP7 : ¬ ((42 : Int32) < (i14 - (0 : Int32)))) (PP8 : (i14 - (0 : Int32)) < (70 : Int32)) (PP9 : ¬ ((i14 - (0 : Int32)) < (i14 - (0 : Int32)))) (PP10 : ¬ ((70 : Int32) < (i14 - (0 : Int32)))) :
    own_Met l mn29 jdk_67_method_42_code 1 (some (.object "java/lang/String")) ws (oRm 5 2 46 79) #[(.ref b2)] Z h0 (Q23a108 Z i14 h0 n0) := by
  refine own_met (own := "java/lang/StringBuilder") rfl (plainFor_of_name pn_8) ?_
  intro p e s m below meth c s₁ hx hby hml hZ hown hnm X0 e0 Br Bs
  have N0 := Fr.nil n0
  have tt := own_tt hx hby own_ok23
  show own_Ends p e below s _ _ _ s₁ (mkF m 0 #[oR b2] [])
  obtain ⟨T15, h15, X15, e15, E15, A15, D15, -, st15⟩ := newO X0 hx hZ hown (ow139 hw) (ow38 hw) (ow31 hw) e0 (g := (mkF m 0 #[oR b2] [])) rfl (hb hby d23_0) (by decide) (by decide)
  obtain ⟨b15, g_b15⟩ : ∃ z, z = h0.size := ⟨_, rfl⟩
  have sg_b15 : h0.size ≤ b15 := Nat.le_of_eq g_b15.symm
  rw [← g_b15] at A15 D15 st15
  have n_b15 := oT Z0 sg_b15
  have sz_b15 := oT (Keep.refl h0 []).1 sg_b15
  have K15 : Keep h0 h15 [] := (Keep.refl h0 []).ext E15
  have F_value_b15 : oF4 Z h15 b15 .null := D15 (Or.inr (ow39 hw)) (ty := (.array .byte)) (by decide)
  have F_coder_b15 : oF3 Z h15 b15 (.int (0 : Int32)) := D15 (Or.inr (ow40 hw)) (ty := .byte) (by decide)
  refine own_go (T' := T15) (f' := (mkF m 5 #[oR b2] [vR b2, vR b15, vR b15])) (fun _ k => st15 _ (own_e X15 tt 3 2 k rfl)) ?_
  obtain ⟨_, T16, Lc16, X16, hQ16, st16⟩ := own_out (X15.specialBack hx (y := mn28) rfl hown (mvT hZ (ow140 hw)) (mvT hZ (ow141 hw)) (mvT hZ (ow143 hw)) (by decide) (backOf (W := 1) (rm24a109 l Z a0 hw [] b15 b2 cs b13a i14 k13b us13c h15 n0 (oT Z0 E15.1) (PS0.ext E15) (PE9.ext E15) (PF10.ext E15) (PF11.ext E15) (PF12.ext E15) (PV25.ext E15) A15 F_value_b15 F_coder_b15 PP0 PP4 PP5 PP6 PP7 PP8 PP9 PP10 (oL PV25.lt sz_b15) n_b15) hZ (ow143 hw) (ow31 hw) (by decide) (by decide)) (g := (mkF m 5 #[oR b2] [vR b2, vR b15, vR b15])) rfl (by rw [hml]; rfl) (Steps.refl _) (a := b15) (argsL := [(.ref b2)]) (rest := [(.ref b15)]) (lenOf pd25 rfl) rfl (by show 2 * 0 + _ ≤ _; exact Nat.le_of_eq rfl) (hb hby d23_5) (fun _ _ => ⟨rfl, e15, (by decide : 1 + 1 ≤ _), (by decide : 4 + 42 ≤ _)⟩))
  obtain ⟨b16a, k16b, us16c, rfl, N16q, K16, n_b16a, sg_b16a, g16_0, g16_1, g16_2, g16_3, g16_4⟩ := hQ16
  have N16 := Fr.app N0 N16q
  have sz_b16a := oT K15.1 sg_b16a
  have u17 : b15 < h15.size := A15.lt
  have m18 : h0.size ≤ h15.size := (oT (Nat.le_refl _) E15.1)
  have eK16 : T16.heap = T16.heap := rfl
  have KK16 : Keep h0 T16.heap [] := Keep.trans K15 K16 (allS (Or.inr sz_b15) all0)
  obtain ⟨_, X16, N16⟩ := own_hide X16 N16
  refine own_go (T' := T16) (f' := (mkF m 8 #[oR b2] [vR b15])) (fun _ k => st16.trans k) ?_
  refine own_ret X16 (v := some (.ref b15)) (oN Br) Bs (fun fs hr => own_retA X16 hx Br rfl rfl (hb hby d23_8) hr) ?_ (by decide) (by decide)
  unfold Q23a108
  rw [eK16]
  exact ⟨b15, b16a, k16b, us16c, rfl, N16, KK16, n_b15, sz_b15, n_b16a, sz_b16a, (oM u17 sg_b16a), (A15.keep K16), g16_0, g16_1, g16_2, g16_3, g16_4⟩
theorem pd4 : parseMethodDescriptor "()Ljava/lang/String;" = some ⟨[], some (.object "java/lang/String")⟩ := by decide +kernel
def own_t32 (pc : Nat) : Option (Instr × Nat) := bif Nat.ble pc 5 then (bif Nat.ble pc 0 then (bif Nat.beq pc 0 then some (.aload_n 0, 1) else none) else (bif Nat.ble pc 4 then (bif Nat.beq pc 4 then some (.aload_n 0, 1) else none) else (bif Nat.beq pc 5 then some (.iload_n 1, 1) else none))) else (bif Nat.ble pc 10 then (bif Nat.ble pc 9 then (bif Nat.beq pc 9 then some (.aload_n 0, 1) else none) else (bif Nat.beq pc 10 then some (.lload_n 2, 1) else none)) else (bif Nat.ble pc 14 then (bif Nat.beq pc 14 then some (.aload_n 0, 1) else none) else (bif Nat.beq pc 15 then some (.aload 4, 2) else none)))
theorem own_ok32 : ∀ pc q, own_fetch 21 own_t32 pc = some q → decode prog_4_method_1_code pc = .ok q := own_tab (by decide +kernel)
theorem d32_1 : decode prog_4_method_1_code 1 = .ok (.invokespecial 3, 3) := by decide +kernel
theorem d32_6 : decode prog_4_method_1_code 6 = .ok (.putfield 9, 3) := by decide +kernel
theorem d32_11 : decode prog_4_method_1_code 11 = .ok (.putfield 15, 3) := by decide +kernel
theorem d32_17 : decode prog_4_method_1_code 17 = .ok (.putfield 19, 3) := by decide +kernel
theorem d32_20 : decode prog_4_method_1_code 20 = .ok (.return_, 1) := by decide +kernel
theorem pn_0 : plainName "com/example/tally_of_calls/tallyofcalls/Count" = true := by first | (simp [plainName, overriddenIn]; done) | decide +kernel
def Q32a113 (Z : State) (b1 : Addr) (y0 : Int32) (j3 : Int64) (b4a : Addr) (h0 : Heap) (n0 : Nat) (v : Option Value) (h : Heap) (L : List Loc) : Prop := v = none ∧ Fr n0 L ∧ Keep h0 h [b1] ∧ oF5 Z h b1 (.int y0) ∧ oF6 Z h b1 (.long j3) ∧ oF7 Z h b1 (.ref b4a)
set_option maxRecDepth 65536 in
set_option maxHeartbeats 40000000 in
theorem rm32a113 (l : Launch) (Z : State) (a0 : Array Value) (hw : HW a0 Z) (ws : List Jvm.Cond) (b1 : Addr) (y0 : Int32) (j3 : Int64) (b4a : Addr) (h0 : Heap) (n0 : Nat) (Z0 : n0 ≤ h0.size) (PE5 : Exa Z h0 b1 "com/example/tally_of_calls/tallyofcalls/Count") (PF6 : oF5 Z h0 b1 (.int (0 : Int32))) (PF7 : oF6 Z h0 b1 (.long (0 : Int64))) (PF8 : oF7 Z h0 b1 .null) (n_b1 : n0 ≤ b1) :
    own_Met l mn30 prog_4_method_1_code 5 none ws (oRm 1 0 0 12) #[(.ref b1), (.int y0), (.long j3), (.ref b4a)] Z h0 (Q32a113 Z b1 y0 j3 b4a h0 n0) := by
  refine own_met (own := "com/example/tally_of_calls/tallyofcalls/Count") rfl (plainFor_of_name pn_0) ?_
  intro p e s m below meth c s₁ hx hby hml hZ hown hnm X0 e0 Br Bs
  have N0 := Fr.nil n0
  have tt := own_tt hx hby own_ok32
  show own_Ends p e below s _ _ _ s₁ (mkF m 0 #[oR b1, .val (.int y0), .val (.long j3), oS, oR b4a] [])
  refine own_go (T' := s₁) (f' := (mkF m 1 #[oR b1, .val (.int y0), .val (.long j3), oS, oR b4a] [vR b1])) (fun _ k => own_e X0 tt 0 1 k rfl) ?_
  obtain ⟨T9, X9, e9, st9⟩ := initO X0 hx hZ hown (ow174 hw) (ow28 hw) (ow29 hw) e0 (g := (mkF m 1 #[oR b1, .val (.int y0), .val (.long j3), oS, oR b4a] [vR b1])) rfl (by rw [hml]; rfl) rfl (hb hby d32_1) (by decide) (W := 0) (by show 2 * 0 + _ ≤ _; exact Nat.le_of_eq rfl) (by decide)
  refine own_go (T' := T9) (f' := (mkF m 6 #[oR b1, .val (.int y0), .val (.long j3), oS, oR b4a] [(.int y0), vR b1])) (fun _ k => st9 _ (own_e X9 tt 4 2 k rfl)) ?_
  obtain ⟨T10, h10, X10, e10, W10, st10⟩ := putF X9 hx hZ hown (host := "") (Or.inl (ow175 hw)) Via.refl e9 PF6 PE5 (Or.inr ⟨(ow176 hw), rfl, hnm⟩) (ow13 hw) (ty := .int) (by decide) rfl rfl (g := (mkF m 6 #[oR b1, .val (.int y0), .val (.long j3), oS, oR b4a] [(.int y0), vR b1])) rfl rfl (hb hby d32_6)
  have Fw10 := Fld.same W10 PF6
  have K10 : Keep h0 h10 [b1] := (Keep.refl h0 [b1]).wr W10 (Or.inl (List.mem_of_getElem? (i := 0) rfl))
  have N10 := Fr.snoc X10 N0 n_b1
  refine own_go (T' := T10) (f' := (mkF m 11 #[oR b1, .val (.int y0), .val (.long j3), oS, oR b4a] [(.long j3), vR b1])) (fun _ k => st10 _ (own_e X10 tt 9 2 k rfl)) ?_
  obtain ⟨T11, h11, X11, e11, W11, st11⟩ := putF X10 hx hZ hown (host := "") (Or.inl (ow177 hw)) Via.refl e10 (PF7.other W10 (Or.inr (sn_178_176 hw))) (PE5.wr W10) (Or.inr ⟨(ow178 hw), rfl, hnm⟩) (ow13 hw) (ty := .long) (by decide) rfl rfl (g := (mkF m 11 #[oR b1, .val (.int y0), .val (.long j3), oS, oR b4a] [(.long j3), vR b1])) rfl rfl (hb hby d32_11)
  have Fw11 := Fld.same W11 (PF7.other W10 (Or.inr (sn_178_176 hw)))
  have K11 : Keep h0 h11 [b1] := K10.wr W11 (Or.inl (List.mem_of_getElem? (i := 0) rfl))
  have N11 := Fr.snoc X11 N10 n_b1
  refine own_go (T' := T11) (f' := (mkF m 17 #[oR b1, .val (.int y0), .val (.long j3), oS, oR b4a] [vR b4a, vR b1])) (fun _ k => st11 _ (own_e X11 tt 14 2 k rfl)) ?_
  obtain ⟨T12, h12, X12, e12, W12, st12⟩ := putF X11 hx hZ hown (host := "") (Or.inl (ow179 hw)) Via.refl e11 ((PF8.other W10 (Or.inr (sn_180_176 hw))).other W11 (Or.inr (sn_180_178 hw))) ((PE5.wr W10).wr W11) (Or.inr ⟨(ow180 hw), rfl, hnm⟩) (ow13 hw) (ty := (.object "java/lang/String")) (by decide) rfl rfl (g := (mkF m 17 #[oR b1, .val (.int y0), .val (.long j3), oS, oR b4a] [vR b4a, vR b1])) rfl rfl (hb hby d32_17)
  have Fw12 := Fld.same W12 ((PF8.other W10 (Or.inr (sn_180_176 hw))).other W11 (Or.inr (sn_180_178 hw)))
  have K12 : Keep h0 h12 [b1] := K11.wr W12 (Or.inl (List.mem_of_getElem? (i := 0) rfl))
  have N12 := Fr.snoc X12 N11 n_b1
  refine own_go (T' := T12) (f' := (mkF m 20 #[oR b1, .val (.int y0), .val (.long j3), oS, oR b4a] [])) (fun _ k => st12 _ k) ?_
  refine own_ret X12 (v := none) (fun _ => rfl) Bs (fun fs hr => X12.returnOut hx Br (hb hby d32_20) hr) ?_ (by decide) (by decide)
  unfold Q32a113
  rw [e12]
  exact ⟨rfl, N12, K12, ((Fw10.other W11 (Or.inr (sn_176_178 hw))).other W12 (Or.inr (sn_176_180 hw))), (Fw11.other W12 (Or.inr (sn_178_180 hw))), Fw12⟩
theorem pd17 : parseMethodDescriptor "(IJLjava/lang/String;)V" = some ⟨[.int, .long, (.object "java/lang/String")], none⟩ := by decide +kernel
def Q19a119 (Z : State) (b2 : Addr) (y1 : Int32) (b56a : Addr) (i3 : Int32) (k56b : ClassId) (h0 : Heap) (n0 : Nat) (v : Option Value) (h : Heap) (L : List Loc) : Prop := ∃ (us4 : List Value), v = some (.ref b2) ∧ Fr n0 L ∧ Keep h0 h [b56a, b2] ∧ Arv Z h b56a k56b .byte (34 : Int32) us4 (.int (0 : Int32)) ∧ oF0 Z h b2 (.ref b56a) ∧ oF1 Z h b2 (.int (0 : Int32)) ∧ oF2 Z h b2 (.int (i3 + (own_dg y1))) ∧ us4.length = ((34 : Int32)).toNatClampNeg
set_option maxRecDepth 65536 in
set_option maxHeartbeats 40000000 in
theorem rm19a119 (l : Launch) (Z : State) (a0 : Array Value) (hw : HW a0 Z) (ws : List Jvm.Cond) (b2 : Addr) (y1 : Int32) (cs : Int32) (wd : Addr) (kd : ClassId) (vd : List Value) (wt : Addr) (kt : ClassId) (vt : List Value) (b56a : Addr) (i6 : Int32) (k56b : ClassId) (us7a : List Value) (h0 : Heap) (n0 : Nat) (Z0 : n0 ≤ h0.size) (PS0 : Sta Z h0 "java/lang/String" "COMPACT_STRINGS" "Z" (.int cs)) (PS1 : Sta Z h0 "java/lang/Integer" "DigitOnes" "[B" (.ref wd)) (PV2 : Arv Z h0 wd kd .byte (100 : Int32) vd (.int (0 : Int32))) (PS3 : Sta Z h0 "java/lang/Integer" "DigitTens" "[B" (.ref wt)) (PV4 : Arv Z h0 wt kt .byte (100 : Int32) vt (.int (0 : Int32))) (PE9 : Exa Z h0 b2 "java/lang/StringBuilder") (PF10 : oF0 Z h0 b2 (.ref b56a)) (PF11 : oF1 Z h0 b2 (.int (0 : Int32))) (PF12 : oF2 Z h0 b2 (.int i6)) (PV19 : Arv Z h0 b56a k56b .byte (34 : Int32) us7a (.int (0 : Int32))) (PP0 : ¬ (cs = (0 : Int32))) (PP2 : ¬ (y1 < (0 : Int32))) (PP3 : ¬ ((0 : Int32) < ((i6 + (own_dg y1)) - (34 : Int32)))) (PP4 : ¬ ((i6 + (own_dg y1)) < (own_dg y1))) (PP5 : ¬ ((34 : Int32) < (i6 + (own_dg y1)))) (ne_b56a_wd : b56a ≠ wd) (ne_b56a_wt : b56a ≠ wt) (ne_b2_b56a : b2 ≠ b56a) (ne_b56a_b2 : b56a ≠ b2) (n_b2 : n0 ≤ b2) (n_b56a : n0 ≤ b56a) (pr_st_vd : own_SameSt Z) :
    own_Met l mn19 jdk_68_method_32_code 4 (some (.object "java/lang/AbstractStringBuilder")) ws (oRm 2 0 0 78) #[(.ref b2), (.int y1)] Z h0 (Q19a119 Z b2 y1 b56a i6 k56b h0 n0) := by
  refine own_met (own := "java/lang/AbstractStringBuilder") rfl (plainFor_of_name pn_3) ?_
  intro p e s m below meth c s₁ hx hby hml hZ hown hnm X0 e0 Br Bs
  have N0 := Fr.nil n0
  have tt := own_tt hx hby own_ok19
  show own_Ends p e below s _ _ _ s₁ (mkF m 0 #[oR b2, .val (.int y1), oU, oU] [])
  refine own_go (T' := s₁) (f' := (mkF m 1 #[oR b2, .val (.int y1), oU, oU] [vR b2])) (fun _ k => own_e X0 tt 0 1 k rfl) ?_
  obtain ⟨T8, X8, e8, st8⟩ := getF X0 hx hZ hown (host := "") (Or.inl (ow66 hw)) Via.refl e0 PF12 (g := (mkF m 1 #[oR b2, .val (.int y1), oU, oU] [vR b2])) rfl rfl (hb hby d19_1)
  refine own_go (T' := T8) (f' := (mkF m 7 #[oR b2, .val (.int y1), .val (.int i6), oU] [(.int y1), (.int i6)])) (fun _ k => st8 _ (own_e X8 tt 4 3 k rfl)) ?_
  obtain ⟨_, T13, Lc13, X13, hQ13, st13⟩ := own_outC (Jvm.LawKit.callS X8 hx (y := mn3) hown (mvT hZ (ow120 hw)) (mvT hZ (ow121 hw)) (mvT hZ (ow122 hw)) (mvT hZ (ow123 hw)) (by decide) (backOf (W := 1) (rm20 l Z a0 hw [] y1 h0 n0 Z0 PP2) hZ (ow123 hw) (ow122 hw) (by decide) (by decide)) (g := (mkF m 7 #[oR b2, .val (.int y1), .val (.int i6), oU] [(.int y1), (.int i6)])) rfl (by rw [hml]; rfl) (argsL := [(.int y1)]) (rest := [(.int i6)]) (lenOf pd8 rfl) rfl (by show 2 * 0 + _ ≤ _; exact Nat.le_of_eq rfl) (hb hby d19_7) (fun _ _ => ⟨rfl, e8, (by decide : 0 + 0 ≤ _), (by decide : 0 + 0 ≤ _)⟩))
  obtain ⟨rfl, N13q, hh13⟩ := hQ13
  have N13 := Fr.app N0 N13q
  obtain ⟨_, X13, N13⟩ := own_hide X13 N13
  refine own_go (T' := T13) (f' := (mkF m 14 #[oR b2, .val (.int y1), .val (.int i6), .val (.int (i6 + (own_dg y1)))] [(.int (i6 + (own_dg y1))), vR b2])) (fun _ k => st13 _ (own_e X13 tt 10 4 k rfl)) ?_
  obtain ⟨cq14, q14, q14'⟩ := PE9.cell
  obtain ⟨_, T14, Lc14, X14, hQ14, st14⟩ := own_out (X13.privateBack hx (y := mn11) hown (mvT hZ (ow68 hw)) (mvT hZ (ow69 hw)) (own_selp (mvT hZ (ow71 hw)) (Cond.privateMethod_at (mvP hZ (ow70 hw) (args := #[]))) (mvT hZ (ow69 hw)) (by decide)) (Cond.privateMethod_at (mvP hZ (ow70 hw) (args := #[]))) (mvT hZ (ow72 hw)) (by decide) (backOf (W := 0) (rm11a33 l Z a0 hw [] b2 (i6 + (own_dg y1)) b56a k56b us7a h0 n0 Z0 PF10 PF11 PV19 PP3) hZ (ow72 hw) (ow25 hw) (by decide) (by decide)) (g := (mkF m 14 #[oR b2, .val (.int y1), .val (.int i6), .val (.int (i6 + (own_dg y1)))] [(.int (i6 + (own_dg y1))), vR b2])) rfl (by rw [hml]; rfl) (Steps.refl _) (a := b2) (by rw [hh13]; exact q14) q14' (argsL := [(.int (i6 + (own_dg y1)))]) (rest := []) (lenOf pd11 rfl) rfl (by show 2 * 0 + _ ≤ _; exact Nat.le_of_eq rfl) (hb hby d19_14) (fun _ _ => ⟨rfl, hh13, (by decide : 0 + 0 ≤ _), (by decide : 0 + 0 ≤ _)⟩))
  obtain ⟨rfl, N14q, hh14⟩ := hQ14
  have N14 := Fr.app N13 N14q
  obtain ⟨_, X14, N14⟩ := own_hide X14 N14
  refine own_go (T' := T14) (f' := (mkF m 18 #[oR b2, .val (.int y1), .val (.int i6), .val (.int (i6 + (own_dg y1)))] [vR b2])) (fun _ k => st14.trans (own_e X14 tt 17 1 k rfl)) ?_
  obtain ⟨cq15, kq15, q15a, q15b, q15c⟩ := isOf hZ hh14 PE9
  obtain ⟨_, T15, Lc15, X15, hQ15, st15⟩ := own_out (X14.virtualBack hx (y := mn17) (z := mn17) hown (mvT hZ (ow124 hw)) (mvT hZ (ow125 hw)) (notFace_of_selects (args := #[]) (mvT hZ (ow127 hw))) (mvT hZ (ow127 hw)) (mvT hZ (ow126 hw)) (by decide) (backOf (W := 0) (rm21a22 l Z a0 hw [] b2 cs h0 n0 Z0 PS0 PF11 PP0) hZ (ow128 hw) (ow25 hw) (by decide) (by decide)) q15a q15c (g := (mkF m 18 #[oR b2, .val (.int y1), .val (.int i6), .val (.int (i6 + (own_dg y1)))] [vR b2])) rfl (by rw [hml]; rfl) (Steps.refl _) (argsL := []) (rest := []) (lenOf pd6 rfl) rfl (by show 2 * 0 + _ ≤ _; exact Nat.le_of_eq rfl) (hb hby d19_18) (fun _ _ => ⟨rfl, hh14, (by decide : 0 + 0 ≤ _), (by decide : 0 + 0 ≤ _)⟩))
  obtain ⟨rfl, N15q, hh15⟩ := hQ15
  have N15 := Fr.app N14 N15q
  obtain ⟨_, X15, N15⟩ := own_hide X15 N15
  refine own_go (T' := T15) (f' := (mkF m 27 #[oR b2, .val (.int y1), .val (.int i6), .val (.int (i6 + (own_dg y1)))] [vR b2, (.int (i6 + (own_dg y1))), (.int y1)])) (fun _ k => st15.trans (own_e X15 tt 21 4 k rfl)) ?_
  obtain ⟨T16, X16, e16, st16⟩ := getF X15 hx hZ hown (host := "") (Or.inl (ow33 hw)) Via.refl hh15 PF10 (g := (mkF m 27 #[oR b2, .val (.int y1), .val (.int i6), .val (.int (i6 + (own_dg y1)))] [vR b2, (.int (i6 + (own_dg y1))), (.int y1)])) rfl rfl (hb hby d19_27)
  refine own_go (T' := T16) (f' := (mkF m 30 #[oR b2, .val (.int y1), .val (.int i6), .val (.int (i6 + (own_dg y1)))] [vR b56a, (.int (i6 + (own_dg y1))), (.int y1)])) (fun _ k => st16 _ k) ?_
  obtain ⟨_, T17, Lc17, X17, hQ17, st17⟩ := own_outC (Jvm.LawKit.callS X16 hx (y := mn18) hown (mvT hZ (ow129 hw)) (mvT hZ (ow130 hw)) (mvT hZ (ow122 hw)) (mvT hZ (ow131 hw)) (by decide) (own_gcBack hZ hw (W := 0) (n0 := n0) PV19 PS1 PV2 PS3 PV4 ne_b56a_wd ne_b56a_wt pr_st_vd PP2 PP4 PP5 n_b56a (by decide) (by decide)) (g := (mkF m 30 #[oR b2, .val (.int y1), .val (.int i6), .val (.int (i6 + (own_dg y1)))] [vR b56a, (.int (i6 + (own_dg y1))), (.int y1)])) rfl (by rw [hml]; rfl) (argsL := [(.int y1), (.int (i6 + (own_dg y1))), (.ref b56a)]) (rest := []) (lenOf pd16 rfl) rfl (by show 2 * 0 + _ ≤ _; exact Nat.le_of_eq rfl) (hb hby d19_30) (fun _ _ => ⟨rfl, e16, (by decide : 0 + 0 ≤ _), (by decide : 0 + 0 ≤ _)⟩))
  obtain ⟨r17, us17, rfl, N17q, K17, hl17, V17⟩ := hQ17
  have N17 := Fr.app N15 N17q
  have eK17 : T17.heap = T17.heap := rfl
  have KK17 : Keep h0 T17.heap [b56a, b2] := Keep.trans (Keep.refl h0 [b56a, b2]) K17 (allS (Or.inl (List.mem_of_getElem? (i := 0) rfl)) all0)
  obtain ⟨_, X17, N17⟩ := own_hide X17 N17
  refine own_go (T' := T17) (f' := (mkF m 50 #[oR b2, .val (.int y1), .val (.int i6), .val (.int (i6 + (own_dg y1)))] [(.int (i6 + (own_dg y1))), vR b2])) (fun _ k => st17 _ (own_e X17 tt 33 4 k rfl)) ?_
  obtain ⟨T18, h18, X18, e18, W18, st18⟩ := putF X17 hx hZ hown (host := "") (Or.inl (ow66 hw)) Via.refl eK17 (PF12.keep K17 (ninS ne_b2_b56a nin0)) (PE9.keep K17) (Or.inl (ow67 hw)) (ow16 hw) (ty := .int) (by decide) rfl rfl (g := (mkF m 50 #[oR b2, .val (.int y1), .val (.int i6), .val (.int (i6 + (own_dg y1)))] [(.int (i6 + (own_dg y1))), vR b2])) rfl rfl (hb hby d19_50)
  have Fw18 := Fld.same W18 (PF12.keep K17 (ninS ne_b2_b56a nin0))
  have K18 : Keep h0 h18 [b56a, b2] := KK17.wr W18 (Or.inl (List.mem_of_getElem? (i := 1) rfl))
  have N18 := Fr.snoc X18 N17 n_b2
  refine own_go (T' := T18) (f' := (mkF m 54 #[oR b2, .val (.int y1), .val (.int i6), .val (.int (i6 + (own_dg y1)))] [vR b2])) (fun _ k => st18 _ (own_e X18 tt 53 1 k rfl)) ?_
  refine own_ret X18 (v := some (.ref b2)) (oN Br) Bs (fun fs hr => own_retA X18 hx Br rfl rfl (hb hby d19_54) hr) ?_ (by decide) (by decide)
  unfold Q19a119
  rw [e18]
  exact ⟨us17, rfl, N18, K18, (V17.other W18 ne_b56a_b2), ((PF10.keep K17 (ninS ne_b2_b56a nin0)).other W18 (Or.inr (sn_34_67 hw))), ((PF11.keep K17 (ninS ne_b2_b56a nin0)).other W18 (Or.inr (sn_36_67 hw))), Fw18, hl17⟩
def Q18a118 (Z : State) (b2 : Addr) (y1 : Int32) (b56a : Addr) (i3 : Int32) (k56b : ClassId) (h0 : Heap) (n0 : Nat) (v : Option Value) (h : Heap) (L : List Loc) : Prop := ∃ (us4a : List Value), v = some (.ref b2) ∧ Fr n0 L ∧ Keep h0 h [b2, b56a] ∧ oF0 Z h b2 (.ref b56a) ∧ oF1 Z h b2 (.int (0 : Int32)) ∧ oF2 Z h b2 (.int (i3 + (own_dg y1))) ∧ Arv Z h b56a k56b .byte (34 : Int32) us4a (.int (0 : Int32)) ∧ us4a.length = ((34 : Int32)).toNatClampNeg
set_option maxRecDepth 65536 in
set_option maxHeartbeats 40000000 in
theorem rm18a118 (l : Launch) (Z : State) (a0 : Array Value) (hw : HW a0 Z) (ws : List Jvm.Cond) (b2 : Addr) (y1 : Int32) (cs : Int32) (wd : Addr) (kd : ClassId) (vd : List Value) (wt : Addr) (kt : ClassId) (vt : List Value) (b56a : Addr) (i6 : Int32) (k56b : ClassId) (us7a : List Value) (h0 : Heap) (n0 : Nat) (Z0 : n0 ≤ h0.size) (PS0 : Sta Z h0 "java/lang/String" "COMPACT_STRINGS" "Z" (.int cs)) (PS1 : Sta Z h0 "java/lang/Integer" "DigitOnes" "[B" (.ref wd)) (PV2 : Arv Z h0 wd kd .byte (100 : Int32) vd (.int (0 : Int32))) (PS3 : Sta Z h0 "java/lang/Integer" "DigitTens" "[B" (.ref wt)) (PV4 : Arv Z h0 wt kt .byte (100 : Int32) vt (.int (0 : Int32))) (PE9 : Exa Z h0 b2 "java/lang/StringBuilder") (PF10 : oF0 Z h0 b2 (.ref b56a)) (PF11 : oF1 Z h0 b2 (.int (0 : Int32))) (PF12 : oF2 Z h0 b2 (.int i6)) (PV19 : Arv Z h0 b56a k56b .byte (34 : Int32) us7a (.int (0 : Int32))) (PP0 : ¬ (cs = (0 : Int32))) (PP2 : ¬ (y1 < (0 : Int32))) (PP3 : ¬ ((0 : Int32) < ((i6 + (own_dg y1)) - (34 : Int32)))) (PP4 : ¬ ((i6 + (own_dg y1)) < (own_dg y1))) (PP5 : ¬ ((34 : Int32) < (i6 + (own_dg y1)))) (ne_b56a_wd : b56a ≠ wd) (ne_b56a_wt : b56a ≠ wt) (ne_b2_b56a : b2 ≠ b56a) (ne_b56a_b2 : b56a ≠ b2) (n_b2 : n0 ≤ b2) (n_b56a : n0 ≤ b56a) (pr_st_vd : own_SameSt Z) :
    own_Met l mn20 jdk_67_method_15_code 2 (some (.object "java/lang/StringBuilder")) ws (oRm 3 0 0 93) #[(.ref b2), (.int y1)] Z h0 (Q18a118 Z b2 y1 b56a i6 k56b h0 n0) := by
  refine own_met (own := "java/lang/StringBuilder") rfl (plainFor_of_name pn_8) ?_
  intro p e s m below meth c s₁ hx hby hml hZ hown hnm X0 e0 Br Bs
  have N0 := Fr.nil n0
  have tt := own_tt hx hby own_ok18
  show own_Ends p e below s _ _ _ s₁ (mkF m 0 #[oR b2, .val (.int y1)] [])
  refine own_go (T' := s₁) (f' := (mkF m 2 #[oR b2, .val (.int y1)] [(.int y1), vR b2])) (fun _ k => own_e X0 tt 0 2 k rfl) ?_
  obtain ⟨_, T8, Lc8, X8, hQ8, st8⟩ := own_out (superBack X0 hx hZ (y := mn19) hown (ow116 hw) (own_same (y := mn19) (y2 := mn11) (ow71 hw) rfl (ow117 hw) (by decide)) (ow117 hw) (ow50 hw) (by decide) (backOf (W := 0) (rm19a119 l Z a0 hw [] b2 y1 cs wd kd vd wt kt vt b56a i6 k56b us7a h0 n0 Z0 PS0 PS1 PV2 PS3 PV4 PE9 PF10 PF11 PF12 PV19 PP0 PP2 PP3 PP4 PP5 ne_b56a_wd ne_b56a_wt ne_b2_b56a ne_b56a_b2 n_b2 n_b56a pr_st_vd) hZ (ow119 hw) (ow25 hw) (by decide) (by decide)) e0 (Ins.self PE9) (g := (mkF m 2 #[oR b2, .val (.int y1)] [(.int y1), vR b2])) rfl (by rw [hml]; rfl) (ow119 hw) (argsL := [(.int y1)]) (rest := []) (lenOf pd9 rfl) rfl (by show 2 * 0 + _ ≤ _; exact Nat.le_of_eq rfl) (hb hby d18_2) (fun _ _ => ⟨rfl, e0, (by decide : 0 + 0 ≤ _), (by decide : 0 + 0 ≤ _)⟩))
  obtain ⟨us8a, rfl, N8q, K8, g8_0, g8_1, g8_2, g8_3, g8_4⟩ := hQ8
  have N8 := Fr.app N0 N8q
  have eK8 : T8.heap = T8.heap := rfl
  have KK8 : Keep h0 T8.heap [b2, b56a] := Keep.trans (Keep.refl h0 [b2, b56a]) K8 (allS (Or.inl (List.mem_of_getElem? (i := 1) rfl)) (allS (Or.inl (List.mem_of_getElem? (i := 0) rfl)) all0))
  obtain ⟨_, X8, N8⟩ := own_hide X8 N8
  refine own_go (T' := T8) (f' := (mkF m 7 #[oR b2, .val (.int y1)] [vR b2])) (fun _ k => st8.trans (own_e X8 tt 5 2 k rfl)) ?_
  refine own_ret X8 (v := some (.ref b2)) (oN Br) Bs (fun fs hr => own_retA X8 hx Br rfl rfl (hb hby d18_7) hr) ?_ (by decide) (by decide)
  unfold Q18a118
  rw [eK8]
  exact ⟨us8a, rfl, N8, KK8, g8_1, g8_2, g8_3, g8_0, g8_4⟩
theorem d29_18 : decode jdk_65_method_132_code 18 = .ok (.invokevirtual 310, 3) := by decide +kernel
theorem d29_21 : decode jdk_65_method_132_code 21 = .ok (.checkcast 311, 3) := by decide +kernel
theorem d29_24 : decode jdk_65_method_132_code 24 = .ok (.areturn, 1) := by decide +kernel
def Q29a127 (Z : State) (k56b : ClassId) (us3a : List Value) (h0 : Heap) (n0 : Nat) (v : Option Value) (h : Heap) (L : List Loc) : Prop := ∃ (b4 : Addr), v = some (.ref b4) ∧ Fr n0 L ∧ Keep h0 h [] ∧ n0 ≤ b4 ∧ h0.size ≤ b4 ∧ Arv Z h b4 k56b .byte (34 : Int32) us3a (.int (0 : Int32)) ∧ Exa Z h b4 "[B"
set_option maxRecDepth 65536 in
set_option maxHeartbeats 40000000 in
theorem rm29a127 (l : Launch) (Z : State) (a0 : Array Value) (hw : HW a0 Z) (ws : List Jvm.Cond) (b56a : Addr) (i4 : Int32) (k56b : ClassId) (us5a : List Value) (h0 : Heap) (n0 : Nat) (Z0 : n0 ≤ h0.size) (PV19 : Arv Z h0 b56a k56b .byte (34 : Int32) us5a (.int (0 : Int32))) (PE20 : Exa Z h0 b56a "[B") (PP3 : i4 = (34 : Int32)) :
    own_Met l mn26 jdk_65_method_132_code 3 (some (.array .byte)) ws (oRm 1 1 34 14) #[(.ref b56a), (.int (0 : Int32)), (.int i4)] Z h0 (Q29a127 Z k56b us5a h0 n0) := by
  refine own_met (own := "java/util/Arrays") rfl (plainFor_of_name pn_11) ?_
  intro p e s m below meth c s₁ hx hby hml hZ hown hnm X0 e0 Br Bs
  have N0 := Fr.nil n0
  have tt := own_tt hx hby own_ok29
  show own_Ends p e below s _ _ _ s₁ (mkF m 0 #[oR b56a, oI 0, .val (.int i4)] [])
  refine own_go (T' := s₁) (f' := (mkF m 6 #[oR b56a, oI 0, .val (.int i4)] [vR b56a, (.int i4)])) (fun _ k => own_e X0 tt 0 4 k rfl) ?_
  refine own_go (T' := s₁) (f' := (mkF m 18 #[oR b56a, oI 0, .val (.int i4)] [vR b56a])) (fun _ k => own_alen X0 hx hZ e0 PV19 rfl rfl (hb hby d29_6) (XS.icmpYes X0.here hx rfl (pc0 := 7) (pc' := 17) rfl (hb hby d29_7) rfl (teq PP3).1 (by decide) (by decide) (own_e X0 tt 17 1 k rfl))) ?_
  obtain ⟨T6, h6, X6, e6, E6, A6, EA6, st6⟩ := cloneH X0 hx hZ hown (ow230 hw) (ow231 hw) (ow235 hw) (ow233 hw) (ow234 hw) (ow236 hw) e0 (hs := []) PV19 PE20 (g := (mkF m 18 #[oR b56a, oI 0, .val (.int i4)] [vR b56a])) rfl (by rw [hml]; rfl) rfl (hb hby d29_18) (by decide) (W := 0) (cap := 34) (by show 2 * 0 + _ ≤ _; exact Nat.le_of_eq rfl) (by decide) (by decide) (by decide) (by decide)
  obtain ⟨b6, g_b6⟩ : ∃ z, z = h0.size := ⟨_, rfl⟩
  have sg_b6 : h0.size ≤ b6 := Nat.le_of_eq g_b6.symm
  rw [← g_b6] at A6 EA6 st6
  have n_b6 := oT Z0 sg_b6
  have sz_b6 := oT (Keep.refl h0 []).1 sg_b6
  have K6 : Keep h0 h6 [] := (Keep.refl h0 []).ext E6
  have V_b6 : Arv Z h6 b6 k56b .byte (34 : Int32) us5a (.int (0 : Int32)) := A6
  refine own_go (T' := T6) (f' := (mkF m 21 #[oR b56a, oI 0, .val (.int i4)] [vR b6])) (fun _ k => st6 _ k) ?_
  obtain ⟨T7, X7, e7, st7⟩ := castY X6 hx hZ hown (ow237 hw) e6 (Ins.self EA6) (g := (mkF m 21 #[oR b56a, oI 0, .val (.int i4)] [vR b6])) rfl rfl (hb hby d29_21)
  refine own_go (T' := T7) (f' := (mkF m 24 #[oR b56a, oI 0, .val (.int i4)] [vR b6])) (fun _ k => st7 _ k) ?_
  refine own_ret X7 (v := some (.ref b6)) (oN Br) Bs (fun fs hr => own_retA X7 hx Br rfl rfl (hb hby d29_24) hr) ?_ (by decide) (by decide)
  unfold Q29a127
  rw [e7]
  exact ⟨b6, rfl, N0, K6, n_b6, sz_b6, V_b6, EA6⟩
def Q25a126 (Z : State) (b3 : Addr) (k56b : ClassId) (us4a : List Value) (h0 : Heap) (n0 : Nat) (v : Option Value) (h : Heap) (L : List Loc) : Prop := ∃ (b5a : Addr), v = none ∧ Fr n0 L ∧ Keep h0 h [b3] ∧ n0 ≤ b5a ∧ h0.size ≤ b5a ∧ oF4 Z h b3 (.ref b5a) ∧ oF3 Z h b3 (.int (0 : Int32)) ∧ Arv Z h b5a k56b .byte (34 : Int32) us4a (.int (0 : Int32)) ∧ Exa Z h b5a "[B"
set_option maxRecDepth 65536 in
set_option maxHeartbeats 40000000 in
theorem rm25a126 (l : Launch) (Z : State) (a0 : Array Value) (hw : HW a0 Z) (ws : List Jvm.Cond) (b4 : Addr) (b2 : Addr) (cs : Int32) (b56a : Addr) (i5 : Int32) (k56b : ClassId) (us6a : List Value) (h0 : Heap) (n0 : Nat) (Z0 : n0 ≤ h0.size) (PS0 : Sta Z h0 "java/lang/String" "COMPACT_STRINGS" "Z" (.int cs)) (PE9 : Exa Z h0 b2 "java/lang/StringBuilder") (PF10 : oF0 Z h0 b2 (.ref b56a)) (PF11 : oF1 Z h0 b2 (.int (0 : Int32))) (PF12 : oF2 Z h0 b2 (.int i5)) (PV19 : Arv Z h0 b56a k56b .byte (34 : Int32) us6a (.int (0 : Int32))) (PE20 : Exa Z h0 b56a "[B") (PE25 : Exa Z h0 b4 "java/lang/String") (PF26 : oF4 Z h0 b4 .null) (PF27 : oF3 Z h0 b4 (.int (0 : Int32))) (PP0 : ¬ (cs = (0 : Int32))) (PP3 : i5 = (34 : Int32)) (ne_b56a_b4 : b56a ≠ b4) (n_b4 : n0 ≤ b4) :
    own_Met l mn27 jdk_42_method_150_code 5 none ws (oRm 2 1 34 29) #[(.ref b4), (.ref b2), .null] Z h0 (Q25a126 Z b4 k56b us6a h0 n0) := by
  refine own_met (own := "java/lang/String") rfl (plainFor_of_name pn_7) ?_
  intro p e s m below meth c s₁ hx hby hml hZ hown hnm X0 e0 Br Bs
  have N0 := Fr.nil n0
  have tt := own_tt hx hby own_ok25
  show own_Ends p e below s _ _ _ s₁ (mkF m 0 #[oR b4, oR b2, .val .null, oU, oU] [])
  refine own_go (T' := s₁) (f' := (mkF m 1 #[oR b4, oR b2, .val .null, oU, oU] [vR b4])) (fun _ k => own_e X0 tt 0 1 k rfl) ?_
  obtain ⟨T7, X7, e7, st7⟩ := initO X0 hx hZ hown (ow147 hw) (ow28 hw) (ow29 hw) e0 (g := (mkF m 1 #[oR b4, oR b2, .val .null, oU, oU] [vR b4])) rfl (by rw [hml]; rfl) rfl (hb hby d25_1) (by decide) (W := 0) (by show 2 * 0 + _ ≤ _; exact Nat.le_of_eq rfl) (by decide)
  refine own_go (T' := T7) (f' := (mkF m 5 #[oR b4, oR b2, .val .null, oU, oU] [vR b2])) (fun _ k => st7 _ (own_e X7 tt 4 1 k rfl)) ?_
  obtain ⟨cq8, kq8, q8a, q8b, q8c⟩ := isOf hZ e7 PE9
  obtain ⟨_, T8, Lc8, X8, hQ8, st8⟩ := own_out (X7.virtualBack hx (y := mn21) (z := mn21) hown (mvT hZ (ow148 hw)) (mvT hZ (ow149 hw)) (notFace_of_selects (args := #[]) (mvT hZ (ow151 hw))) (mvT hZ (ow151 hw)) (mvT hZ (ow150 hw)) (by decide) (backOf (W := 0) (rm26a70 l Z a0 hw [] b2 b56a h0 n0 Z0 PF10) hZ (ow152 hw) (ow25 hw) (by decide) (by decide)) q8a q8c (g := (mkF m 5 #[oR b4, oR b2, .val .null, oU, oU] [vR b2])) rfl (by rw [hml]; rfl) (Steps.refl _) (argsL := []) (rest := []) (lenOf pd7 rfl) rfl (by show 2 * 0 + _ ≤ _; exact Nat.le_of_eq rfl) (hb hby d25_5) (fun _ _ => ⟨rfl, e7, (by decide : 0 + 0 ≤ _), (by decide : 0 + 0 ≤ _)⟩))
  obtain ⟨rfl, N8q, hh8⟩ := hQ8
  have N8 := Fr.app N0 N8q
  obtain ⟨_, X8, N8⟩ := own_hide X8 N8
  refine own_go (T' := T8) (f' := (mkF m 10 #[oR b4, oR b2, .val .null, oR b56a, oU] [vR b2])) (fun _ k => st8.trans (own_e X8 tt 8 2 k rfl)) ?_
  obtain ⟨cq13, kq13, q13a, q13b, q13c⟩ := isOf hZ hh8 PE9
  obtain ⟨_, T13, Lc13, X13, hQ13, st13⟩ := own_out (X8.virtualBack hx (y := mn22) (z := mn23) hown (mvT hZ (ow153 hw)) (mvT hZ (ow154 hw)) (own_nf (args := #[]) (y2 := mn11) (mvT hZ (ow71 hw)) rfl) (mvT hZ (ow156 hw)) (mvT hZ (ow157 hw)) (by decide) (backOf (W := 0) (rm27a71 l Z a0 hw [] b2 i5 h0 n0 Z0 PE9 PF12) hZ (ow158 hw) (ow17 hw) (by decide) (by decide)) q13a q13c (g := (mkF m 10 #[oR b4, oR b2, .val .null, oR b56a, oU] [vR b2])) rfl (by rw [hml]; rfl) (Steps.refl _) (argsL := []) (rest := []) (lenOf pd1 rfl) rfl (by show 2 * 0 + _ ≤ _; exact Nat.le_of_eq rfl) (hb hby d25_10) (fun _ _ => ⟨rfl, hh8, (by decide : 0 + 0 ≤ _), (by decide : 0 + 0 ≤ _)⟩))
  obtain ⟨rfl, N13q, hh13⟩ := hQ13
  have N13 := Fr.app N8 N13q
  obtain ⟨_, X13, N13⟩ := own_hide X13 N13
  refine own_go (T' := T13) (f' := (mkF m 16 #[oR b4, oR b2, .val .null, oR b56a, .val (.int i5)] [vR b2])) (fun _ k => st13.trans (own_e X13 tt 13 2 k rfl)) ?_
  obtain ⟨cq14, kq14, q14a, q14b, q14c⟩ := isOf hZ hh13 PE9
  obtain ⟨_, T14, Lc14, X14, hQ14, st14⟩ := own_out (X13.virtualBack hx (y := mn17) (z := mn17) hown (mvT hZ (ow161 hw)) (mvT hZ (ow125 hw)) (notFace_of_selects (args := #[]) (mvT hZ (ow127 hw))) (mvT hZ (ow127 hw)) (mvT hZ (ow126 hw)) (by decide) (backOf (W := 0) (rm21a22 l Z a0 hw [] b2 cs h0 n0 Z0 PS0 PF11 PP0) hZ (ow128 hw) (ow25 hw) (by decide) (by decide)) q14a q14c (g := (mkF m 16 #[oR b4, oR b2, .val .null, oR b56a, .val (.int i5)] [vR b2])) rfl (by rw [hml]; rfl) (Steps.refl _) (argsL := []) (rest := []) (lenOf pd6 rfl) rfl (by show 2 * 0 + _ ≤ _; exact Nat.le_of_eq rfl) (hb hby d25_16) (fun _ _ => ⟨rfl, hh13, (by decide : 0 + 0 ≤ _), (by decide : 0 + 0 ≤ _)⟩))
  obtain ⟨rfl, N14q, hh14⟩ := hQ14
  have N14 := Fr.app N13 N14q
  obtain ⟨_, X14, N14⟩ := own_hide X14 N14
  refine own_go (T' := T14) (f' := (mkF m 24 #[oR b4, oR b2, .val .null, oR b56a, .val (.int i5)] [vI 0, vR b4])) (fun _ k => st14.trans (own_e X14 tt 19 3 k rfl)) ?_
  obtain ⟨T15, h15, X15, e15, W15, st15⟩ := putFN X14 hx hZ hown (ow65 hw) Via.refl hh14 PF27 PE25 (Or.inr ⟨(ow40 hw), rfl, hnm⟩) (ow38 hw) (ty := .byte) (v' := (.int (0 : Int32))) (by decide) rfl (fits_nar_byte (0 : Int32)) (g := (mkF m 24 #[oR b4, oR b2, .val .null, oR b56a, .val (.int i5)] [vI 0, vR b4])) rfl rfl (hb hby d25_24)
  have Fw15 := Fld.same W15 PF27
  have K15 : Keep h0 h15 [b4] := (Keep.refl h0 [b4]).wr W15 (Or.inl (List.mem_of_getElem? (i := 0) rfl))
  have N15 := Fr.snoc X15 N14 n_b4
  refine own_go (T' := T15) (f' := (mkF m 32 #[oR b4, oR b2, .val .null, oR b56a, .val (.int i5)] [(.int i5), vI 0, vR b56a, vR b4])) (fun _ k => st15 _ (own_e X15 tt 27 4 k rfl)) ?_
  obtain ⟨_, T16, Lc16, X16, hQ16, st16⟩ := own_outC (Jvm.LawKit.callS X15 hx (y := mn26) hown (mvT hZ (ow162 hw)) (mvT hZ (ow163 hw)) (mvT hZ (ow87 hw)) (mvT hZ (ow164 hw)) (by decide) (backOf (W := 1) (rm29a127 l Z a0 hw [] b56a i5 k56b us6a h15 n0 (oT Z0 (Keep.of_wr W15).1) (PV19.other W15 ne_b56a_b4) (PE20.wr W15) PP3) hZ (ow164 hw) (ow87 hw) (by decide) (by decide)) (g := (mkF m 32 #[oR b4, oR b2, .val .null, oR b56a, .val (.int i5)] [(.int i5), vI 0, vR b56a, vR b4])) rfl (by rw [hml]; rfl) (argsL := [(.ref b56a), (.int (0 : Int32)), (.int i5)]) (rest := [(.ref b4)]) (lenOf pd29 rfl) rfl (by show 2 * 0 + _ ≤ _; exact Nat.le_of_eq rfl) (hb hby d25_32) (fun _ _ => ⟨rfl, e15, (by decide : 0 + 1 ≤ _), (by decide : 0 + 34 ≤ _)⟩))
  obtain ⟨b16a, rfl, N16q, K16, n_b16a, sg_b16a, g16_0, g16_1⟩ := hQ16
  have N16 := Fr.app N15 N16q
  have sz_b16a := oT K15.1 sg_b16a
  have eK16 : T16.heap = T16.heap := rfl
  have KK16 : Keep h0 T16.heap [b4] := Keep.trans K15 K16 all0
  obtain ⟨_, X16, N16⟩ := own_hide X16 N16
  refine own_go (T' := T16) (f' := (mkF m 35 #[oR b4, oR b2, .val .null, oR b56a, .val (.int i5)] [vR b16a, vR b4])) (fun _ k => st16 _ k) ?_
  obtain ⟨T17, h17, X17, e17, W17, st17⟩ := putF X16 hx hZ hown (host := "") (Or.inl (ow58 hw)) Via.refl eK16 ((PF26.other W15 (Or.inr (sn_39_40 hw))).keep K16 nin0) ((PE25.wr W15).keep K16) (Or.inr ⟨(ow39 hw), rfl, hnm⟩) (ow38 hw) (ty := (.array .byte)) (by decide) rfl rfl (g := (mkF m 35 #[oR b4, oR b2, .val .null, oR b56a, .val (.int i5)] [vR b16a, vR b4])) rfl rfl (hb hby d25_35)
  have Fw17 := Fld.same W17 ((PF26.other W15 (Or.inr (sn_39_40 hw))).keep K16 nin0)
  have K17 : Keep h0 h17 [b4] := KK16.wr W17 (Or.inl (List.mem_of_getElem? (i := 0) rfl))
  have N17 := Fr.snoc X17 N16 n_b4
  refine own_go (T' := T17) (f' := (mkF m 97 #[oR b4, oR b2, .val .null, oR b56a, .val (.int i5)] [])) (fun _ k => st17 _ (own_e X17 tt 38 1 k rfl)) ?_
  refine own_ret X17 (v := none) (fun _ => rfl) Bs (fun fs hr => X17.returnOut hx Br (hb hby d25_97) hr) ?_ (by decide) (by decide)
  unfold Q25a126
  rw [e17]
  exact ⟨b16a, rfl, N17, K17, n_b16a, sz_b16a, Fw17, ((Fw15.keep K16 nin0).other W17 (Or.inr (sn_40_39 hw))), (g16_0.other W17 (oM PE25.lt sz_b16a)), (g16_1.wr W17)⟩
def Q24a125 (Z : State) (b3 : Addr) (k56b : ClassId) (us4a : List Value) (h0 : Heap) (n0 : Nat) (v : Option Value) (h : Heap) (L : List Loc) : Prop := ∃ (b5a : Addr), v = none ∧ Fr n0 L ∧ Keep h0 h [b3] ∧ n0 ≤ b5a ∧ h0.size ≤ b5a ∧ oF4 Z h b3 (.ref b5a) ∧ oF3 Z h b3 (.int (0 : Int32)) ∧ Arv Z h b5a k56b .byte (34 : Int32) us4a (.int (0 : Int32)) ∧ Exa Z h b5a "[B"
set_option maxRecDepth 65536 in
set_option maxHeartbeats 40000000 in
theorem rm24a125 (l : Launch) (Z : State) (a0 : Array Value) (hw : HW a0 Z) (ws : List Jvm.Cond) (b4 : Addr) (b2 : Addr) (cs : Int32) (b56a : Addr) (i5 : Int32) (k56b : ClassId) (us6a : List Value) (h0 : Heap) (n0 : Nat) (Z0 : n0 ≤ h0.size) (PS0 : Sta Z h0 "java/lang/String" "COMPACT_STRINGS" "Z" (.int cs)) (PE9 : Exa Z h0 b2 "java/lang/StringBuilder") (PF10 : oF0 Z h0 b2 (.ref b56a)) (PF11 : oF1 Z h0 b2 (.int (0 : Int32))) (PF12 : oF2 Z h0 b2 (.int i5)) (PV19 : Arv Z h0 b56a k56b .byte (34 : Int32) us6a (.int (0 : Int32))) (PE20 : Exa Z h0 b56a "[B") (PE25 : Exa Z h0 b4 "java/lang/String") (PF26 : oF4 Z h0 b4 .null) (PF27 : oF3 Z h0 b4 (.int (0 : Int32))) (PP0 : ¬ (cs = (0 : Int32))) (PP3 : i5 = (34 : Int32)) (ne_b56a_b4 : b56a ≠ b4) (n_b4 : n0 ≤ b4) :
    own_Met l mn28 jdk_42_method_53_code 2 none ws (oRm 3 1 34 45) #[(.ref b4), (.ref b2)] Z h0 (Q24a125 Z b4 k56b us6a h0 n0) := by
  refine own_met (own := "java/lang/String") rfl (plainFor_of_name pn_7) ?_
  intro p e s m below meth c s₁ hx hby hml hZ hown hnm X0 e0 Br Bs
  have N0 := Fr.nil n0
  have tt := own_tt hx hby own_ok24
  show own_Ends p e below s _ _ _ s₁ (mkF m 0 #[oR b4, oR b2] [])
  refine own_go (T' := s₁) (f' := (mkF m 3 #[oR b4, oR b2] [.null, vR b2, vR b4])) (fun _ k => own_e X0 tt 0 3 k rfl) ?_
  obtain ⟨_, T7, Lc7, X7, hQ7, st7⟩ := own_out (X0.specialBack hx (y := mn27) rfl hown (mvT hZ (ow144 hw)) (mvT hZ (ow145 hw)) (mvT hZ (ow146 hw)) (by decide) (backOf (W := 0) (rm25a126 l Z a0 hw [] b4 b2 cs b56a i5 k56b us6a h0 n0 Z0 PS0 PE9 PF10 PF11 PF12 PV19 PE20 PE25 PF26 PF27 PP0 PP3 ne_b56a_b4 n_b4) hZ (ow146 hw) (ow31 hw) (by decide) (by decide)) (g := (mkF m 3 #[oR b4, oR b2] [.null, vR b2, vR b4])) rfl (by rw [hml]; rfl) (Steps.refl _) (a := b4) (argsL := [(.ref b2), .null]) (rest := []) (lenOf pd19 rfl) rfl (by show 2 * 0 + _ ≤ _; exact Nat.le_of_eq rfl) (hb hby d24_3) (fun _ _ => ⟨rfl, e0, (by decide : 0 + 1 ≤ _), (by decide : 0 + 34 ≤ _)⟩))
  obtain ⟨b7a, rfl, N7q, K7, n_b7a, sg_b7a, g7_0, g7_1, g7_2, g7_3⟩ := hQ7
  have N7 := Fr.app N0 N7q
  have sz_b7a := oT (Keep.refl h0 [b4]).1 sg_b7a
  have eK7 : T7.heap = T7.heap := rfl
  have KK7 : Keep h0 T7.heap [b4] := Keep.trans (Keep.refl h0 [b4]) K7 (allS (Or.inl (List.mem_of_getElem? (i := 0) rfl)) all0)
  obtain ⟨_, X7, N7⟩ := own_hide X7 N7
  refine own_go (T' := T7) (f' := (mkF m 6 #[oR b4, oR b2] [])) (fun _ k => st7.trans k) ?_
  refine own_ret X7 (v := none) (fun _ => rfl) Bs (fun fs hr => X7.returnOut hx Br (hb hby d24_6) hr) ?_ (by decide) (by decide)
  unfold Q24a125
  rw [eK7]
  exact ⟨b7a, rfl, N7, KK7, n_b7a, sz_b7a, g7_0, g7_1, g7_2, g7_3⟩
def Q23a124 (Z : State) (k56b : ClassId) (us3a : List Value) (h0 : Heap) (n0 : Nat) (v : Option Value) (h : Heap) (L : List Loc) : Prop := ∃ (b4 : Addr) (b5a : Addr), v = some (.ref b4) ∧ Fr n0 L ∧ Keep h0 h [] ∧ n0 ≤ b4 ∧ h0.size ≤ b4 ∧ n0 ≤ b5a ∧ h0.size ≤ b5a ∧ b5a ≠ b4 ∧ Exa Z h b4 "java/lang/String" ∧ oF4 Z h b4 (.ref b5a) ∧ oF3 Z h b4 (.int (0 : Int32)) ∧ Arv Z h b5a k56b .byte (34 : Int32) us3a (.int (0 : Int32)) ∧ Exa Z h b5a "[B"
set_option maxRecDepth 65536 in
set_option maxHeartbeats 40000000 in
theorem rm23a124 (l : Launch) (Z : State) (a0 : Array Value) (hw : HW a0 Z) (ws : List Jvm.Cond) (b2 : Addr) (cs : Int32) (b56a : Addr) (i4 : Int32) (k56b : ClassId) (us5a : List Value) (h0 : Heap) (n0 : Nat) (Z0 : n0 ≤ h0.size) (PS0 : Sta Z h0 "java/lang/String" "COMPACT_STRINGS" "Z" (.int cs)) (PE9 : Exa Z h0 b2 "java/lang/StringBuilder") (PF10 : oF0 Z h0 b2 (.ref b56a)) (PF11 : oF1 Z h0 b2 (.int (0 : Int32))) (PF12 : oF2 Z h0 b2 (.int i4)) (PV19 : Arv Z h0 b56a k56b .byte (34 : Int32) us5a (.int (0 : Int32))) (PE20 : Exa Z h0 b56a "[B") (PP0 : ¬ (cs = (0 : Int32))) (PP3 : i4 = (34 : Int32)) :
    own_Met l mn29 jdk_67_method_42_code 1 (some (.object "java/lang/String")) ws (oRm 4 2 38 59) #[(.ref b2)] Z h0 (Q23a124 Z k56b us5a h0 n0) := by
  refine own_met (own := "java/lang/StringBuilder") rfl (plainFor_of_name pn_8) ?_
  intro p e s m below meth c s₁ hx hby hml hZ hown hnm X0 e0 Br Bs
  have N0 := Fr.nil n0
  have tt := own_tt hx hby own_ok23
  show own_Ends p e below s _ _ _ s₁ (mkF m 0 #[oR b2] [])
  obtain ⟨T6, h6, X6, e6, E6, A6, D6, -, st6⟩ := newO X0 hx hZ hown (ow139 hw) (ow38 hw) (ow31 hw) e0 (g := (mkF m 0 #[oR b2] [])) rfl (hb hby d23_0) (by decide) (by decide)
  obtain ⟨b6, g_b6⟩ : ∃ z, z = h0.size := ⟨_, rfl⟩
  have sg_b6 : h0.size ≤ b6 := Nat.le_of_eq g_b6.symm
  rw [← g_b6] at A6 D6 st6
  have n_b6 := oT Z0 sg_b6
  have sz_b6 := oT (Keep.refl h0 []).1 sg_b6
  have K6 : Keep h0 h6 [] := (Keep.refl h0 []).ext E6
  have F_value_b6 : oF4 Z h6 b6 .null := D6 (Or.inr (ow39 hw)) (ty := (.array .byte)) (by decide)
  have F_coder_b6 : oF3 Z h6 b6 (.int (0 : Int32)) := D6 (Or.inr (ow40 hw)) (ty := .byte) (by decide)
  refine own_go (T' := T6) (f' := (mkF m 5 #[oR b2] [vR b2, vR b6, vR b6])) (fun _ k => st6 _ (own_e X6 tt 3 2 k rfl)) ?_
  obtain ⟨_, T7, Lc7, X7, hQ7, st7⟩ := own_out (X6.specialBack hx (y := mn28) rfl hown (mvT hZ (ow140 hw)) (mvT hZ (ow141 hw)) (mvT hZ (ow143 hw)) (by decide) (backOf (W := 1) (rm24a125 l Z a0 hw [] b6 b2 cs b56a i4 k56b us5a h6 n0 (oT Z0 E6.1) (PS0.ext E6) (PE9.ext E6) (PF10.ext E6) (PF11.ext E6) (PF12.ext E6) (PV19.ext E6) (PE20.ext E6) A6 F_value_b6 F_coder_b6 PP0 PP3 (oL PV19.lt sz_b6) n_b6) hZ (ow143 hw) (ow31 hw) (by decide) (by decide)) (g := (mkF m 5 #[oR b2] [vR b2, vR b6, vR b6])) rfl (by rw [hml]; rfl) (Steps.refl _) (a := b6) (argsL := [(.ref b2)]) (rest := [(.ref b6)]) (lenOf pd25 rfl) rfl (by show 2 * 0 + _ ≤ _; exact Nat.le_of_eq rfl) (hb hby d23_5) (fun _ _ => ⟨rfl, e6, (by decide : 1 + 1 ≤ _), (by decide : 4 + 34 ≤ _)⟩))
  obtain ⟨b7a, rfl, N7q, K7, n_b7a, sg_b7a, g7_0, g7_1, g7_2, g7_3⟩ := hQ7
  have N7 := Fr.app N0 N7q
  have sz_b7a := oT K6.1 sg_b7a
  have u8 : b6 < h6.size := A6.lt
  have m13 : h0.size ≤ h6.size := (oT (Nat.le_refl _) E6.1)
  have eK7 : T7.heap = T7.heap := rfl
  have KK7 : Keep h0 T7.heap [] := Keep.trans K6 K7 (allS (Or.inr sz_b6) all0)
  obtain ⟨_, X7, N7⟩ := own_hide X7 N7
  refine own_go (T' := T7) (f' := (mkF m 8 #[oR b2] [vR b6])) (fun _ k => st7.trans k) ?_
  refine own_ret X7 (v := some (.ref b6)) (oN Br) Bs (fun fs hr => own_retA X7 hx Br rfl rfl (hb hby d23_8) hr) ?_ (by decide) (by decide)
  unfold Q23a124
  rw [eK7]
  exact ⟨b6, b7a, rfl, N7, KK7, n_b6, sz_b6, n_b7a, sz_b7a, (oM u8 sg_b7a), (A6.keep K7), g7_0, g7_1, g7_2, g7_3⟩
def Q1a155 (Z : State) (i3 : Int32) (h0 : Heap) (n0 : Nat) (v : Option Value) (h : Heap) (L : List Loc) : Prop := v = some (.int i3) ∧ Fr n0 L ∧ h = h0
set_option maxRecDepth 65536 in
set_option maxHeartbeats 40000000 in
theorem rm1a155 (l : Launch) (Z : State) (a0 : Array Value) (hw : HW a0 Z) (ws : List Jvm.Cond) (i3 : Int32) (h0 : Heap) (n0 : Nat) (Z0 : n0 ≤ h0.size) (PP7 : i3 < (34 : Int32)) :
    own_Met l mn0 jdk_29_method_69_code 2 (some .int) ws (oRm 0 0 0 0) #[(.int (34 : Int32)), (.int i3)] Z h0 (Q1a155 Z i3 h0 n0) := by
  refine own_met (own := "java/lang/Math") rfl (Jvm.Free.JP.mathPlain rfl (by decide +kernel)) ?_
  intro p e s m below meth c s₁ hx hby hml hZ hown hnm X0 e0 Br Bs
  have N0 := Fr.nil n0
  have tt := own_tt hx hby own_ok1
  show own_Ends p e below s _ _ _ s₁ (mkF m 0 #[oI 34, .val (.int i3)] [])
  refine own_go (T' := s₁) (f' := (mkF m 2 #[oI 34, .val (.int i3)] [(.int i3), vI 34])) (fun _ k => own_e X0 tt 0 2 k rfl) ?_
  refine own_go (T' := s₁) (f' := (mkF m 10 #[oI 34, .val (.int i3)] [(.int i3)])) (fun _ k => XS.icmpYes X0.here hx rfl (pc0 := 2) (pc' := 9) rfl (hb hby d1_2) rfl (tlt PP7).2.2.1 (by decide) (by decide) (own_e X0 tt 9 1 k rfl)) ?_
  refine own_ret X0 (v := some (.int i3)) (oN Br) Bs (fun fs hr => retI X0 hx Br (hb hby d1_10) hr) ?_ (by decide) (by decide)
  unfold Q1a155
  exact ⟨rfl, N0, e0⟩
def Q30a165 (Z : State) (i3 : Int32) (h0 : Heap) (n0 : Nat) (v : Option Value) (h : Heap) (L : List Loc) : Prop := ∃ (b4 : Addr) (k4 : ClassId) (us5 : List Value), v = some (.ref b4) ∧ Fr n0 L ∧ Keep h0 h [] ∧ n0 ≤ b4 ∧ h0.size ≤ b4 ∧ Arv Z h b4 k4 .byte (i3 - (0 : Int32)) us5 (.int (0 : Int32)) ∧ Exa Z h b4 "[B" ∧ us5.length = ((i3 - (0 : Int32))).toNatClampNeg
set_option maxRecDepth 65536 in
set_option maxHeartbeats 40000000 in
theorem rm30a165 (l : Launch) (Z : State) (a0 : Array Value) (hw : HW a0 Z) (ws : List Jvm.Cond) (b56a : Addr) (i3 : Int32) (k56b : ClassId) (us10a : List Value) (h0 : Heap) (n0 : Nat) (Z0 : n0 ≤ h0.size) (PV19 : Arv Z h0 b56a k56b .byte (34 : Int32) us10a (.int (0 : Int32))) (PP4 : ¬ (i3 < (0 : Int32))) (PP5 : ¬ ((i3 - (0 : Int32)) < (0 : Int32))) (PP6 : ¬ ((42 : Int32) < (i3 - (0 : Int32)))) (PP7 : (i3 - (0 : Int32)) < (34 : Int32)) (PP8 : ¬ ((i3 - (0 : Int32)) < (i3 - (0 : Int32)))) (PP9 : ¬ ((34 : Int32) < (i3 - (0 : Int32)))) :
    own_Met l mn25 jdk_65_method_133_code 5 (some (.array .byte)) ws (oRm 1 1 42 18) #[(.ref b56a), (.int (0 : Int32)), (.int i3)] Z h0 (Q30a165 Z i3 h0 n0) := by
  refine own_met (own := "java/util/Arrays") rfl (plainFor_of_name pn_11) ?_
  intro p e s m below meth c s₁ hx hby hml hZ hown hnm X0 e0 Br Bs
  have N0 := Fr.nil n0
  have tt := own_tt hx hby own_ok30
  show own_Ends p e below s _ _ _ s₁ (mkF m 0 #[oR b56a, oI 0, .val (.int i3), oU, oU] [])
  refine own_go (T' := s₁) (f' := (mkF m 2 #[oR b56a, oI 0, .val (.int i3), oU, oU] [(.int i3), vI 0])) (fun _ k => own_e X0 tt 0 2 k rfl) ?_
  obtain ⟨_, T11, Lc11, X11, hQ11, st11⟩ := own_outC (Jvm.LawKit.callS X0 hx (y := mn24) hown (mvT hZ (ow168 hw)) (mvT hZ (ow169 hw)) (mvT hZ (ow87 hw)) (mvT hZ (ow170 hw)) (by decide) (backOf (W := 0) (rm31a85 l Z a0 hw [] i3 h0 n0 Z0 PP4) hZ (ow170 hw) (ow87 hw) (by decide) (by decide)) (g := (mkF m 2 #[oR b56a, oI 0, .val (.int i3), oU, oU] [(.int i3), vI 0])) rfl (by rw [hml]; rfl) (argsL := [(.int (0 : Int32)), (.int i3)]) (rest := []) (lenOf pd14 rfl) rfl (by show 2 * 0 + _ ≤ _; exact Nat.le_of_eq rfl) (hb hby d30_2) (fun _ _ => ⟨rfl, e0, (by decide : 0 + 0 ≤ _), (by decide : 0 + 0 ≤ _)⟩))
  obtain ⟨rfl, N11q, hh11⟩ := hQ11
  have N11 := Fr.app N0 N11q
  obtain ⟨_, X11, N11⟩ := own_hide X11 N11
  refine own_go (T' := T11) (f' := (mkF m 10 #[oR b56a, oI 0, .val (.int i3), .val (.int (i3 - (0 : Int32))), oU] [(.int (i3 - (0 : Int32)))])) (fun _ k => st11 _ (own_e X11 tt 5 5 k rfl)) ?_
  obtain ⟨T12, h12, k12, X12, e12, E12, A12, EA12, st12⟩ := newPE (aty := .byte) X11 hx hZ (ow32 hw) hh11 (g := (mkF m 10 #[oR b56a, oI 0, .val (.int i3), .val (.int (i3 - (0 : Int32))), oU] [(.int (i3 - (0 : Int32)))])) rfl (hb hby d30_10) rfl PP5 (cap := 42) (own_cap (by decide) PP6) (by decide) (by decide) (by decide) (ad := "[B") (by decide +kernel)
  obtain ⟨b12, g_b12⟩ : ∃ z, z = h0.size := ⟨_, rfl⟩
  have sg_b12 : h0.size ≤ b12 := Nat.le_of_eq g_b12.symm
  rw [← g_b12] at A12 EA12 st12
  have n_b12 := oT Z0 sg_b12
  have sz_b12 := oT (Keep.refl h0 []).1 sg_b12
  have K12 : Keep h0 h12 [] := (Keep.refl h0 []).ext E12
  have V_b12 : Arv Z h12 b12 k12 .byte (i3 - (0 : Int32)) [] (.int (0 : Int32)) := Arv.new A12 PP5
  obtain ⟨us12, hl12, Vo12⟩ := own_open V_b12
  refine own_go (T' := T12) (f' := (mkF m 20 #[oR b56a, oI 0, .val (.int i3), .val (.int (i3 - (0 : Int32))), oR b12] [vR b56a, vI 0, vR b12, vI 0, vR b56a])) (fun _ k => st12 _ (own_e X12 tt 12 6 k rfl)) ?_
  refine own_go (T' := T12) (f' := (mkF m 24 #[oR b56a, oI 0, .val (.int i3), .val (.int (i3 - (0 : Int32))), oR b12] [(.int (i3 - (0 : Int32))), vI 34, vI 0, vR b12, vI 0, vR b56a])) (fun _ k => own_alen X12 hx hZ e12 (PV19.ext E12) rfl rfl (hb hby d30_20) (own_e X12 tt 21 3 k rfl)) ?_
  obtain ⟨_, T13, Lc13, X13, hQ13, st13⟩ := own_outC (Jvm.LawKit.callS X12 hx (y := mn0) hown (mvT hZ (ow89 hw)) (mvT hZ (ow2 hw)) (mvT hZ (ow3 hw)) (mvT hZ (ow4 hw)) (by decide) (backOf (W := 4) (rm1a155 l Z a0 hw [] (i3 - (0 : Int32)) h12 n0 (oT Z0 E12.1) PP7) hZ (ow4 hw) (ow3 hw) (by decide) (by decide)) (g := (mkF m 24 #[oR b56a, oI 0, .val (.int i3), .val (.int (i3 - (0 : Int32))), oR b12] [(.int (i3 - (0 : Int32))), vI 34, vI 0, vR b12, vI 0, vR b56a])) rfl (by rw [hml]; rfl) (argsL := [(.int (34 : Int32)), (.int (i3 - (0 : Int32)))]) (rest := [(.int (0 : Int32)), (.ref b12), (.int (0 : Int32)), (.ref b56a)]) (lenOf pd12 rfl) rfl (by show 2 * 0 + _ ≤ _; exact Nat.le_of_eq rfl) (hb hby d30_24) (fun _ _ => ⟨rfl, e12, (by decide : 1 + 0 ≤ _), (by decide : 42 + 0 ≤ _)⟩))
  obtain ⟨rfl, N13q, hh13⟩ := hQ13
  have N13 := Fr.app N11 N13q
  obtain ⟨_, X13, N13⟩ := own_hide X13 N13
  refine own_go (T' := T13) (f' := (mkF m 27 #[oR b56a, oI 0, .val (.int i3), .val (.int (i3 - (0 : Int32))), oR b12] [(.int (i3 - (0 : Int32))), vI 0, vR b12, vI 0, vR b56a])) (fun _ k => st13 _ k) ?_
  obtain ⟨T14, h14, Lq14, X14, e14, N14, K14, V14, st14⟩ := cpA X13 hx hZ hown (ow90 hw) (ow93 hw) (ow91 hw) (ow92 hw) hh13 (PV19.ext E12) Vo12 (Or.inl ⟨rfl, rfl⟩) (sp := (0 : Int32)) (dp := (0 : Int32)) (nn := (i3 - (0 : Int32))) (by decide) (by decide) PP5 (own_cl0 PP9) (own_cl0 PP8) rfl (by rw [hl12]; exact (own_cl0 PP8)) N13 n_b12 (g := (mkF m 27 #[oR b56a, oI 0, .val (.int i3), .val (.int (i3 - (0 : Int32))), oR b12] [(.int (i3 - (0 : Int32))), vI 0, vR b12, vI 0, vR b56a])) rfl (by rw [hml]; rfl) rfl (hb hby d30_27) (by decide) (W := 0) (by show 2 * 0 + _ ≤ _; exact Nat.le_of_eq rfl) (by decide)
  obtain ⟨us14, hl14, Vo14⟩ := own_open V14
  have KK14 : Keep h0 h14 [] := Keep.trans K12 K14 (allS (Or.inr sz_b12) all0)
  refine own_go (T' := T14) (f' := (mkF m 32 #[oR b56a, oI 0, .val (.int i3), .val (.int (i3 - (0 : Int32))), oR b12] [vR b12])) (fun _ k => st14 _ (own_e X14 tt 30 1 k rfl)) ?_
  refine own_ret X14 (v := some (.ref b12)) (oN Br) Bs (fun fs hr => own_retA X14 hx Br rfl rfl (hb hby d30_32) hr) ?_ (by decide) (by decide)
  unfold Q30a165
  rw [e14]
  exact ⟨b12, k12, us14, rfl, N14, KK14, n_b12, sz_b12, Vo14, (EA12.keep K14), hl14⟩
def Q29a164 (Z : State) (i3 : Int32) (h0 : Heap) (n0 : Nat) (v : Option Value) (h : Heap) (L : List Loc) : Prop := ∃ (b4a : Addr) (k4b : ClassId) (us4c : List Value), v = some (.ref b4a) ∧ Fr n0 L ∧ Keep h0 h [] ∧ n0 ≤ b4a ∧ h0.size ≤ b4a ∧ Arv Z h b4a k4b .byte (i3 - (0 : Int32)) us4c (.int (0 : Int32)) ∧ Exa Z h b4a "[B" ∧ us4c.length = ((i3 - (0 : Int32))).toNatClampNeg
set_option maxRecDepth 65536 in
set_option maxHeartbeats 40000000 in
theorem rm29a164 (l : Launch) (Z : State) (a0 : Array Value) (hw : HW a0 Z) (ws : List Jvm.Cond) (b56a : Addr) (i10 : Int32) (k56b : ClassId) (us11a : List Value) (h0 : Heap) (n0 : Nat) (Z0 : n0 ≤ h0.size) (PV19 : Arv Z h0 b56a k56b .byte (34 : Int32) us11a (.int (0 : Int32))) (PP3 : ¬ (i10 = (34 : Int32))) (PP4 : ¬ (i10 < (0 : Int32))) (PP5 : ¬ ((i10 - (0 : Int32)) < (0 : Int32))) (PP6 : ¬ ((42 : Int32) < (i10 - (0 : Int32)))) (PP7 : (i10 - (0 : Int32)) < (34 : Int32)) (PP8 : ¬ ((i10 - (0 : Int32)) < (i10 - (0 : Int32)))) (PP9 : ¬ ((34 : Int32) < (i10 - (0 : Int32)))) :
    own_Met l mn26 jdk_65_method_132_code 3 (some (.array .byte)) ws (oRm 2 1 42 34) #[(.ref b56a), (.int (0 : Int32)), (.int i10)] Z h0 (Q29a164 Z i10 h0 n0) := by
  refine own_met (own := "java/util/Arrays") rfl (plainFor_of_name pn_11) ?_
  intro p e s m below meth c s₁ hx hby hml hZ hown hnm X0 e0 Br Bs
  have N0 := Fr.nil n0
  have tt := own_tt hx hby own_ok29
  show own_Ends p e below s _ _ _ s₁ (mkF m 0 #[oR b56a, oI 0, .val (.int i10)] [])
  refine own_go (T' := s₁) (f' := (mkF m 6 #[oR b56a, oI 0, .val (.int i10)] [vR b56a, (.int i10)])) (fun _ k => own_e X0 tt 0 4 k rfl) ?_
  refine own_go (T' := s₁) (f' := (mkF m 13 #[oR b56a, oI 0, .val (.int i10)] [(.int i10), vI 0, vR b56a])) (fun _ k => own_alen X0 hx hZ e0 PV19 rfl rfl (hb hby d29_6) (XS.icmpNo X0.here hx rfl (hb hby d29_7) rfl (feq PP3).1 (own_e X0 tt 10 3 k rfl))) ?_
  obtain ⟨_, T12, Lc12, X12, hQ12, st12⟩ := own_outC (Jvm.LawKit.callS X0 hx (y := mn25) hown (mvT hZ (ow165 hw)) (mvT hZ (ow166 hw)) (mvT hZ (ow87 hw)) (mvT hZ (ow167 hw)) (by decide) (backOf (W := 0) (rm30a165 l Z a0 hw [] b56a i10 k56b us11a h0 n0 Z0 PV19 PP4 PP5 PP6 PP7 PP8 PP9) hZ (ow167 hw) (ow87 hw) (by decide) (by decide)) (g := (mkF m 13 #[oR b56a, oI 0, .val (.int i10)] [(.int i10), vI 0, vR b56a])) rfl (by rw [hml]; rfl) (argsL := [(.ref b56a), (.int (0 : Int32)), (.int i10)]) (rest := []) (lenOf pd29 rfl) rfl (by show 2 * 0 + _ ≤ _; exact Nat.le_of_eq rfl) (hb hby d29_13) (fun _ _ => ⟨rfl, e0, (by decide : 0 + 1 ≤ _), (by decide : 0 + 42 ≤ _)⟩))
  obtain ⟨b12a, k12b, us12c, rfl, N12q, K12, n_b12a, sg_b12a, g12_0, g12_1, g12_2⟩ := hQ12
  have N12 := Fr.app N0 N12q
  have sz_b12a := oT (Keep.refl h0 []).1 sg_b12a
  have eK12 : T12.heap = T12.heap := rfl
  have KK12 : Keep h0 T12.heap [] := Keep.trans (Keep.refl h0 []) K12 all0
  obtain ⟨_, X12, N12⟩ := own_hide X12 N12
  refine own_go (T' := T12) (f' := (mkF m 16 #[oR b56a, oI 0, .val (.int i10)] [vR b12a])) (fun _ k => st12 _ k) ?_
  refine own_ret X12 (v := some (.ref b12a)) (oN Br) Bs (fun fs hr => own_retA X12 hx Br rfl rfl (hb hby d29_16) hr) ?_ (by decide) (by decide)
  unfold Q29a164
  rw [eK12]
  exact ⟨b12a, k12b, us12c, rfl, N12, KK12, n_b12a, sz_b12a, g12_0, g12_1, g12_2⟩
def Q25a163 (Z : State) (b3 : Addr) (i4 : Int32) (h0 : Heap) (n0 : Nat) (v : Option Value) (h : Heap) (L : List Loc) : Prop := ∃ (b5a : Addr) (k5b : ClassId) (us5c : List Value), v = none ∧ Fr n0 L ∧ Keep h0 h [b3] ∧ n0 ≤ b5a ∧ h0.size ≤ b5a ∧ oF4 Z h b3 (.ref b5a) ∧ oF3 Z h b3 (.int (0 : Int32)) ∧ Arv Z h b5a k5b .byte (i4 - (0 : Int32)) us5c (.int (0 : Int32)) ∧ Exa Z h b5a "[B" ∧ us5c.length = ((i4 - (0 : Int32))).toNatClampNeg
set_option maxRecDepth 65536 in
set_option maxHeartbeats 40000000 in
theorem rm25a163 (l : Launch) (Z : State) (a0 : Array Value) (hw : HW a0 Z) (ws : List Jvm.Cond) (b13 : Addr) (b2 : Addr) (cs : Int32) (b56a : Addr) (i14 : Int32) (k56b : ClassId) (us15a : List Value) (h0 : Heap) (n0 : Nat) (Z0 : n0 ≤ h0.size) (PS0 : Sta Z h0 "java/lang/String" "COMPACT_STRINGS" "Z" (.int cs)) (PE9 : Exa Z h0 b2 "java/lang/StringBuilder") (PF10 : oF0 Z h0 b2 (.ref b56a)) (PF11 : oF1 Z h0 b2 (.int (0 : Int32))) (PF12 : oF2 Z h0 b2 (.int i14)) (PV19 : Arv Z h0 b56a k56b .byte (34 : Int32) us15a (.int (0 : Int32))) (PE25 : Exa Z h0 b13 "java/lang/String") (PF26 : oF4 Z h0 b13 .null) (PF27 : oF3 Z h0 b13 (.int (0 : Int32))) (PP0 : ¬ (cs = (0 : Int32))) (PP3 : ¬ (i14 = (34 : Int32))) (PP4 : ¬ (i14 < (0 : Int32))) (PP5 : ¬ ((i14 - (0 : Int32)) < (0 : Int32))) (PP6 : ¬ ((42 : Int32) < (i14 - (0 : Int32)))) (PP7 : (i14 - (0 : Int32)) < (34 : Int32)) (PP8 : ¬ ((i14 - (0 : Int32)) < (i14 - (0 : Int32)))) (PP9 : ¬ ((34 : Int32) < (i14 - (0 : Int32)))) (ne_b56a_b13 : b56a ≠ b13) (n_b13 : n0 ≤ b13) :
    own_Met l mn27 jdk_42_method_150_code 5 none ws (oRm 3 1 42 49) #[(.ref b13), (.ref b2), .null] Z h0 (Q25a163 Z b13 i14 h0 n0) := by
  refine own_met (own := "java/lang/String") rfl (plainFor_of_name pn_7) ?_
  intro p e s m below meth c s₁ hx hby hml hZ hown hnm X0 e0 Br Bs
  have N0 := Fr.nil n0
  have tt := own_tt hx hby own_ok25
  show own_Ends p e below s _ _ _ s₁ (mkF m 0 #[oR b13, oR b2, .val .null, oU, oU] [])
  refine own_go (T' := s₁) (f' := (mkF m 1 #[oR b13, oR b2, .val .null, oU, oU] [vR b13])) (fun _ k => own_e X0 tt 0 1 k rfl) ?_
  obtain ⟨T16, X16, e16, st16⟩ := initO X0 hx hZ hown (ow147 hw) (ow28 hw) (ow29 hw) e0 (g := (mkF m 1 #[oR b13, oR b2, .val .null, oU, oU] [vR b13])) rfl (by rw [hml]; rfl) rfl (hb hby d25_1) (by decide) (W := 0) (by show 2 * 0 + _ ≤ _; exact Nat.le_of_eq rfl) (by decide)
  refine own_go (T' := T16) (f' := (mkF m 5 #[oR b13, oR b2, .val .null, oU, oU] [vR b2])) (fun _ k => st16 _ (own_e X16 tt 4 1 k rfl)) ?_
  obtain ⟨cq17, kq17, q17a, q17b, q17c⟩ := isOf hZ e16 PE9
  obtain ⟨_, T17, Lc17, X17, hQ17, st17⟩ := own_out (X16.virtualBack hx (y := mn21) (z := mn21) hown (mvT hZ (ow148 hw)) (mvT hZ (ow149 hw)) (notFace_of_selects (args := #[]) (mvT hZ (ow151 hw))) (mvT hZ (ow151 hw)) (mvT hZ (ow150 hw)) (by decide) (backOf (W := 0) (rm26a70 l Z a0 hw [] b2 b56a h0 n0 Z0 PF10) hZ (ow152 hw) (ow25 hw) (by decide) (by decide)) q17a q17c (g := (mkF m 5 #[oR b13, oR b2, .val .null, oU, oU] [vR b2])) rfl (by rw [hml]; rfl) (Steps.refl _) (argsL := []) (rest := []) (lenOf pd7 rfl) rfl (by show 2 * 0 + _ ≤ _; exact Nat.le_of_eq rfl) (hb hby d25_5) (fun _ _ => ⟨rfl, e16, (by decide : 0 + 0 ≤ _), (by decide : 0 + 0 ≤ _)⟩))
  obtain ⟨rfl, N17q, hh17⟩ := hQ17
  have N17 := Fr.app N0 N17q
  obtain ⟨_, X17, N17⟩ := own_hide X17 N17
  refine own_go (T' := T17) (f' := (mkF m 10 #[oR b13, oR b2, .val .null, oR b56a, oU] [vR b2])) (fun _ k => st17.trans (own_e X17 tt 8 2 k rfl)) ?_
  obtain ⟨cq18, kq18, q18a, q18b, q18c⟩ := isOf hZ hh17 PE9
  obtain ⟨_, T18, Lc18, X18, hQ18, st18⟩ := own_out (X17.virtualBack hx (y := mn22) (z := mn23) hown (mvT hZ (ow153 hw)) (mvT hZ (ow154 hw)) (own_nf (args := #[]) (y2 := mn11) (mvT hZ (ow71 hw)) rfl) (mvT hZ (ow156 hw)) (mvT hZ (ow157 hw)) (by decide) (backOf (W := 0) (rm27a71 l Z a0 hw [] b2 i14 h0 n0 Z0 PE9 PF12) hZ (ow158 hw) (ow17 hw) (by decide) (by decide)) q18a q18c (g := (mkF m 10 #[oR b13, oR b2, .val .null, oR b56a, oU] [vR b2])) rfl (by rw [hml]; rfl) (Steps.refl _) (argsL := []) (rest := []) (lenOf pd1 rfl) rfl (by show 2 * 0 + _ ≤ _; exact Nat.le_of_eq rfl) (hb hby d25_10) (fun _ _ => ⟨rfl, hh17, (by decide : 0 + 0 ≤ _), (by decide : 0 + 0 ≤ _)⟩))
  obtain ⟨rfl, N18q, hh18⟩ := hQ18
  have N18 := Fr.app N17 N18q
  obtain ⟨_, X18, N18⟩ := own_hide X18 N18
  refine own_go (T' := T18) (f' := (mkF m 16 #[oR b13, oR b2, .val .null, oR b56a, .val (.int i14)] [vR b2])) (fun _ k => st18.trans (own_e X18 tt 13 2 k rfl)) ?_
  obtain ⟨cq20, kq20, q20a, q20b, q20c⟩ := isOf hZ hh18 PE9
  obtain ⟨_, T20, Lc20, X20, hQ20, st20⟩ := own_out (X18.virtualBack hx (y := mn17) (z := mn17) hown (mvT hZ (ow161 hw)) (mvT hZ (ow125 hw)) (notFace_of_selects (args := #[]) (mvT hZ (ow127 hw))) (mvT hZ (ow127 hw)) (mvT hZ (ow126 hw)) (by decide) (backOf (W := 0) (rm21a22 l Z a0 hw [] b2 cs h0 n0 Z0 PS0 PF11 PP0) hZ (ow128 hw) (ow25 hw) (by decide) (by decide)) q20a q20c (g := (mkF m 16 #[oR b13, oR b2, .val .null, oR b56a, .val (.int i14)] [vR b2])) rfl (by rw [hml]; rfl) (Steps.refl _) (argsL := []) (rest := []) (lenOf pd6 rfl) rfl (by show 2 * 0 + _ ≤ _; exact Nat.le_of_eq rfl) (hb hby d25_16) (fun _ _ => ⟨rfl, hh18, (by decide : 0 + 0 ≤ _), (by decide : 0 + 0 ≤ _)⟩))
  obtain ⟨rfl, N20q, hh20⟩ := hQ20
  have N20 := Fr.app N18 N20q
  obtain ⟨_, X20, N20⟩ := own_hide X20 N20
  refine own_go (T' := T20) (f' := (mkF m 24 #[oR b13, oR b2, .val .null, oR b56a, .val (.int i14)] [vI 0, vR b13])) (fun _ k => st20.trans (own_e X20 tt 19 3 k rfl)) ?_
  obtain ⟨T21, h21, X21, e21, W21, st21⟩ := putFN X20 hx hZ hown (ow65 hw) Via.refl hh20 PF27 PE25 (Or.inr ⟨(ow40 hw), rfl, hnm⟩) (ow38 hw) (ty := .byte) (v' := (.int (0 : Int32))) (by decide) rfl (fits_nar_byte (0 : Int32)) (g := (mkF m 24 #[oR b13, oR b2, .val .null, oR b56a, .val (.int i14)] [vI 0, vR b13])) rfl rfl (hb hby d25_24)
  have Fw21 := Fld.same W21 PF27
  have K21 : Keep h0 h21 [b13] := (Keep.refl h0 [b13]).wr W21 (Or.inl (List.mem_of_getElem? (i := 0) rfl))
  have N21 := Fr.snoc X21 N20 n_b13
  refine own_go (T' := T21) (f' := (mkF m 32 #[oR b13, oR b2, .val .null, oR b56a, .val (.int i14)] [(.int i14), vI 0, vR b56a, vR b13])) (fun _ k => st21 _ (own_e X21 tt 27 4 k rfl)) ?_
  obtain ⟨_, T22, Lc22, X22, hQ22, st22⟩ := own_outC (Jvm.LawKit.callS X21 hx (y := mn26) hown (mvT hZ (ow162 hw)) (mvT hZ (ow163 hw)) (mvT hZ (ow87 hw)) (mvT hZ (ow164 hw)) (by decide) (backOf (W := 1) (rm29a164 l Z a0 hw [] b56a i14 k56b us15a h21 n0 (oT Z0 (Keep.of_wr W21).1) (PV19.other W21 ne_b56a_b13) PP3 PP4 PP5 PP6 PP7 PP8 PP9) hZ (ow164 hw) (ow87 hw) (by decide) (by decide)) (g := (mkF m 32 #[oR b13, oR b2, .val .null, oR b56a, .val (.int i14)] [(.int i14), vI 0, vR b56a, vR b13])) rfl (by rw [hml]; rfl) (argsL := [(.ref b56a), (.int (0 : Int32)), (.int i14)]) (rest := [(.ref b13)]) (lenOf pd29 rfl) rfl (by show 2 * 0 + _ ≤ _; exact Nat.le_of_eq rfl) (hb hby d25_32) (fun _ _ => ⟨rfl, e21, (by decide : 0 + 1 ≤ _), (by decide : 0 + 42 ≤ _)⟩))
  obtain ⟨b22a, k22b, us22c, rfl, N22q, K22, n_b22a, sg_b22a, g22_0, g22_1, g22_2⟩ := hQ22
  have N22 := Fr.app N21 N22q
  have sz_b22a := oT K21.1 sg_b22a
  have eK22 : T22.heap = T22.heap := rfl
  have KK22 : Keep h0 T22.heap [b13] := Keep.trans K21 K22 all0
  obtain ⟨_, X22, N22⟩ := own_hide X22 N22
  refine own_go (T' := T22) (f' := (mkF m 35 #[oR b13, oR b2, .val .null, oR b56a, .val (.int i14)] [vR b22a, vR b13])) (fun _ k => st22 _ k) ?_
  obtain ⟨T23, h23, X23, e23, W23, st23⟩ := putF X22 hx hZ hown (host := "") (Or.inl (ow58 hw)) Via.refl eK22 ((PF26.other W21 (Or.inr (sn_39_40 hw))).keep K22 nin0) ((PE25.wr W21).keep K22) (Or.inr ⟨(ow39 hw), rfl, hnm⟩) (ow38 hw) (ty := (.array .byte)) (by decide) rfl rfl (g := (mkF m 35 #[oR b13, oR b2, .val .null, oR b56a, .val (.int i14)] [vR b22a, vR b13])) rfl rfl (hb hby d25_35)
  have Fw23 := Fld.same W23 ((PF26.other W21 (Or.inr (sn_39_40 hw))).keep K22 nin0)
  have K23 : Keep h0 h23 [b13] := KK22.wr W23 (Or.inl (List.mem_of_getElem? (i := 0) rfl))
  have N23 := Fr.snoc X23 N22 n_b13
  refine own_go (T' := T23) (f' := (mkF m 97 #[oR b13, oR b2, .val .null, oR b56a, .val (.int i14)] [])) (fun _ k => st23 _ (own_e X23 tt 38 1 k rfl)) ?_
  refine own_ret X23 (v := none) (fun _ => rfl) Bs (fun fs hr => X23.returnOut hx Br (hb hby d25_97) hr) ?_ (by decide) (by decide)
  unfold Q25a163
  rw [e23]
  exact ⟨b22a, k22b, us22c, rfl, N23, K23, n_b22a, sz_b22a, Fw23, ((Fw21.keep K22 nin0).other W23 (Or.inr (sn_40_39 hw))), (g22_0.other W23 (oM PE25.lt sz_b22a)), (g22_1.wr W23), g22_2⟩
def Q24a162 (Z : State) (b3 : Addr) (i4 : Int32) (h0 : Heap) (n0 : Nat) (v : Option Value) (h : Heap) (L : List Loc) : Prop := ∃ (b5a : Addr) (k5b : ClassId) (us5c : List Value), v = none ∧ Fr n0 L ∧ Keep h0 h [b3] ∧ n0 ≤ b5a ∧ h0.size ≤ b5a ∧ oF4 Z h b3 (.ref b5a) ∧ oF3 Z h b3 (.int (0 : Int32)) ∧ Arv Z h b5a k5b .byte (i4 - (0 : Int32)) us5c (.int (0 : Int32)) ∧ Exa Z h b5a "[B" ∧ us5c.length = ((i4 - (0 : Int32))).toNatClampNeg
set_option maxRecDepth 65536 in
set_option maxHeartbeats 40000000 in
theorem rm24a162 (l : Launch) (Z : State) (a0 : Array Value) (hw : HW a0 Z) (ws : List Jvm.Cond) (b13 : Addr) (b2 : Addr) (cs : Int32) (b56a : Addr) (i14 : Int32) (k56b : ClassId) (us15a : List Value) (h0 : Heap) (n0 : Nat) (Z0 : n0 ≤ h0.size) (PS0 : Sta Z h0 "java/lang/String" "COMPACT_STRINGS" "Z" (.int cs)) (PE9 : Exa Z h0 b2 "java/lang/StringBuilder") (PF10 : oF0 Z h0 b2 (.ref b56a)) (PF11 : oF1 Z h0 b2 (.int (0 : Int32))) (PF12 : oF2 Z h0 b2 (.int i14)) (PV19 : Arv Z h0 b56a k56b .byte (34 : Int32) us15a (.int (0 : Int32))) (PE25 : Exa Z h0 b13 "java/lang/String") (PF26 : oF4 Z h0 b13 .null) (PF27 : oF3 Z h0 b13 (.int (0 : Int32))) (PP0 : ¬ (cs = (0 : Int32))) (PP3 : ¬ (i14 = (34 : Int32))) (PP4 : ¬ (i14 < (0 : Int32))) (PP5 : ¬ ((i14 - (0 : Int32)) < (0 : Int32))) (PP6 : ¬ ((42 : Int32) < (i14 - (0 : Int32)))) (PP7 : (i14 - (0 : Int32)) < (34 : Int32)) (PP8 : ¬ ((i14 - (0 : Int32)) < (i14 - (0 : Int32)))) (PP9 : ¬ ((34 : Int32) < (i14 - (0 : Int32)))) (ne_b56a_b13 : b56a ≠ b13) (n_b13 : n0 ≤ b13) :
    own_Met l mn28 jdk_42_method_53_code 2 none ws (oRm 4 1 42 65) #[(.ref b13), (.ref b2)] Z h0 (Q24a162 Z b13 i14 h0 n0) := by
  refine own_met (own := "java/lang/String") rfl (plainFor_of_name pn_7) ?_
  intro p e s m below meth c s₁ hx hby hml hZ hown hnm X0 e0 Br Bs
  have N0 := Fr.nil n0
  have tt := own_tt hx hby own_ok24
  show own_Ends p e below s _ _ _ s₁ (mkF m 0 #[oR b13, oR b2] [])
  refine own_go (T' := s₁) (f' := (mkF m 3 #[oR b13, oR b2] [.null, vR b2, vR b13])) (fun _ k => own_e X0 tt 0 3 k rfl) ?_
  obtain ⟨_, T16, Lc16, X16, hQ16, st16⟩ := own_out (X0.specialBack hx (y := mn27) rfl hown (mvT hZ (ow144 hw)) (mvT hZ (ow145 hw)) (mvT hZ (ow146 hw)) (by decide) (backOf (W := 0) (rm25a163 l Z a0 hw [] b13 b2 cs b56a i14 k56b us15a h0 n0 Z0 PS0 PE9 PF10 PF11 PF12 PV19 PE25 PF26 PF27 PP0 PP3 PP4 PP5 PP6 PP7 PP8 PP9 ne_b56a_b13 n_b13) hZ (ow146 hw) (ow31 hw) (by decide) (by decide)) (g := (mkF m 3 #[oR b13, oR b2] [.null, vR b2, vR b13])) rfl (by rw [hml]; rfl) (Steps.refl _) (a := b13) (argsL := [(.ref b2), .null]) (rest := []) (lenOf pd19 rfl) rfl (by show 2 * 0 + _ ≤ _; exact Nat.le_of_eq rfl) (hb hby d24_3) (fun _ _ => ⟨rfl, e0, (by decide : 0 + 1 ≤ _), (by decide : 0 + 42 ≤ _)⟩))
  obtain ⟨b16a, k16b, us16c, rfl, N16q, K16, n_b16a, sg_b16a, g16_0, g16_1, g16_2, g16_3, g16_4⟩ := hQ16
  have N16 := Fr.app N0 N16q
  have sz_b16a := oT (Keep.refl h0 [b13]).1 sg_b16a
  have eK16 : T16.heap = T16.heap := rfl
  have KK16 : Keep h0 T16.heap [b13] := Keep.trans (Keep.refl h0 [b13]) K16 (allS (Or.inl (List.mem_of_getElem? (i := 0) rfl)) all0)
  obtain ⟨_, X16, N16⟩ := own_hide X16 N16
  refine own_go (T' := T16) (f' := (mkF m 6 #[oR b13, oR b2] [])) (fun _ k => st16.trans k) ?_
  refine own_ret X16 (v := none) (fun _ => rfl) Bs (fun fs hr => X16.returnOut hx Br (hb hby d24_6) hr) ?_ (by decide) (by decide)
  unfold Q24a162
  rw [eK16]
  exact ⟨b16a, k16b, us16c, rfl, N16, KK16, n_b16a, sz_b16a, g16_0, g16_1, g16_2, g16_3, g16_4⟩
def Q23a161 (Z : State) (i3 : Int32) (h0 : Heap) (n0 : Nat) (v : Option Value) (h : Heap) (L : List Loc) : Prop := ∃ (b4 : Addr) (b5a : Addr) (k5b : ClassId) (us5c : List Value), v = some (.ref b4) ∧ Fr n0 L ∧ Keep h0 h [] ∧ n0 ≤ b4 ∧ h0.size ≤ b4 ∧ n0 ≤ b5a ∧ h0.size ≤ b5a ∧ b5a ≠ b4 ∧ Exa Z h b4 "java/lang/String" ∧ oF4 Z h b4 (.ref b5a) ∧ oF3 Z h b4 (.int (0 : Int32)) ∧ Arv Z h b5a k5b .byte (i3 - (0 : Int32)) us5c (.int (0 : Int32)) ∧ Exa Z h b5a "[B" ∧ us5c.length = ((i3 - (0 : Int32))).toNatClampNeg
set_option maxRecDepth 65536 in
set_option maxHeartbeats 40000000 in
theorem rm23a161 (l : Launch) (Z : State) (a0 : Array Value) (hw : HW a0 Z) (ws : List Jvm.Cond) (b2 : Addr) (cs : Int32) (b56a : Addr) (i13 : Int32) (k56b : ClassId) (us14a : List Value) (h0 : Heap) (n0 : Nat) (Z0 : n0 ≤ h0.size) (PS0 : Sta Z h0 "java/lang/String" "COMPACT_STRINGS" "Z" (.int cs)) (PE9 : Exa Z h0 b2 "java/lang/StringBuilder") (PF10 : oF0 Z h0 b2 (.ref b56a)) (PF11 : oF1 Z h0 b2 (.int (0 : Int32))) (PF12 : oF2 Z h0 b2 (.int i13)) (PV19 : Arv Z h0 b56a k56b .byte (34 : Int32) us14a (.int (0 : Int32))) (PP0 : ¬ (cs = (0 : Int32))) (PP3 : ¬ (i13 = (34 : Int32))) (PP4 : ¬ (i13 < (0 : Int32))) (PP5 : ¬ ((i13 - (0 : Int32)) < (0 : Int32))) (PP6 : ¬ ((42 : Int32) < (i13 - (0 : Int32)))) (PP7 : (i13 - (0 : Int32)) < (34 : Int32)) (PP8 : ¬ ((i13 - (0 : Int32)) < (i13 - (0 : Int32)))) (PP9 : ¬ ((34 : Int32) < (i13 - (0 : Int32)))) :
    own_Met l mn29 jdk_67_method_42_code 1 (some (.object "java/lang/String")) ws (oRm 5 2 46 79) #[(.ref b2)] Z h0 (Q23a161 Z i13 h0 n0) := by
  refine own_met (own := "java/lang/StringBuilder") rfl (plainFor_of_name pn_8) ?_
  intro p e s m below meth c s₁ hx hby hml hZ hown hnm X0 e0 Br Bs
  have N0 := Fr.nil n0
  have tt := own_tt hx hby own_ok23
  show own_Ends p e below s _ _ _ s₁ (mkF m 0 #[oR b2] [])
  obtain ⟨T15, h15, X15, e15, E15, A15, D15, -, st15⟩ := newO X0 hx hZ hown (ow139 hw) (ow38 hw) (ow31 hw) e0 (g := (mkF m 0 #[oR b2] [])) rfl (hb hby d23_0) (by decide) (by decide)
  obtain ⟨b15, g_b15⟩ : ∃ z, z = h0.size := ⟨_, rfl⟩
  have sg_b15 : h0.size ≤ b15 := Nat.le_of_eq g_b15.symm
  rw [← g_b15] at A15 D15 st15
  have n_b15 := oT Z0 sg_b15
  have sz_b15 := oT (Keep.refl h0 []).1 sg_b15
  have K15 : Keep h0 h15 [] := (Keep.refl h0 []).ext E15
  have F_value_b15 : oF4 Z h15 b15 .null := D15 (Or.inr (ow39 hw)) (ty := (.array .byte)) (by decide)
  have F_coder_b15 : oF3 Z h15 b15 (.int (0 : Int32)) := D15 (Or.inr (ow40 hw)) (ty := .byte) (by decide)
  refine own_go (T' := T15) (f' := (mkF m 5 #[oR b2] [vR b2, vR b15, vR b15])) (fun _ k => st15 _ (own_e X15 tt 3 2 k rfl)) ?_
  obtain ⟨_, T16, Lc16, X16, hQ16, st16⟩ := own_out (X15.specialBack hx (y := mn28) rfl hown (mvT hZ (ow140 hw)) (mvT hZ (ow141 hw)) (mvT hZ (ow143 hw)) (by decide) (backOf (W := 1) (rm24a162 l Z a0 hw [] b15 b2 cs b56a i13 k56b us14a h15 n0 (oT Z0 E15.1) (PS0.ext E15) (PE9.ext E15) (PF10.ext E15) (PF11.ext E15) (PF12.ext E15) (PV19.ext E15) A15 F_value_b15 F_coder_b15 PP0 PP3 PP4 PP5 PP6 PP7 PP8 PP9 (oL PV19.lt sz_b15) n_b15) hZ (ow143 hw) (ow31 hw) (by decide) (by decide)) (g := (mkF m 5 #[oR b2] [vR b2, vR b15, vR b15])) rfl (by rw [hml]; rfl) (Steps.refl _) (a := b15) (argsL := [(.ref b2)]) (rest := [(.ref b15)]) (lenOf pd25 rfl) rfl (by show 2 * 0 + _ ≤ _; exact Nat.le_of_eq rfl) (hb hby d23_5) (fun _ _ => ⟨rfl, e15, (by decide : 1 + 1 ≤ _), (by decide : 4 + 42 ≤ _)⟩))
  obtain ⟨b16a, k16b, us16c, rfl, N16q, K16, n_b16a, sg_b16a, g16_0, g16_1, g16_2, g16_3, g16_4⟩ := hQ16
  have N16 := Fr.app N0 N16q
  have sz_b16a := oT K15.1 sg_b16a
  have u17 : b15 < h15.size := A15.lt
  have m18 : h0.size ≤ h15.size := (oT (Nat.le_refl _) E15.1)
  have eK16 : T16.heap = T16.heap := rfl
  have KK16 : Keep h0 T16.heap [] := Keep.trans K15 K16 (allS (Or.inr sz_b15) all0)
  obtain ⟨_, X16, N16⟩ := own_hide X16 N16
  refine own_go (T' := T16) (f' := (mkF m 8 #[oR b2] [vR b15])) (fun _ k => st16.trans k) ?_
  refine own_ret X16 (v := some (.ref b15)) (oN Br) Bs (fun fs hr => own_retA X16 hx Br rfl rfl (hb hby d23_8) hr) ?_ (by decide) (by decide)
  unfold Q23a161
  rw [eK16]
  exact ⟨b15, b16a, k16b, us16c, rfl, N16, KK16, n_b15, sz_b15, n_b16a, sz_b16a, (oM u17 sg_b16a), (A15.keep K16), g16_0, g16_1, g16_2, g16_3, g16_4⟩
def own_t3 (pc : Nat) : Option (Instr × Nat) := bif Nat.ble pc 84 then (bif Nat.ble pc 4 then (bif Nat.ble pc 0 then (bif Nat.beq pc 0 then some (.iload_n 0, 1) else none) else (bif Nat.ble pc 1 then (bif Nat.beq pc 1 then some (.ifCond .lt 8, 3) else none) else (bif Nat.beq pc 4 then some (.iload_n 0, 1) else none))) else (bif Nat.ble pc 5 then (bif Nat.beq pc 5 then some (.iload_n 1, 1) else none) else (bif Nat.ble pc 6 then (bif Nat.beq pc 6 then some (.if_icmp .le 75, 3) else none) else (bif Nat.beq pc 84 then some (.dup, 1) else none)))) else (bif Nat.ble pc 87 then (bif Nat.ble pc 85 then (bif Nat.beq pc 85 then some (.iload_n 0, 1) else none) else (bif Nat.ble pc 86 then (bif Nat.beq pc 86 then some (.iload_n 1, 1) else none) else (bif Nat.beq pc 87 then some (.i2l, 1) else none))) else (bif Nat.ble pc 91 then (bif Nat.beq pc 91 then some (.dup, 1) else none) else (bif Nat.ble pc 100 then (bif Nat.beq pc 100 then some (.iload_n 0, 1) else none) else (bif Nat.beq pc 109 then some (.iload_n 1, 1) else none))))
theorem own_ok3 : ∀ pc q, own_fetch 120 own_t3 pc = some q → decode prog_5_method_6_code pc = .ok q := own_tab (by decide +kernel)
theorem d3_1 : decode prog_5_method_6_code 1 = .ok (.ifCond .lt 8, 3) := by decide +kernel
theorem d3_6 : decode prog_5_method_6_code 6 = .ok (.if_icmp .le 75, 3) := by decide +kernel
theorem d3_81 : decode prog_5_method_6_code 81 = .ok (.new 35, 3) := by decide +kernel
theorem d3_88 : decode prog_5_method_6_code 88 = .ok (.new 13, 3) := by decide +kernel
theorem d3_92 : decode prog_5_method_6_code 92 = .ok (.invokespecial 15, 3) := by decide +kernel
theorem d3_95 : decode prog_5_method_6_code 95 = .ok (.ldc 65, 2) := by decide +kernel
theorem d3_97 : decode prog_5_method_6_code 97 = .ok (.invokevirtual 18, 3) := by decide +kernel
theorem d3_101 : decode prog_5_method_6_code 101 = .ok (.invokevirtual 22, 3) := by decide +kernel
theorem d3_104 : decode prog_5_method_6_code 104 = .ok (.ldc 67, 2) := by decide +kernel
theorem d3_106 : decode prog_5_method_6_code 106 = .ok (.invokevirtual 18, 3) := by decide +kernel
theorem d3_110 : decode prog_5_method_6_code 110 = .ok (.invokevirtual 22, 3) := by decide +kernel
theorem d3_113 : decode prog_5_method_6_code 113 = .ok (.invokevirtual 27, 3) := by decide +kernel
theorem d3_116 : decode prog_5_method_6_code 116 = .ok (.invokespecial 41, 3) := by decide +kernel
theorem d3_119 : decode prog_5_method_6_code 119 = .ok (.areturn, 1) := by decide +kernel
theorem pn_1 : plainName "com/example/tally_of_calls/tallyofcalls/Counts" = true := by first | (simp [plainName, overriddenIn]; done) | decide +kernel
theorem ef_rm3g (m : MethodId) (y0 : Int32) (y1 : Int32) : entryFrame m #[(.int y0), (.int y1)] 3 = mkF m 0 #[.val (.int y0), .val (.int y1), .unset] [] := by first | (simp [entryFrame, mkF, argsToLocals, Value.category]; done) | rfl
def Q3g (Z : State) (B : State) (y0 : Int32) (y1 : Int32) (cs : Int32) (wd : Addr) (kd : ClassId) (vd : List Value) (wt : Addr) (kt : ClassId) (vt : List Value) (h0 : Heap) (n0 : Nat) (v : Option Value) (h : Heap) (vm : Vm) (L : List Loc) : Prop := ∃ (c a b : Addr) (k : ClassId) (us : List Value), v = some (.ref c) ∧ Fr n0 L ∧ Keep h0 h [] ∧ n0 ≤ c ∧ h0.size ≤ c ∧ Exa Z h c "com/example/tally_of_calls/tallyofcalls/Count" ∧ oF5 Z h c (.int y0) ∧ oF6 Z h c (.long (y1.toInt64)) ∧ oF7 Z h c (.ref a) ∧ Exa Z h a "java/lang/String" ∧ oF3 Z h a (.int (0 : Int32)) ∧ oF4 Z h a (.ref b) ∧ Arv Z h b k .byte ((((17 : Int32) + (own_dg y0)) + (5 : Int32)) + (own_dg y1)) us (.int (0 : Int32))
set_option maxRecDepth 65536 in
set_option maxHeartbeats 40000000 in
theorem rm3g (l : Launch) (Z : State) (a0 : Array Value) (hw : HW a0 Z) (ws : List Jvm.Cond) (B : State) (y0 : Int32) (y1 : Int32) (cs : Int32) (wd : Addr) (kd : ClassId) (vd : List Value) (wt : Addr) (kt : ClassId) (vt : List Value) (h0 : Heap) (n0 : Nat) (Z0 : n0 ≤ h0.size) (S_cs : Sta Z h0 "java/lang/String" "COMPACT_STRINGS" "Z" (.int cs)) (hcs : ¬ (cs = (0 : Int32))) (S_do : Sta Z h0 "java/lang/Integer" "DigitOnes" "[B" (.ref wd)) (V_do : Arv Z h0 wd kd .byte (100 : Int32) vd (.int (0 : Int32))) (S_dt : Sta Z h0 "java/lang/Integer" "DigitTens" "[B" (.ref wt)) (V_dt : Arv Z h0 wt kt .byte (100 : Int32) vt (.int (0 : Int32))) (hst : own_SameSt Z) (hd10 : own_D10 vd) (I0 : IB Z B.vm []) (hk0 : ∀ (b : Addr) (cl : Cell), Z.heap[b]? = some cl → h0[b]? = some cl) (hcw : Jvm.Lit.compactW.before a0 Z = true) (hcA : Jvm.Lit.constHeld Z "com/example/tally_of_calls/tallyofcalls/Counts" 65) (hcB : Jvm.Lit.constHeld Z "com/example/tally_of_calls/tallyofcalls/Counts" 67) (hn0 : n0 = h0.size) (hlo : ¬ y0 < (0 : Int32)) (hle : ¬ y1 < y0) :
    MetFree l mn31 (head1 (Jvm.Cond.code mn31 prog_5_method_6_code 3 (some (.object "com/example/tally_of_calls/tallyofcalls/Count")) :: ws) ({ frames := 6, cells := 11, slots := 269, locals := 111 } : Room)) (fun a U => a = #[(.int y0), (.int y1)] ∧ Z.Warmed39 U.vm ∧ B.WarmedH U.vm ∧ U.heap = h0) (fun _ _ _ _ _ => True) (fun _ U o U' => ∃ v L, o = .returned v ∧ Q3g Z B y0 y1 cs wd kd vd wt kt vt h0 n0 v U'.heap U'.vm L ∧ ReturnedEndW U o U' L ({ frames := 6, cells := 11, slots := 269, locals := 111 } : Room).cells ({ frames := 6, cells := 11, slots := 269, locals := 111 } : Room).slots) := by
  refine MetFree.of_bodySF (plainFor_of_name pn_1) hisR ?_
  intro p e s m args below meth c s₁ Bd hml0 hP hK
  obtain ⟨rfl, hZ, hB, hh⟩ := hP
  have hx := Bd.exec
  have hby := Bd.bytes
  have hml : c.maxLocals = 3 := hml0
  have hown : s.vm.findClass "com/example/tally_of_calls/tallyofcalls/Counts" = some m.cls := findClass_of_methodNamed Bd.named
  have hnm := (name_of_methodNamed Bd.named Bd.method).1
  have X0 : Stand p l e ({ frames := 6, cells := 11, slots := 269, locals := 111 } : Room) (s.setVm s.vm) m #[(.int y0), (.int y1)] below meth c s₁ [] 0 0 := Stand.of_body Bd
  have e0 : s₁.heap = h0 := by rw [← hh, Bd.state]; rfl
  have N0 := Fr.nil n0
  have tt := own_tt hx hby own_ok3
  have hS : s.Since s.vm h0.size := (State.WarmedH.refl s).since _
  show own_EndsW p e below s (Q3g Z B y0 y1 cs wd kd vd wt kt vt h0 n0) _ _ s₁ _
  rw [ef_rm3g m y0 y1]
  have I1 := own_ib I0 hB
  have hkeep : ∀ (b : Addr) (cl : Cell), Z.heap[b]? = some cl → s.heap[b]? = some cl := by rw [hh]; exact hk0
  refine own_goW (T' := s₁) (f' := (mkF m 1 #[.val (.int y0), .val (.int y1), oU] [(.int y0)])) (fun _ k => own_e X0 tt 0 1 k rfl) ?_
  refine own_goW (T' := s₁) (f' := (mkF m 6 #[.val (.int y0), .val (.int y1), oU] [(.int y1), (.int y0)])) (fun _ k => XS.ifNo X0.here hx rfl (hb hby d3_1) rfl ((if0 _ _).trans (flt hlo).1) (own_e X0 tt 4 2 k rfl)) ?_
  refine own_goW (T' := s₁) (f' := (mkF m 81 #[.val (.int y0), .val (.int y1), oU] [])) (fun _ k => XS.icmpYes X0.here hx rfl (pc0 := 6) (pc' := 81) rfl (hb hby d3_6) rfl (flt hle).2.2.2 (by decide) (by decide) k) ?_
  obtain ⟨T1, h1, X1, e1, E1, A1, D1, -, st1⟩ := newO X0 hx hZ hown (ow12 hw) (ow13 hw) (ow14 hw) e0 (g := (mkF m 81 #[.val (.int y0), .val (.int y1), oU] [])) rfl (hb hby d3_81) (by decide) (by decide)
  obtain ⟨b1, g_b1⟩ : ∃ z, z = h0.size := ⟨_, rfl⟩
  have sg_b1 : h0.size ≤ b1 := Nat.le_of_eq g_b1.symm
  rw [← g_b1] at A1 D1 st1
  have n_b1 := oT Z0 sg_b1
  have sz_b1 := oT (Keep.refl h0 []).1 sg_b1
  have K1 : Keep h0 h1 [] := (Keep.refl h0 []).ext E1
  have F_min_b1 : oF5 Z h1 b1 (.int (0 : Int32)) := D1 (Or.inr (ow176 hw)) (ty := .int) (by decide)
  have F_max_b1 : oF6 Z h1 b1 (.long (0 : Int64)) := D1 (Or.inr (ow178 hw)) (ty := .long) (by decide)
  have F_phrase_b1 : oF7 Z h1 b1 .null := D1 (Or.inr (ow180 hw)) (ty := (.object "java/lang/String")) (by decide)
  refine own_goW (T' := T1) (f' := (mkF m 88 #[.val (.int y0), .val (.int y1), oU] [(.long (y1.toInt64)), (.int y0), vR b1, vR b1])) (fun _ k => st1 _ (own_e X1 tt 84 4 k rfl)) ?_
  obtain ⟨T2, h2, X2, e2, E2, A2, D2, -, st2⟩ := newO X1 hx hZ hown (ow15 hw) (ow16 hw) (ow17 hw) e1 (g := (mkF m 88 #[.val (.int y0), .val (.int y1), oU] [(.long (y1.toInt64)), (.int y0), vR b1, vR b1])) rfl (hb hby d3_88) (by decide) (by decide)
  obtain ⟨b2, g_b2⟩ : ∃ z, z = h1.size := ⟨_, rfl⟩
  have sg_b2 : h1.size ≤ b2 := Nat.le_of_eq g_b2.symm
  rw [← g_b2] at A2 D2 st2
  have n_b2 := oT (oT Z0 E1.1) sg_b2
  have sz_b2 := oT K1.1 sg_b2
  have u3 : b1 < h1.size := A1.lt
  have m4 : h0.size ≤ h1.size := (oT (Nat.le_refl _) E1.1)
  have K2 : Keep h0 h2 [] := K1.ext E2
  have F_value_b2 : oF0 Z h2 b2 .null := D2 (Or.inl (ow34 hw)) (ty := (.array .byte)) (by decide)
  have F_coder_b2 : oF1 Z h2 b2 (.int (0 : Int32)) := D2 (Or.inl (ow36 hw)) (ty := .byte) (by decide)
  have F_count_b2 : oF2 Z h2 b2 (.int (0 : Int32)) := D2 (Or.inl (ow67 hw)) (ty := .int) (by decide)
  refine own_goW (T' := T2) (f' := (mkF m 92 #[.val (.int y0), .val (.int y1), oU] [vR b2, vR b2, (.long (y1.toInt64)), (.int y0), vR b1, vR b1])) (fun _ k => st2 _ (own_e X2 tt 91 1 k rfl)) ?_
  obtain ⟨_, T11, Lc11, X11, hQ11, st11⟩ := own_out (X2.specialBack hx (y := mn5) rfl hown (mvT hZ (ow18 hw)) (mvT hZ (ow19 hw)) (mvT hZ (ow20 hw)) (by decide) (backOf (W := 6) (rm4a1 l Z a0 hw [] b2 cs h2 n0 (oT (oT Z0 E1.1) E2.1) ((S_cs.ext E1).ext E2) A2 F_value_b2 F_coder_b2 F_count_b2 hcs n_b2) hZ (ow20 hw) (ow17 hw) (by decide) (by decide)) (g := (mkF m 92 #[.val (.int y0), .val (.int y1), oU] [vR b2, vR b2, (.long (y1.toInt64)), (.int y0), vR b1, vR b1])) rfl (by rw [hml]; rfl) (Steps.refl _) (a := b2) (argsL := []) (rest := [(.ref b2), (.long (y1.toInt64)), (.int y0), (.ref b1), (.ref b1)]) (lenOf pd5 rfl) rfl (by show 2 * 0 + _ ≤ _; exact Nat.le_of_eq rfl) (hb hby d3_92) (fun _ _ => ⟨rfl, e2, (by decide : 2 + 1 ≤ _), (by decide : 7 + 16 ≤ _)⟩))
  obtain ⟨b11a, k11b, rfl, N11q, K11, n_b11a, sg_b11a, g11_0, g11_1, g11_2, g11_3, g11_4⟩ := hQ11
  have N11 := Fr.app N0 N11q
  have sz_b11a := oT K2.1 sg_b11a
  have u12 : b2 < h2.size := A2.lt
  have m13 : h1.size ≤ h2.size := (oT (Nat.le_refl _) E2.1)
  have eK11 : T11.heap = T11.heap := rfl
  have KK11 : Keep h0 T11.heap [] := Keep.trans K2 K11 (allS (Or.inr sz_b2) all0)
  obtain ⟨_, X11, N11⟩ := own_hide X11 N11
  refine own_goW (T' := T11) (f' := (mkF m 95 #[.val (.int y0), .val (.int y1), oU] [vR b2, (.long (y1.toInt64)), (.int y0), vR b1, vR b1])) (fun _ k => st11.trans k) ?_
  obtain ⟨a14, T14, h14, k1_14, b14, kc14, X14, e14, E14, hS14, hk14, -, -, gE14, gC14, gV14, gA14, -, -, IB14, Lt14, st14⟩ := ldcSVL (Z := Z) (s := (s.setVm s.vm)) (vm0 := s.vm) X11 hx hZ hown (ow37 hw) (own_wS hw) eK11 ((State.WarmedH.refl (s.setVm s.vm)).since 0) (Nat.zero_le _) (by show Fr s.heap.size _; rw [hh, ← hn0]; exact N11) hkeep I1 (by decide) hcA hcw (vs := own_lit0) (z := (17 : Int32)) own_lit0_ok (by decide) own_lit0_len (g := (mkF m 95 #[.val (.int y0), .val (.int y1), oU] [vR b2, (.long (y1.toInt64)), (.int y0), vR b1, vR b1])) rfl (hb hby d3_95) (n := 68) (by decide) (by decide) (by decide) (by decide)
  have hM14 := own_sm hS14 hk14
  obtain ⟨X14, hS, hZ, hown⟩ := rebS hS (oT (oT (oT (Nat.le_refl _) E1.1) E2.1) K11.1) X14 hM14 E14.1 hZ hown
  have K14 : Keep h0 h14 [] := KK11.ext E14
  refine own_goW (T' := T14) (f' := (mkF m 97 #[.val (.int y0), .val (.int y1), oU] [vR a14, vR b2, (.long (y1.toInt64)), (.int y0), vR b1, vR b1])) (fun _ k => st14 _ k) ?_
  have q54 : a14 ≠ b2 := (own_exa_ne gE14 ((A2.keep K11).ext E14) (by decide))
  have q55 : b14 ≠ b2 := (Ne.symm (Exa.neArv ((A2.keep K11).ext E14) gA14 (ow16 hw)))
  obtain ⟨cq56, kq56, q56a, q56b, q56c⟩ := isOf hZ e14 ((A2.keep K11).ext E14)
  obtain ⟨_, T56, Lc56, X56, hQ56, st56⟩ := own_out (X14.virtualBack hx (y := mn16) (z := mn16) hown (mvT hZ (ow43 hw)) (mvT hZ (ow44 hw)) (notFace_of_selects (args := #[]) (mvT hZ (ow46 hw))) (mvT hZ (ow46 hw)) (mvT hZ (ow45 hw)) (by decide) (backOf (W := 5) (rm7a3 l Z a0 hw [] b2 a14 cs b11a k11b b14 kc14 h14 n0 (oT (oT (oT (oT Z0 E1.1) E2.1) K11.1) E14.1) ((own_sta_keep ((S_cs.ext E1).ext E2) K11 (own_wsE A2 own_ws0)).ext E14) ((A2.keep K11).ext E14) (g11_0.ext E14) (g11_1.ext E14) (g11_2.ext E14) (g11_3.ext E14) gE14 gC14 gV14 gA14 hcs q54 q55 n_b2) hZ (ow47 hw) (ow17 hw) (by decide) (by decide)) q56a q56c (g := (mkF m 97 #[.val (.int y0), .val (.int y1), oU] [vR a14, vR b2, (.long (y1.toInt64)), (.int y0), vR b1, vR b1])) rfl (by rw [hml]; rfl) (Steps.refl _) (argsL := [(.ref a14)]) (rest := [(.long (y1.toInt64)), (.int y0), (.ref b1), (.ref b1)]) (lenOf pd23 rfl) rfl (by show 2 * 0 + _ ≤ _; exact Nat.le_of_eq rfl) (hb hby d3_97) (fun _ _ => ⟨rfl, e14, (by decide : 5 + 1 ≤ _), (by decide : 95 + 34 ≤ _)⟩))
  obtain ⟨b56a, k56b, rfl, N56q, K56, n_b56a, sg_b56a, g56_0, g56_1, g56_2, g56_3, g56_4⟩ := hQ56
  have N56 := Fr.app N11 N56q
  have sz_b56a := oT K14.1 sg_b56a
  have u57 := (oW g11_3.lt E14.1)
  have m58 : h2.size ≤ h14.size := (oT (oT (Nat.le_refl _) K11.1) E14.1)
  have eK56 : T56.heap = T56.heap := rfl
  have KK56 : Keep h0 T56.heap [] := Keep.trans K14 K56 (allS (Or.inr sz_b2) all0)
  obtain ⟨_, X56, N56⟩ := own_hide X56 N56
  refine own_goW (T' := T56) (f' := (mkF m 101 #[.val (.int y0), .val (.int y1), oU] [(.int y0), vR b2, (.long (y1.toInt64)), (.int y0), vR b1, vR b1])) (fun _ k => st56.trans (own_e X56 tt 100 1 k rfl)) ?_
  have e65 : ((0 : Int32)).toInt = 0 := rfl
  have e66 := mt own_ltI.mpr hlo
  have e67 := mt own_ltI.mpr hle
  have e68 : ((17 : Int32)).toInt = 17 := rfl
  have e69 := own_dgb y0
  have e70 : ((17 : Int32) + (own_dg y0)).toInt = ((17 : Int32)).toInt + ((own_dg y0)).toInt := own_addI (by omega) (by omega)
  have e71 : ((34 : Int32)).toInt = 34 := rfl
  have e72 : (((17 : Int32) + (own_dg y0)) - (34 : Int32)).toInt = (((17 : Int32) + (own_dg y0))).toInt - ((34 : Int32)).toInt := own_subI (by omega) (by omega)
  have hd64 : ¬ ((0 : Int32) < (((17 : Int32) + (own_dg y0)) - (34 : Int32))) := by exact mt own_ltI.mp (by omega)
  have e85 := mt own_ltI.mpr hd64
  have hd84 : ¬ (((17 : Int32) + (own_dg y0)) < (own_dg y0)) := by exact mt own_ltI.mp (by omega)
  have e93 := mt own_ltI.mpr hd84
  have hd92 : ¬ ((34 : Int32) < ((17 : Int32) + (own_dg y0))) := by exact mt own_ltI.mp (by omega)
  have q6 := oL u12 (oT m58 sg_b56a)
  have G7 := (own_sta_keep ((own_sta_keep ((S_cs.ext E1).ext E2) K11 (own_wsE A2 own_ws0)).ext E14) K56 (own_wsE ((A2.keep K11).ext E14) own_ws0))
  have G8 := (own_sta_keep ((own_sta_keep ((S_do.ext E1).ext E2) K11 (own_wsE A2 own_ws0)).ext E14) K56 (own_wsE ((A2.keep K11).ext E14) own_ws0))
  have G9 := (own_sta_keep ((own_sta_keep ((S_dt.ext E1).ext E2) K11 (own_wsE A2 own_ws0)).ext E14) K56 (own_wsE ((A2.keep K11).ext E14) own_ws0))
  obtain ⟨cq15, kq15, q15a, q15b, q15c⟩ := isOf hZ eK56 (((A2.keep K11).ext E14).keep K56)
  obtain ⟨_, T15, Lc15, X15, hQ15, st15⟩ := own_out (X56.virtualBack hx (y := mn20) (z := mn20) hown (mvT hZ (ow111 hw)) (mvT hZ (ow112 hw)) (notFace_of_selects (args := #[]) (mvT hZ (ow114 hw))) (mvT hZ (ow114 hw)) (mvT hZ (ow113 hw)) (by decide) (backOf (W := 5) (rm18a25 l Z a0 hw [] b2 y0 cs wd kd vd wt kt vt b56a k56b T56.heap n0 (oT (oT (oT (oT (oT Z0 E1.1) E2.1) K11.1) E14.1) K56.1) G7 G8 (((((V_do.ext E1).ext E2).keep K11 (ninS (oL V_do.lt sz_b2) nin0)).ext E14).keep K56 (ninS (oL V_do.lt sz_b2) nin0)) G9 (((((V_dt.ext E1).ext E2).keep K11 (ninS (oL V_dt.lt sz_b2) nin0)).ext E14).keep K56 (ninS (oL V_dt.lt sz_b2) nin0)) (((A2.keep K11).ext E14).keep K56) g56_0 g56_1 g56_2 g56_3 hcs hlo hd64 hd84 hd92 (oM V_do.lt sz_b56a) (oM V_dt.lt sz_b56a) q6 (Ne.symm q6) n_b2 n_b56a hst) hZ (ow115 hw) (ow17 hw) (by decide) (by decide)) q15a q15c (g := (mkF m 101 #[.val (.int y0), .val (.int y1), oU] [(.int y0), vR b2, (.long (y1.toInt64)), (.int y0), vR b1, vR b1])) rfl (by rw [hml]; rfl) (Steps.refl _) (argsL := [(.int y0)]) (rest := [(.long (y1.toInt64)), (.int y0), (.ref b1), (.ref b1)]) (lenOf pd10 rfl) rfl (by show 2 * 0 + _ ≤ _; exact Nat.le_of_eq rfl) (hb hby d3_101) (fun _ _ => ⟨rfl, eK56, (by decide : 6 + 0 ≤ _), (by decide : 129 + 0 ≤ _)⟩))
  obtain ⟨us15a, rfl, N15q, K15, g15_0, g15_1, g15_2, g15_3, g15_4⟩ := hQ15
  have N15 := Fr.app N56 N15q
  have eK15 : T15.heap = T15.heap := rfl
  have KK15 : Keep h0 T15.heap [] := Keep.trans KK56 K15 (allS (Or.inr sz_b2) (allS (Or.inr sz_b56a) all0))
  obtain ⟨_, X15, N15⟩ := own_hide X15 N15
  refine own_goW (T' := T15) (f' := (mkF m 104 #[.val (.int y0), .val (.int y1), oU] [vR b2, (.long (y1.toInt64)), (.int y0), vR b1, vR b1])) (fun _ k => st15.trans k) ?_
  obtain ⟨a16, T16, h16, k1_16, b16, kc16, X16, e16, E16, hS16, hk16, -, -, gE16, gC16, gV16, gA16, -, -, IB16, Lt16, st16⟩ := ldcSVL (Z := Z) (s := (s.setVm T14.vm)) (vm0 := T14.vm) X15 hx hZ hown (ow133 hw) (own_wS hw) eK15 ((State.WarmedH.refl (s.setVm T14.vm)).since 0) (Nat.zero_le _) (by show Fr s.heap.size _; rw [hh, ← hn0]; exact N15) hkeep IB14 (by decide) hcB hcw (vs := own_lit1) (z := (5 : Int32)) own_lit1_ok (by decide) own_lit1_len (g := (mkF m 104 #[.val (.int y0), .val (.int y1), oU] [vR b2, (.long (y1.toInt64)), (.int y0), vR b1, vR b1])) rfl (hb hby d3_104) (n := 20) (by decide) (by decide) (by decide) (by decide)
  have hM16 := own_sm hS16 hk16
  obtain ⟨X16, hS, hZ, hown⟩ := rebS hS (oT (oT (Nat.le_refl _) K56.1) K15.1) X16 hM16 E16.1 hZ hown
  have Lt17 := Lit.stays Lt14 hM16.1
  have K16 : Keep h0 h16 [] := KK15.ext E16
  refine own_goW (T' := T16) (f' := (mkF m 106 #[.val (.int y0), .val (.int y1), oU] [vR a16, vR b2, (.long (y1.toInt64)), (.int y0), vR b1, vR b1])) (fun _ k => st16 _ k) ?_
  have e18 := mt own_ltI.mpr hd92
  have e19 : ((5 : Int32)).toInt = 5 := rfl
  have e20 : (((17 : Int32) + (own_dg y0)) + (5 : Int32)).toInt = (((17 : Int32) + (own_dg y0))).toInt + ((5 : Int32)).toInt := own_addI (by omega) (by omega)
  have e21 : ((((17 : Int32) + (own_dg y0)) + (5 : Int32)) - (34 : Int32)).toInt = ((((17 : Int32) + (own_dg y0)) + (5 : Int32))).toInt - ((34 : Int32)).toInt := own_subI (by omega) (by omega)
  have hd22 : ¬ ((0 : Int32) < ((((17 : Int32) + (own_dg y0)) + (5 : Int32)) - (34 : Int32))) := by exact mt own_ltI.mp (by omega)
  have e23 := mt own_ltI.mpr hd22
  have e24 : ((29 : Int32)).toInt = 29 := rfl
  have e25 : ((((17 : Int32) + (own_dg y0)) <<< ((0 : Int32) &&& 31))).toInt = (((17 : Int32) + (own_dg y0))).toInt := congrArg Int32.toInt (own_shl0 _)
  have hd26 : ¬ ((29 : Int32) < (((17 : Int32) + (own_dg y0)) <<< ((0 : Int32) &&& 31))) := by exact mt own_ltI.mp (by omega)
  have e27 := mt own_ltI.mpr hd26
  have hd28 : ¬ ((((17 : Int32) + (own_dg y0)) <<< ((0 : Int32) &&& 31)) < (0 : Int32)) := by exact mt own_ltI.mp (by omega)
  have Zs29 : n0 ≤ h16.size := (oT (oT (oT (oT (oT (oT (oT Z0 E1.1) E2.1) K11.1) E14.1) K56.1) K15.1) E16.1)
  obtain ⟨cq30, kq30, q30a, q30b, q30c⟩ := isOf hZ e16 (((((A2.keep K11).ext E14).keep K56).keep K15).ext E16)
  obtain ⟨_, T30, Lc30, X30, hQ30, st30⟩ := own_out (X16.virtualBack hx (y := mn16) (z := mn16) hown (mvT hZ (ow43 hw)) (mvT hZ (ow44 hw)) (notFace_of_selects (args := #[]) (mvT hZ (ow46 hw))) (mvT hZ (ow46 hw)) (mvT hZ (ow45 hw)) (by decide) (backOf (W := 5) (rm7a40 l Z a0 hw [] b2 a16 cs b56a ((17 : Int32) + (own_dg y0)) k56b us15a b16 kc16 h16 n0 Zs29 ((own_sta_keep G7 K15 (own_wsE (((A2.keep K11).ext E14).keep K56) (own_wsV g56_3 own_ws0))).ext E16) (((((A2.keep K11).ext E14).keep K56).keep K15).ext E16) (g15_0.ext E16) (g15_1.ext E16) (g15_2.ext E16) (g15_3.ext E16) gE16 gC16 gV16 gA16 hcs hd22 hd26 hd28 q6 (Ne.symm q6) n_b2 n_b56a g15_4) hZ (ow47 hw) (ow17 hw) (by decide) (by decide)) q30a q30c (g := (mkF m 106 #[.val (.int y0), .val (.int y1), oU] [vR a16, vR b2, (.long (y1.toInt64)), (.int y0), vR b1, vR b1])) rfl (by rw [hml]; rfl) (Steps.refl _) (argsL := [(.ref a16)]) (rest := [(.long (y1.toInt64)), (.int y0), (.ref b1), (.ref b1)]) (lenOf pd23 rfl) rfl (by show 2 * 0 + _ ≤ _; exact Nat.le_of_eq rfl) (hb hby d3_106) (fun _ _ => ⟨rfl, e16, (by decide : 8 + 0 ≤ _), (by decide : 153 + 0 ≤ _)⟩))
  obtain ⟨us30a, rfl, N30q, K30, g30_0, g30_1, g30_2, g30_3, g30_4⟩ := hQ30
  have N30 := Fr.app N15 N30q
  have eK30 : T30.heap = T30.heap := rfl
  have KK30 : Keep h0 T30.heap [] := Keep.trans K16 K30 (allS (Or.inr sz_b2) (allS (Or.inr sz_b56a) all0))
  obtain ⟨_, X30, N30⟩ := own_hide X30 N30
  refine own_goW (T' := T30) (f' := (mkF m 110 #[.val (.int y0), .val (.int y1), oU] [(.int y1), vR b2, (.long (y1.toInt64)), (.int y0), vR b1, vR b1])) (fun _ k => st30.trans (own_e X30 tt 109 1 k rfl)) ?_
  have e31 := mt own_ltI.mpr hd28
  have hd32 : ¬ (y1 < (0 : Int32)) := by exact mt own_ltI.mp (by omega)
  by_cases hc33 : (0 : Int32) < (((((17 : Int32) + (own_dg y0)) + (5 : Int32)) + (own_dg y1)) - (34 : Int32))
  · have e34 := mt own_ltI.mpr hd32
    have e35 := own_dgb y1
    have e36 : ((((17 : Int32) + (own_dg y0)) + (5 : Int32)) + (own_dg y1)).toInt = ((((17 : Int32) + (own_dg y0)) + (5 : Int32))).toInt + ((own_dg y1)).toInt := own_addI (by omega) (by omega)
    have e37 : (((((17 : Int32) + (own_dg y0)) + (5 : Int32)) + (own_dg y1)) - (34 : Int32)).toInt = (((((17 : Int32) + (own_dg y0)) + (5 : Int32)) + (own_dg y1))).toInt - ((34 : Int32)).toInt := own_subI (by omega) (by omega)
    have e38 := own_ltI.mp hc33
    have e40 : ((((((17 : Int32) + (own_dg y0)) + (5 : Int32)) + (own_dg y1)) <<< ((0 : Int32) &&& 31))).toInt = (((((17 : Int32) + (own_dg y0)) + (5 : Int32)) + (own_dg y1))).toInt := congrArg Int32.toInt (own_shl0 _)
    have e41 : ((((((17 : Int32) + (own_dg y0)) + (5 : Int32)) + (own_dg y1)) <<< ((0 : Int32) &&& 31)) - (34 : Int32)).toInt = ((((((17 : Int32) + (own_dg y0)) + (5 : Int32)) + (own_dg y1)) <<< ((0 : Int32) &&& 31))).toInt - ((34 : Int32)).toInt := own_subI (by omega) (by omega)
    have e42 : ((36 : Int32)).toInt = 36 := rfl
    have hd43 : ((((((17 : Int32) + (own_dg y0)) + (5 : Int32)) + (own_dg y1)) <<< ((0 : Int32) &&& 31)) - (34 : Int32)) < (36 : Int32) := by exact own_ltI.mpr (by omega)
    have e44 := own_ltI.mp hd43
    have hd45 : ¬ (((((17 : Int32) + (own_dg y0)) + (5 : Int32)) + (own_dg y1)) < (own_dg y1)) := by exact mt own_ltI.mp (by omega)
    have e46 := mt own_ltI.mpr hd45
    have e47 : ((70 : Int32)).toInt = 70 := rfl
    have hd48 : ¬ ((70 : Int32) < ((((17 : Int32) + (own_dg y0)) + (5 : Int32)) + (own_dg y1))) := by exact mt own_ltI.mp (by omega)
    have G49 := (own_sta_keep ((own_sta_keep G7 K15 (own_wsE (((A2.keep K11).ext E14).keep K56) (own_wsV g56_3 own_ws0))).ext E16) K30 (own_wsE (((((A2.keep K11).ext E14).keep K56).keep K15).ext E16) (own_wsV (g15_3.ext E16) own_ws0)))
    have G50 := (own_sta_keep ((own_sta_keep G8 K15 (own_wsE (((A2.keep K11).ext E14).keep K56) (own_wsV g56_3 own_ws0))).ext E16) K30 (own_wsE (((((A2.keep K11).ext E14).keep K56).keep K15).ext E16) (own_wsV (g15_3.ext E16) own_ws0)))
    have G51 := ((((((((V_do.ext E1).ext E2).keep K11 (ninS (oL V_do.lt sz_b2) nin0)).ext E14).keep K56 (ninS (oL V_do.lt sz_b2) nin0)).keep K15 (ninS (oL V_do.lt sz_b2) (ninS (oL V_do.lt sz_b56a) nin0))).ext E16).keep K30 (ninS (oL V_do.lt sz_b2) (ninS (oL V_do.lt sz_b56a) nin0)))
    have G52 := (own_sta_keep ((own_sta_keep G9 K15 (own_wsE (((A2.keep K11).ext E14).keep K56) (own_wsV g56_3 own_ws0))).ext E16) K30 (own_wsE (((((A2.keep K11).ext E14).keep K56).keep K15).ext E16) (own_wsV (g15_3.ext E16) own_ws0)))
    have G53 := ((((((((V_dt.ext E1).ext E2).keep K11 (ninS (oL V_dt.lt sz_b2) nin0)).ext E14).keep K56 (ninS (oL V_dt.lt sz_b2) nin0)).keep K15 (ninS (oL V_dt.lt sz_b2) (ninS (oL V_dt.lt sz_b56a) nin0))).ext E16).keep K30 (ninS (oL V_dt.lt sz_b2) (ninS (oL V_dt.lt sz_b56a) nin0)))
    obtain ⟨cq59, kq59, q59a, q59b, q59c⟩ := isOf hZ eK30 ((((((A2.keep K11).ext E14).keep K56).keep K15).ext E16).keep K30)
    obtain ⟨_, T59, Lc59, X59, hQ59, st59⟩ := own_out (X30.virtualBack hx (y := mn20) (z := mn20) hown (mvT hZ (ow111 hw)) (mvT hZ (ow112 hw)) (notFace_of_selects (args := #[]) (mvT hZ (ow114 hw))) (mvT hZ (ow114 hw)) (mvT hZ (ow113 hw)) (by decide) (backOf (W := 5) (rm18a65 l Z a0 hw [] b2 y1 cs wd kd vd wt kt vt b56a (((17 : Int32) + (own_dg y0)) + (5 : Int32)) k56b us30a T30.heap n0 (oT Zs29 K30.1) G49 G50 G51 G52 G53 ((((((A2.keep K11).ext E14).keep K56).keep K15).ext E16).keep K30) g30_0 g30_1 g30_2 g30_3 hcs hd32 hc33 hd43 hd45 hd48 (oL V_do.lt sz_b2) (oL V_dt.lt sz_b2) n_b2 hst) hZ (ow115 hw) (ow17 hw) (by decide) (by decide)) q59a q59c (g := (mkF m 110 #[.val (.int y0), .val (.int y1), oU] [(.int y1), vR b2, (.long (y1.toInt64)), (.int y0), vR b1, vR b1])) rfl (by rw [hml]; rfl) (Steps.refl _) (argsL := [(.int y1)]) (rest := [(.long (y1.toInt64)), (.int y0), (.ref b1), (.ref b1)]) (lenOf pd10 rfl) rfl (by show 2 * 0 + _ ≤ _; exact Nat.le_of_eq rfl) (hb hby d3_110) (fun _ _ => ⟨rfl, eK30, (by decide : 8 + 1 ≤ _), (by decide : 153 + 70 ≤ _)⟩))
    obtain ⟨b59a, k59b, us59c, rfl, N59q, K59, n_b59a, sg_b59a, g59_0, g59_1, g59_2, g59_3, g59_4, g59_5⟩ := hQ59
    have N59 := Fr.app N30 N59q
    have sz_b59a := oT KK30.1 sg_b59a
    have u60 := (oW (oW (oW g56_3.lt K15.1) E16.1) K30.1)
    have m61 : h14.size ≤ T30.heap.size := (oT (oT (oT (oT (Nat.le_refl _) K56.1) K15.1) E16.1) K30.1)
    have eK59 : T59.heap = T59.heap := rfl
    have KK59 : Keep h0 T59.heap [] := Keep.trans KK30 K59 (allS (Or.inr sz_b2) all0)
    obtain ⟨_, X59, N59⟩ := own_hide X59 N59
    refine own_goW (T' := T59) (f' := (mkF m 113 #[.val (.int y0), .val (.int y1), oU] [vR b2, (.long (y1.toInt64)), (.int y0), vR b1, vR b1])) (fun _ k => st59.trans k) ?_
    have e62 := mt own_ltI.mpr hd48
    have hd63 : ¬ (((((17 : Int32) + (own_dg y0)) + (5 : Int32)) + (own_dg y1)) = (70 : Int32)) := by exact mt (congrArg Int32.toInt) (by omega)
    have e73 := mt Int32.toInt_inj.mp hd63
    have hd74 : ¬ (((((17 : Int32) + (own_dg y0)) + (5 : Int32)) + (own_dg y1)) < (0 : Int32)) := by exact mt own_ltI.mp (by omega)
    have e75 := mt own_ltI.mpr hd74
    have e76 : (((((17 : Int32) + (own_dg y0)) + (5 : Int32)) + (own_dg y1)) - (0 : Int32)).toInt = (((((17 : Int32) + (own_dg y0)) + (5 : Int32)) + (own_dg y1))).toInt - ((0 : Int32)).toInt := own_subI (by omega) (by omega)
    have hd77 : ¬ ((((((17 : Int32) + (own_dg y0)) + (5 : Int32)) + (own_dg y1)) - (0 : Int32)) < (0 : Int32)) := by exact mt own_ltI.mp (by omega)
    have e78 := mt own_ltI.mpr hd77
    have e79 : ((42 : Int32)).toInt = 42 := rfl
    have hd80 : ¬ ((42 : Int32) < (((((17 : Int32) + (own_dg y0)) + (5 : Int32)) + (own_dg y1)) - (0 : Int32))) := by exact mt own_ltI.mp (by omega)
    have e81 := mt own_ltI.mpr hd80
    have hd82 : (((((17 : Int32) + (own_dg y0)) + (5 : Int32)) + (own_dg y1)) - (0 : Int32)) < (70 : Int32) := by exact own_ltI.mpr (by omega)
    have e83 := own_ltI.mp hd82
    have hd86 : ¬ ((((((17 : Int32) + (own_dg y0)) + (5 : Int32)) + (own_dg y1)) - (0 : Int32)) < (((((17 : Int32) + (own_dg y0)) + (5 : Int32)) + (own_dg y1)) - (0 : Int32))) := by exact mt own_ltI.mp (by omega)
    have e87 := mt own_ltI.mpr hd86
    have hd88 : ¬ ((70 : Int32) < (((((17 : Int32) + (own_dg y0)) + (5 : Int32)) + (own_dg y1)) - (0 : Int32))) := by exact mt own_ltI.mp (by omega)
    obtain ⟨cq89, kq89, q89a, q89b, q89c⟩ := isOf hZ eK59 (((((((A2.keep K11).ext E14).keep K56).keep K15).ext E16).keep K30).keep K59)
    obtain ⟨_, T89, Lc89, X89, hQ89, st89⟩ := own_out (X59.virtualBack hx (y := mn29) (z := mn29) hown (mvT hZ (ow134 hw)) (mvT hZ (ow135 hw)) (notFace_of_selects (args := #[]) (mvT hZ (ow137 hw))) (mvT hZ (ow137 hw)) (mvT hZ (ow136 hw)) (by decide) (backOf (W := 5) (rm23a108 l Z a0 hw [] b2 cs b59a ((((17 : Int32) + (own_dg y0)) + (5 : Int32)) + (own_dg y1)) k59b us59c T59.heap n0 (oT (oT Zs29 K30.1) K59.1) (own_sta_keep G49 K59 (own_wsE ((((((A2.keep K11).ext E14).keep K56).keep K15).ext E16).keep K30) own_ws0)) (((((((A2.keep K11).ext E14).keep K56).keep K15).ext E16).keep K30).keep K59) g59_0 g59_1 g59_2 g59_3 hcs hd63 hd74 hd77 hd80 hd82 hd86 hd88) hZ (ow138 hw) (ow17 hw) (by decide) (by decide)) q89a q89c (g := (mkF m 113 #[.val (.int y0), .val (.int y1), oU] [vR b2, (.long (y1.toInt64)), (.int y0), vR b1, vR b1])) rfl (by rw [hml]; rfl) (Steps.refl _) (argsL := []) (rest := [(.long (y1.toInt64)), (.int y0), (.ref b1), (.ref b1)]) (lenOf pd4 rfl) rfl (by show 2 * 0 + _ ≤ _; exact Nat.le_of_eq rfl) (hb hby d3_113) (fun _ _ => ⟨rfl, eK59, (by decide : 9 + 2 ≤ _), (by decide : 223 + 46 ≤ _)⟩))
    obtain ⟨b89a, b89b, k89c, us89d, rfl, N89q, K89, n_b89a, sg_b89a, n_b89b, sg_b89b, ne89_0, g89_0, g89_1, g89_2, g89_3, g89_4, g89_5⟩ := hQ89
    have N89 := Fr.app N59 N89q
    have sz_b89a := oT KK59.1 sg_b89a
    have sz_b89b := oT KK59.1 sg_b89b
    have u90 : b59a < T59.heap.size := g59_3.lt
    have m91 : T30.heap.size ≤ T59.heap.size := (oT (Nat.le_refl _) K59.1)
    have eK89 : T89.heap = T89.heap := rfl
    have KK89 : Keep h0 T89.heap [] := Keep.trans KK59 K89 all0
    obtain ⟨_, X89, N89⟩ := own_hide X89 N89
    refine own_goW (T' := T89) (f' := (mkF m 116 #[.val (.int y0), .val (.int y1), oU] [vR b89a, (.long (y1.toInt64)), (.int y0), vR b1, vR b1])) (fun _ k => st89.trans k) ?_
    have c94 := oT m13 m58
    have q95 := oL u3 (oT c94 sg_b56a)
    have G96 := (((((((((F_min_b1.ext E2).keep K11 (ninS (oL u3 sg_b2) nin0)).ext E14).keep K56 (ninS (oL u3 sg_b2) nin0)).keep K15 (ninS (oL u3 sg_b2) (ninS q95 nin0))).ext E16).keep K30 (ninS (oL u3 sg_b2) (ninS q95 nin0))).keep K59 (ninS (oL u3 sg_b2) nin0)).keep K89 nin0)
    have G97 := (((((((((F_max_b1.ext E2).keep K11 (ninS (oL u3 sg_b2) nin0)).ext E14).keep K56 (ninS (oL u3 sg_b2) nin0)).keep K15 (ninS (oL u3 sg_b2) (ninS q95 nin0))).ext E16).keep K30 (ninS (oL u3 sg_b2) (ninS q95 nin0))).keep K59 (ninS (oL u3 sg_b2) nin0)).keep K89 nin0)
    have G98 := (((((((((F_phrase_b1.ext E2).keep K11 (ninS (oL u3 sg_b2) nin0)).ext E14).keep K56 (ninS (oL u3 sg_b2) nin0)).keep K15 (ninS (oL u3 sg_b2) (ninS q95 nin0))).ext E16).keep K30 (ninS (oL u3 sg_b2) (ninS q95 nin0))).keep K59 (ninS (oL u3 sg_b2) nin0)).keep K89 nin0)
    obtain ⟨_, T99, Lc99, X99, hQ99, st99⟩ := own_out (X89.specialBack hx (y := mn30) rfl hown (mvT hZ (ow171 hw)) (mvT hZ (ow172 hw)) (mvT hZ (ow173 hw)) (by decide) (backOf (W := 1) (rm32a113 l Z a0 hw [] b1 y0 (y1.toInt64) b89a T89.heap n0 (oT (oT (oT Zs29 K30.1) K59.1) K89.1) (((((((((A1.ext E2).keep K11).ext E14).keep K56).keep K15).ext E16).keep K30).keep K59).keep K89) G96 G97 G98 n_b1) hZ (ow173 hw) (ow14 hw) (by decide) (by decide)) (g := (mkF m 116 #[.val (.int y0), .val (.int y1), oU] [vR b89a, (.long (y1.toInt64)), (.int y0), vR b1, vR b1])) rfl (by rw [hml]; rfl) (Steps.refl _) (a := b1) (argsL := [(.int y0), (.long (y1.toInt64)), (.ref b89a)]) (rest := [(.ref b1)]) (lenOf pd17 rfl) rfl (by show 2 * 0 + _ ≤ _; exact Nat.le_of_eq rfl) (hb hby d3_116) (fun _ _ => ⟨rfl, eK89, (by decide : 11 + 0 ≤ _), (by decide : 269 + 0 ≤ _)⟩))
    obtain ⟨rfl, N99q, K99, g99_0, g99_1, g99_2⟩ := hQ99
    have N99 := Fr.app N89 N99q
    have eK99 : T99.heap = T99.heap := rfl
    have KK99 : Keep h0 T99.heap [] := Keep.trans KK89 K99 (allS (Or.inr sz_b1) all0)
    obtain ⟨_, X99, N99⟩ := own_hide X99 N99
    refine own_goW (T' := T99) (f' := (mkF m 119 #[.val (.int y0), .val (.int y1), oU] [vR b1])) (fun _ k => st99.trans k) ?_
    refine own_retW X99 hS (by rw [eK99]; exact (oT (oT (oT (oT (Nat.le_refl _) K30.1) K59.1) K89.1) K99.1)) (v := some (.ref b1)) (oN Bd.returns) Bd.notSynchronized (fun fs hr => own_retA X99 hx Bd.returns rfl rfl (hb hby d3_119) hr) ?_ (by decide) (by decide)
    show Q3g Z B y0 y1 cs wd kd vd wt kt vt h0 n0 _ T99.heap T99.vm _
    have c100 := oT c94 m61
    have c101 := oT c100 m91
    have q102 := oM u3 (oT c101 sg_b89a)
    have q103 := oM u3 (oT c101 sg_b89b)
    have e104 := mt own_ltI.mpr hd88
    have hd105 : (((((17 : Int32) + (own_dg y0)) + (5 : Int32)) + (own_dg y1)) - (0 : Int32)) = ((((17 : Int32) + (own_dg y0)) + (5 : Int32)) + (own_dg y1)) := by exact Int32.toInt_inj.mp (by omega)
    rw [eK99]
    exact ⟨b1, b89a, b89b, _, us89d, rfl, N99, KK99, n_b1, sz_b1, ((((((((((A1.ext E2).keep K11).ext E14).keep K56).keep K15).ext E16).keep K30).keep K59).keep K89).keep K99), g99_0, g99_1, g99_2, (g89_0.keep K99), (g89_2.keep K99 (ninS q102 nin0)), (g89_1.keep K99 (ninS q102 nin0)), (by rw [← hd105]; exact (g89_3.keep K99 (ninS q103 nin0)))⟩
  · have e106 := mt own_ltI.mpr hd32
    have e107 := own_dgb y1
    have e108 : ((((17 : Int32) + (own_dg y0)) + (5 : Int32)) + (own_dg y1)).toInt = ((((17 : Int32) + (own_dg y0)) + (5 : Int32))).toInt + ((own_dg y1)).toInt := own_addI (by omega) (by omega)
    have e109 : (((((17 : Int32) + (own_dg y0)) + (5 : Int32)) + (own_dg y1)) - (34 : Int32)).toInt = (((((17 : Int32) + (own_dg y0)) + (5 : Int32)) + (own_dg y1))).toInt - ((34 : Int32)).toInt := own_subI (by omega) (by omega)
    have e110 := mt own_ltI.mpr hc33
    have hd111 : ¬ (((((17 : Int32) + (own_dg y0)) + (5 : Int32)) + (own_dg y1)) < (own_dg y1)) := by exact mt own_ltI.mp (by omega)
    have e112 := mt own_ltI.mpr hd111
    have hd113 : ¬ ((34 : Int32) < ((((17 : Int32) + (own_dg y0)) + (5 : Int32)) + (own_dg y1))) := by exact mt own_ltI.mp (by omega)
    have G114 := (own_sta_keep ((own_sta_keep G7 K15 (own_wsE (((A2.keep K11).ext E14).keep K56) (own_wsV g56_3 own_ws0))).ext E16) K30 (own_wsE (((((A2.keep K11).ext E14).keep K56).keep K15).ext E16) (own_wsV (g15_3.ext E16) own_ws0)))
    have G115 := (own_sta_keep ((own_sta_keep G8 K15 (own_wsE (((A2.keep K11).ext E14).keep K56) (own_wsV g56_3 own_ws0))).ext E16) K30 (own_wsE (((((A2.keep K11).ext E14).keep K56).keep K15).ext E16) (own_wsV (g15_3.ext E16) own_ws0)))
    have G116 := ((((((((V_do.ext E1).ext E2).keep K11 (ninS (oL V_do.lt sz_b2) nin0)).ext E14).keep K56 (ninS (oL V_do.lt sz_b2) nin0)).keep K15 (ninS (oL V_do.lt sz_b2) (ninS (oL V_do.lt sz_b56a) nin0))).ext E16).keep K30 (ninS (oL V_do.lt sz_b2) (ninS (oL V_do.lt sz_b56a) nin0)))
    have G117 := (own_sta_keep ((own_sta_keep G9 K15 (own_wsE (((A2.keep K11).ext E14).keep K56) (own_wsV g56_3 own_ws0))).ext E16) K30 (own_wsE (((((A2.keep K11).ext E14).keep K56).keep K15).ext E16) (own_wsV (g15_3.ext E16) own_ws0)))
    have G118 := ((((((((V_dt.ext E1).ext E2).keep K11 (ninS (oL V_dt.lt sz_b2) nin0)).ext E14).keep K56 (ninS (oL V_dt.lt sz_b2) nin0)).keep K15 (ninS (oL V_dt.lt sz_b2) (ninS (oL V_dt.lt sz_b56a) nin0))).ext E16).keep K30 (ninS (oL V_dt.lt sz_b2) (ninS (oL V_dt.lt sz_b56a) nin0)))
    obtain ⟨cq119, kq119, q119a, q119b, q119c⟩ := isOf hZ eK30 ((((((A2.keep K11).ext E14).keep K56).keep K15).ext E16).keep K30)
    obtain ⟨_, T119, Lc119, X119, hQ119, st119⟩ := own_out (X30.virtualBack hx (y := mn20) (z := mn20) hown (mvT hZ (ow111 hw)) (mvT hZ (ow112 hw)) (notFace_of_selects (args := #[]) (mvT hZ (ow114 hw))) (mvT hZ (ow114 hw)) (mvT hZ (ow113 hw)) (by decide) (backOf (W := 5) (rm18a118 l Z a0 hw [] b2 y1 cs wd kd vd wt kt vt b56a (((17 : Int32) + (own_dg y0)) + (5 : Int32)) k56b us30a T30.heap n0 (oT Zs29 K30.1) G114 G115 G116 G117 G118 ((((((A2.keep K11).ext E14).keep K56).keep K15).ext E16).keep K30) g30_0 g30_1 g30_2 g30_3 hcs hd32 hc33 hd111 hd113 (oM V_do.lt sz_b56a) (oM V_dt.lt sz_b56a) q6 (Ne.symm q6) n_b2 n_b56a hst) hZ (ow115 hw) (ow17 hw) (by decide) (by decide)) q119a q119c (g := (mkF m 110 #[.val (.int y0), .val (.int y1), oU] [(.int y1), vR b2, (.long (y1.toInt64)), (.int y0), vR b1, vR b1])) rfl (by rw [hml]; rfl) (Steps.refl _) (argsL := [(.int y1)]) (rest := [(.long (y1.toInt64)), (.int y0), (.ref b1), (.ref b1)]) (lenOf pd10 rfl) rfl (by show 2 * 0 + _ ≤ _; exact Nat.le_of_eq rfl) (hb hby d3_110) (fun _ _ => ⟨rfl, eK30, (by decide : 8 + 0 ≤ _), (by decide : 153 + 0 ≤ _)⟩))
    obtain ⟨us119a, rfl, N119q, K119, g119_0, g119_1, g119_2, g119_3, g119_4⟩ := hQ119
    have N119 := Fr.app N30 N119q
    have eK119 : T119.heap = T119.heap := rfl
    have KK119 : Keep h0 T119.heap [] := Keep.trans KK30 K119 (allS (Or.inr sz_b2) (allS (Or.inr sz_b56a) all0))
    obtain ⟨_, X119, N119⟩ := own_hide X119 N119
    refine own_goW (T' := T119) (f' := (mkF m 113 #[.val (.int y0), .val (.int y1), oU] [vR b2, (.long (y1.toInt64)), (.int y0), vR b1, vR b1])) (fun _ k => st119.trans k) ?_
    by_cases hc120 : ((((17 : Int32) + (own_dg y0)) + (5 : Int32)) + (own_dg y1)) = (34 : Int32)
    · have G121 := (own_sta_keep G114 K119 (own_wsE ((((((A2.keep K11).ext E14).keep K56).keep K15).ext E16).keep K30) (own_wsV g30_3 own_ws0)))
      obtain ⟨cq122, kq122, q122a, q122b, q122c⟩ := isOf hZ eK119 (((((((A2.keep K11).ext E14).keep K56).keep K15).ext E16).keep K30).keep K119)
      obtain ⟨_, T122, Lc122, X122, hQ122, st122⟩ := own_out (X119.virtualBack hx (y := mn29) (z := mn29) hown (mvT hZ (ow134 hw)) (mvT hZ (ow135 hw)) (notFace_of_selects (args := #[]) (mvT hZ (ow137 hw))) (mvT hZ (ow137 hw)) (mvT hZ (ow136 hw)) (by decide) (backOf (W := 5) (rm23a124 l Z a0 hw [] b2 cs b56a ((((17 : Int32) + (own_dg y0)) + (5 : Int32)) + (own_dg y1)) k56b us119a T119.heap n0 (oT (oT Zs29 K30.1) K119.1) G121 (((((((A2.keep K11).ext E14).keep K56).keep K15).ext E16).keep K30).keep K119) g119_0 g119_1 g119_2 g119_3 ((((g56_4.keep K15).ext E16).keep K30).keep K119) hcs hc120) hZ (ow138 hw) (ow17 hw) (by decide) (by decide)) q122a q122c (g := (mkF m 113 #[.val (.int y0), .val (.int y1), oU] [vR b2, (.long (y1.toInt64)), (.int y0), vR b1, vR b1])) rfl (by rw [hml]; rfl) (Steps.refl _) (argsL := []) (rest := [(.long (y1.toInt64)), (.int y0), (.ref b1), (.ref b1)]) (lenOf pd4 rfl) rfl (by show 2 * 0 + _ ≤ _; exact Nat.le_of_eq rfl) (hb hby d3_113) (fun _ _ => ⟨rfl, eK119, (by decide : 8 + 2 ≤ _), (by decide : 153 + 38 ≤ _)⟩))
      obtain ⟨b122a, b122b, rfl, N122q, K122, n_b122a, sg_b122a, n_b122b, sg_b122b, ne122_0, g122_0, g122_1, g122_2, g122_3, g122_4⟩ := hQ122
      have N122 := Fr.app N119 N122q
      have sz_b122a := oT KK119.1 sg_b122a
      have sz_b122b := oT KK119.1 sg_b122b
      have u123 := (oW (oW (oW (oW g56_3.lt K15.1) E16.1) K30.1) K119.1)
      have m124 : h14.size ≤ T119.heap.size := (oT (oT (oT (oT (oT (Nat.le_refl _) K56.1) K15.1) E16.1) K30.1) K119.1)
      have eK122 : T122.heap = T122.heap := rfl
      have KK122 : Keep h0 T122.heap [] := Keep.trans KK119 K122 all0
      obtain ⟨_, X122, N122⟩ := own_hide X122 N122
      refine own_goW (T' := T122) (f' := (mkF m 116 #[.val (.int y0), .val (.int y1), oU] [vR b122a, (.long (y1.toInt64)), (.int y0), vR b1, vR b1])) (fun _ k => st122.trans k) ?_
      have c125 := oT m13 m58
      have q126 := oL u3 (oT c125 sg_b56a)
      have G127 := (((((((((F_min_b1.ext E2).keep K11 (ninS (oL u3 sg_b2) nin0)).ext E14).keep K56 (ninS (oL u3 sg_b2) nin0)).keep K15 (ninS (oL u3 sg_b2) (ninS q126 nin0))).ext E16).keep K30 (ninS (oL u3 sg_b2) (ninS q126 nin0))).keep K119 (ninS (oL u3 sg_b2) (ninS q126 nin0))).keep K122 nin0)
      have G128 := (((((((((F_max_b1.ext E2).keep K11 (ninS (oL u3 sg_b2) nin0)).ext E14).keep K56 (ninS (oL u3 sg_b2) nin0)).keep K15 (ninS (oL u3 sg_b2) (ninS q126 nin0))).ext E16).keep K30 (ninS (oL u3 sg_b2) (ninS q126 nin0))).keep K119 (ninS (oL u3 sg_b2) (ninS q126 nin0))).keep K122 nin0)
      have G129 := (((((((((F_phrase_b1.ext E2).keep K11 (ninS (oL u3 sg_b2) nin0)).ext E14).keep K56 (ninS (oL u3 sg_b2) nin0)).keep K15 (ninS (oL u3 sg_b2) (ninS q126 nin0))).ext E16).keep K30 (ninS (oL u3 sg_b2) (ninS q126 nin0))).keep K119 (ninS (oL u3 sg_b2) (ninS q126 nin0))).keep K122 nin0)
      obtain ⟨_, T130, Lc130, X130, hQ130, st130⟩ := own_out (X122.specialBack hx (y := mn30) rfl hown (mvT hZ (ow171 hw)) (mvT hZ (ow172 hw)) (mvT hZ (ow173 hw)) (by decide) (backOf (W := 1) (rm32a113 l Z a0 hw [] b1 y0 (y1.toInt64) b122a T122.heap n0 (oT (oT (oT Zs29 K30.1) K119.1) K122.1) (((((((((A1.ext E2).keep K11).ext E14).keep K56).keep K15).ext E16).keep K30).keep K119).keep K122) G127 G128 G129 n_b1) hZ (ow173 hw) (ow14 hw) (by decide) (by decide)) (g := (mkF m 116 #[.val (.int y0), .val (.int y1), oU] [vR b122a, (.long (y1.toInt64)), (.int y0), vR b1, vR b1])) rfl (by rw [hml]; rfl) (Steps.refl _) (a := b1) (argsL := [(.int y0), (.long (y1.toInt64)), (.ref b122a)]) (rest := [(.ref b1)]) (lenOf pd17 rfl) rfl (by show 2 * 0 + _ ≤ _; exact Nat.le_of_eq rfl) (hb hby d3_116) (fun _ _ => ⟨rfl, eK122, (by decide : 10 + 0 ≤ _), (by decide : 191 + 0 ≤ _)⟩))
      obtain ⟨rfl, N130q, K130, g130_0, g130_1, g130_2⟩ := hQ130
      have N130 := Fr.app N122 N130q
      have eK130 : T130.heap = T130.heap := rfl
      have KK130 : Keep h0 T130.heap [] := Keep.trans KK122 K130 (allS (Or.inr sz_b1) all0)
      obtain ⟨_, X130, N130⟩ := own_hide X130 N130
      refine own_goW (T' := T130) (f' := (mkF m 119 #[.val (.int y0), .val (.int y1), oU] [vR b1])) (fun _ k => st130.trans k) ?_
      refine own_retW X130 hS (by rw [eK130]; exact (oT (oT (oT (oT (Nat.le_refl _) K30.1) K119.1) K122.1) K130.1)) (v := some (.ref b1)) (oN Bd.returns) Bd.notSynchronized (fun fs hr => own_retA X130 hx Bd.returns rfl rfl (hb hby d3_119) hr) ?_ (by decide) (by decide)
      show Q3g Z B y0 y1 cs wd kd vd wt kt vt h0 n0 _ T130.heap T130.vm _
      have c131 := oT c125 m124
      have q132 := oM u3 (oT c131 sg_b122a)
      have q133 := oM u3 (oT c131 sg_b122b)
      have e134 := mt own_ltI.mpr hd113
      have e135 := congrArg Int32.toInt hc120
      have hd136 : (34 : Int32) = ((((17 : Int32) + (own_dg y0)) + (5 : Int32)) + (own_dg y1)) := by exact Int32.toInt_inj.mp (by omega)
      rw [eK130]
      exact ⟨b1, b122a, b122b, _, us119a, rfl, N130, KK130, n_b1, sz_b1, ((((((((((A1.ext E2).keep K11).ext E14).keep K56).keep K15).ext E16).keep K30).keep K119).keep K122).keep K130), g130_0, g130_1, g130_2, (g122_0.keep K130), (g122_2.keep K130 (ninS q132 nin0)), (g122_1.keep K130 (ninS q132 nin0)), (by rw [← hd136]; exact (g122_3.keep K130 (ninS q133 nin0)))⟩
    · have e137 := mt own_ltI.mpr hd113
      have e138 := mt Int32.toInt_inj.mp hc120
      have hd139 : ¬ (((((17 : Int32) + (own_dg y0)) + (5 : Int32)) + (own_dg y1)) < (0 : Int32)) := by exact mt own_ltI.mp (by omega)
      have e140 := mt own_ltI.mpr hd139
      have e141 : (((((17 : Int32) + (own_dg y0)) + (5 : Int32)) + (own_dg y1)) - (0 : Int32)).toInt = (((((17 : Int32) + (own_dg y0)) + (5 : Int32)) + (own_dg y1))).toInt - ((0 : Int32)).toInt := own_subI (by omega) (by omega)
      have hd142 : ¬ ((((((17 : Int32) + (own_dg y0)) + (5 : Int32)) + (own_dg y1)) - (0 : Int32)) < (0 : Int32)) := by exact mt own_ltI.mp (by omega)
      have e143 := mt own_ltI.mpr hd142
      have e144 : ((42 : Int32)).toInt = 42 := rfl
      have hd145 : ¬ ((42 : Int32) < (((((17 : Int32) + (own_dg y0)) + (5 : Int32)) + (own_dg y1)) - (0 : Int32))) := by exact mt own_ltI.mp (by omega)
      have e146 := mt own_ltI.mpr hd145
      have hd147 : (((((17 : Int32) + (own_dg y0)) + (5 : Int32)) + (own_dg y1)) - (0 : Int32)) < (34 : Int32) := by exact own_ltI.mpr (by omega)
      have e148 := own_ltI.mp hd147
      have hd149 : ¬ ((((((17 : Int32) + (own_dg y0)) + (5 : Int32)) + (own_dg y1)) - (0 : Int32)) < (((((17 : Int32) + (own_dg y0)) + (5 : Int32)) + (own_dg y1)) - (0 : Int32))) := by exact mt own_ltI.mp (by omega)
      have e150 := mt own_ltI.mpr hd149
      have hd151 : ¬ ((34 : Int32) < (((((17 : Int32) + (own_dg y0)) + (5 : Int32)) + (own_dg y1)) - (0 : Int32))) := by exact mt own_ltI.mp (by omega)
      have G152 := (own_sta_keep G114 K119 (own_wsE ((((((A2.keep K11).ext E14).keep K56).keep K15).ext E16).keep K30) (own_wsV g30_3 own_ws0)))
      obtain ⟨cq153, kq153, q153a, q153b, q153c⟩ := isOf hZ eK119 (((((((A2.keep K11).ext E14).keep K56).keep K15).ext E16).keep K30).keep K119)
      obtain ⟨_, T153, Lc153, X153, hQ153, st153⟩ := own_out (X119.virtualBack hx (y := mn29) (z := mn29) hown (mvT hZ (ow134 hw)) (mvT hZ (ow135 hw)) (notFace_of_selects (args := #[]) (mvT hZ (ow137 hw))) (mvT hZ (ow137 hw)) (mvT hZ (ow136 hw)) (by decide) (backOf (W := 5) (rm23a161 l Z a0 hw [] b2 cs b56a ((((17 : Int32) + (own_dg y0)) + (5 : Int32)) + (own_dg y1)) k56b us119a T119.heap n0 (oT (oT Zs29 K30.1) K119.1) G152 (((((((A2.keep K11).ext E14).keep K56).keep K15).ext E16).keep K30).keep K119) g119_0 g119_1 g119_2 g119_3 hcs hc120 hd139 hd142 hd145 hd147 hd149 hd151) hZ (ow138 hw) (ow17 hw) (by decide) (by decide)) q153a q153c (g := (mkF m 113 #[.val (.int y0), .val (.int y1), oU] [vR b2, (.long (y1.toInt64)), (.int y0), vR b1, vR b1])) rfl (by rw [hml]; rfl) (Steps.refl _) (argsL := []) (rest := [(.long (y1.toInt64)), (.int y0), (.ref b1), (.ref b1)]) (lenOf pd4 rfl) rfl (by show 2 * 0 + _ ≤ _; exact Nat.le_of_eq rfl) (hb hby d3_113) (fun _ _ => ⟨rfl, eK119, (by decide : 8 + 2 ≤ _), (by decide : 153 + 46 ≤ _)⟩))
      obtain ⟨b153a, b153b, k153c, us153d, rfl, N153q, K153, n_b153a, sg_b153a, n_b153b, sg_b153b, ne153_0, g153_0, g153_1, g153_2, g153_3, g153_4, g153_5⟩ := hQ153
      have N153 := Fr.app N119 N153q
      have sz_b153a := oT KK119.1 sg_b153a
      have sz_b153b := oT KK119.1 sg_b153b
      have u154 := (oW (oW (oW (oW g56_3.lt K15.1) E16.1) K30.1) K119.1)
      have m155 : h14.size ≤ T119.heap.size := (oT (oT (oT (oT (oT (Nat.le_refl _) K56.1) K15.1) E16.1) K30.1) K119.1)
      have eK153 : T153.heap = T153.heap := rfl
      have KK153 : Keep h0 T153.heap [] := Keep.trans KK119 K153 all0
      obtain ⟨_, X153, N153⟩ := own_hide X153 N153
      refine own_goW (T' := T153) (f' := (mkF m 116 #[.val (.int y0), .val (.int y1), oU] [vR b153a, (.long (y1.toInt64)), (.int y0), vR b1, vR b1])) (fun _ k => st153.trans k) ?_
      have c156 := oT m13 m58
      have q157 := oL u3 (oT c156 sg_b56a)
      have G158 := (((((((((F_min_b1.ext E2).keep K11 (ninS (oL u3 sg_b2) nin0)).ext E14).keep K56 (ninS (oL u3 sg_b2) nin0)).keep K15 (ninS (oL u3 sg_b2) (ninS q157 nin0))).ext E16).keep K30 (ninS (oL u3 sg_b2) (ninS q157 nin0))).keep K119 (ninS (oL u3 sg_b2) (ninS q157 nin0))).keep K153 nin0)
      have G159 := (((((((((F_max_b1.ext E2).keep K11 (ninS (oL u3 sg_b2) nin0)).ext E14).keep K56 (ninS (oL u3 sg_b2) nin0)).keep K15 (ninS (oL u3 sg_b2) (ninS q157 nin0))).ext E16).keep K30 (ninS (oL u3 sg_b2) (ninS q157 nin0))).keep K119 (ninS (oL u3 sg_b2) (ninS q157 nin0))).keep K153 nin0)
      have G160 := (((((((((F_phrase_b1.ext E2).keep K11 (ninS (oL u3 sg_b2) nin0)).ext E14).keep K56 (ninS (oL u3 sg_b2) nin0)).keep K15 (ninS (oL u3 sg_b2) (ninS q157 nin0))).ext E16).keep K30 (ninS (oL u3 sg_b2) (ninS q157 nin0))).keep K119 (ninS (oL u3 sg_b2) (ninS q157 nin0))).keep K153 nin0)
      obtain ⟨_, T161, Lc161, X161, hQ161, st161⟩ := own_out (X153.specialBack hx (y := mn30) rfl hown (mvT hZ (ow171 hw)) (mvT hZ (ow172 hw)) (mvT hZ (ow173 hw)) (by decide) (backOf (W := 1) (rm32a113 l Z a0 hw [] b1 y0 (y1.toInt64) b153a T153.heap n0 (oT (oT (oT Zs29 K30.1) K119.1) K153.1) (((((((((A1.ext E2).keep K11).ext E14).keep K56).keep K15).ext E16).keep K30).keep K119).keep K153) G158 G159 G160 n_b1) hZ (ow173 hw) (ow14 hw) (by decide) (by decide)) (g := (mkF m 116 #[.val (.int y0), .val (.int y1), oU] [vR b153a, (.long (y1.toInt64)), (.int y0), vR b1, vR b1])) rfl (by rw [hml]; rfl) (Steps.refl _) (a := b1) (argsL := [(.int y0), (.long (y1.toInt64)), (.ref b153a)]) (rest := [(.ref b1)]) (lenOf pd17 rfl) rfl (by show 2 * 0 + _ ≤ _; exact Nat.le_of_eq rfl) (hb hby d3_116) (fun _ _ => ⟨rfl, eK153, (by decide : 10 + 0 ≤ _), (by decide : 199 + 0 ≤ _)⟩))
      obtain ⟨rfl, N161q, K161, g161_0, g161_1, g161_2⟩ := hQ161
      have N161 := Fr.app N153 N161q
      have eK161 : T161.heap = T161.heap := rfl
      have KK161 : Keep h0 T161.heap [] := Keep.trans KK153 K161 (allS (Or.inr sz_b1) all0)
      obtain ⟨_, X161, N161⟩ := own_hide X161 N161
      refine own_goW (T' := T161) (f' := (mkF m 119 #[.val (.int y0), .val (.int y1), oU] [vR b1])) (fun _ k => st161.trans k) ?_
      refine own_retW X161 hS (by rw [eK161]; exact (oT (oT (oT (oT (Nat.le_refl _) K30.1) K119.1) K153.1) K161.1)) (v := some (.ref b1)) (oN Bd.returns) Bd.notSynchronized (fun fs hr => own_retA X161 hx Bd.returns rfl rfl (hb hby d3_119) hr) ?_ (by decide) (by decide)
      show Q3g Z B y0 y1 cs wd kd vd wt kt vt h0 n0 _ T161.heap T161.vm _
      have c162 := oT c156 m155
      have q163 := oM u3 (oT c162 sg_b153a)
      have q164 := oM u3 (oT c162 sg_b153b)
      have e165 := mt own_ltI.mpr hd151
      have hd166 : (((((17 : Int32) + (own_dg y0)) + (5 : Int32)) + (own_dg y1)) - (0 : Int32)) = ((((17 : Int32) + (own_dg y0)) + (5 : Int32)) + (own_dg y1)) := by exact Int32.toInt_inj.mp (by omega)
      rw [eK161]
      exact ⟨b1, b153a, b153b, _, us153d, rfl, N161, KK161, n_b1, sz_b1, ((((((((((A1.ext E2).keep K11).ext E14).keep K56).keep K15).ext E16).keep K30).keep K119).keep K153).keep K161), g161_0, g161_1, g161_2, (g153_0.keep K161), (g153_2.keep K161 (ninS q163 nin0)), (g153_1.keep K161 (ninS q163 nin0)), (by rw [← hd166]; exact (g153_3.keep K161 (ninS q164 nin0)))⟩
def Q20a171 (Z : State)  (h0 : Heap) (n0 : Nat) (v : Option Value) (h : Heap) (L : List Loc) : Prop := v = some (.int (1 : Int32)) ∧ Fr n0 L ∧ h = h0
set_option maxRecDepth 65536 in
set_option maxHeartbeats 40000000 in
theorem rm20a171 (l : Launch) (Z : State) (a0 : Array Value) (hw : HW a0 Z) (ws : List Jvm.Cond) (y0 : Int32) (h0 : Heap) (n0 : Nat) (Z0 : n0 ≤ h0.size) (PP1 : ¬ (y0 < (0 : Int32))) (PP2 : (-10 : Int32) < (-y0)) :
    own_Met l mn3 jdk_33_method_13_code 4 (some .int) ws (oRm 0 0 0 0) #[(.int y0)] Z h0 (Q20a171 Z  h0 n0) := by
  refine own_met (own := "java/lang/Integer") rfl (plainFor_of_name pn_4) ?_
  intro p e s m below meth c s₁ hx hby hml hZ hown hnm X0 e0 Br Bs
  have N0 := Fr.nil n0
  have tt := own_tt hx hby own_ok20
  show own_Ends p e below s _ _ _ s₁ (mkF m 0 #[.val (.int y0), oU, oU, oU] [])
  refine own_go (T' := s₁) (f' := (mkF m 3 #[.val (.int y0), oI 1, oU, oU] [(.int y0)])) (fun _ k => own_e X0 tt 0 3 k rfl) ?_
  refine own_go (T' := s₁) (f' := (mkF m 24 #[.val (.int (-y0)), oI 0, oI (-10), oI 1] [vI (-10), (.int (-y0))])) (fun _ k => XS.ifNo X0.here hx rfl (hb hby d20_3) rfl ((if0 _ _).trans (flt PP1).1) (own_e X0 tt 6 14 k rfl)) ?_
  refine own_go (T' := s₁) (f' := (mkF m 30 #[.val (.int (-y0)), oI 0, oI (-10), oI 1] [vI 1])) (fun _ k => XS.icmpNo X0.here hx rfl (hb hby d20_24) rfl (tlt PP2).2.2.2 (own_e X0 tt 27 3 k rfl)) ?_
  refine own_ret X0 (v := some (.int (1 : Int32))) (oN Br) Bs (fun fs hr => retI X0 hx Br (hb hby d20_30) hr) ?_ (by decide) (by decide)
  unfold Q20a171
  exact ⟨rfl, N0, e0⟩
def Q11a172 (Z : State)  (h0 : Heap) (n0 : Nat) (v : Option Value) (h : Heap) (L : List Loc) : Prop := v = none ∧ Fr n0 L ∧ h = h0
set_option maxRecDepth 65536 in
set_option maxHeartbeats 40000000 in
theorem rm11a172 (l : Launch) (Z : State) (a0 : Array Value) (hw : HW a0 Z) (ws : List Jvm.Cond) (b2 : Addr) (b11a : Addr) (k11b : ClassId) (h0 : Heap) (n0 : Nat) (Z0 : n0 ≤ h0.size) (PF10 : oF0 Z h0 b2 (.ref b11a)) (PF11 : oF1 Z h0 b2 (.int (0 : Int32))) (PV19 : Arv Z h0 b11a k11b .byte (34 : Int32) own_ls3 (.int (0 : Int32))) :
    own_Met l mn11 jdk_68_method_9_code 3 none ws (oRm 0 0 0 0) #[(.ref b2), (.int (18 : Int32))] Z h0 (Q11a172 Z  h0 n0) := by
  refine own_met (own := "java/lang/AbstractStringBuilder") rfl (plainFor_of_name pn_3) ?_
  intro p e s m below meth c s₁ hx hby hml hZ hown hnm X0 e0 Br Bs
  have N0 := Fr.nil n0
  have tt := own_tt hx hby own_ok11
  show own_Ends p e below s _ _ _ s₁ (mkF m 0 #[oR b2, oI 18, oU] [])
  refine own_go (T' := s₁) (f' := (mkF m 1 #[oR b2, oI 18, oU] [vR b2])) (fun _ k => own_e X0 tt 0 1 k rfl) ?_
  obtain ⟨T25, X25, e25, st25⟩ := getF X0 hx hZ hown (host := "") (Or.inl (ow33 hw)) Via.refl e0 PF10 (g := (mkF m 1 #[oR b2, oI 18, oU] [vR b2])) rfl rfl (hb hby d11_1)
  refine own_go (T' := T25) (f' := (mkF m 6 #[oR b2, oI 18, oU] [vR b2, vI 34])) (fun _ k => st25 _ (own_alen X25 hx hZ e25 PV19 rfl rfl (hb hby d11_4) (own_e X25 tt 5 1 k rfl))) ?_
  obtain ⟨T26, X26, e26, st26⟩ := getF X25 hx hZ hown (host := "") (Or.inl (ow35 hw)) Via.refl e25 PF11 (g := (mkF m 6 #[oR b2, oI 18, oU] [vR b2, vI 34])) rfl rfl (hb hby d11_6)
  refine own_go (T' := T26) (f' := (mkF m 38 #[oR b2, oI 18, oI 34] [])) (fun _ k => st26 _ (own_e X26 tt 9 6 k rfl)) ?_
  refine own_ret X26 (v := none) (fun _ => rfl) Bs (fun fs hr => X26.returnOut hx Br (hb hby d11_38) hr) ?_ (by decide) (by decide)
  unfold Q11a172
  exact ⟨rfl, N0, e26⟩
def own_t22 (pc : Nat) : Option (Instr × Nat) := bif Nat.ble pc 22 then (bif Nat.ble pc 12 then (bif Nat.ble pc 3 then (bif Nat.ble pc 0 then (bif Nat.beq pc 0 then some (.iload_n 1, 1) else none) else (bif Nat.ble pc 1 then (bif Nat.beq pc 1 then some (.istore 5, 2) else none) else (bif Nat.beq pc 3 then some (.iload_n 0, 1) else none))) else (bif Nat.ble pc 4 then (bif Nat.beq pc 4 then some (.ifCond .ge 7, 3) else none) else (bif Nat.ble pc 11 then (bif Nat.beq pc 11 then some (.iconst 0, 1) else none) else (bif Nat.beq pc 12 then some (.istore 6, 2) else none)))) else (bif Nat.ble pc 19 then (bif Nat.ble pc 14 then (bif Nat.beq pc 14 then some (.iload 6, 2) else none) else (bif Nat.ble pc 16 then (bif Nat.beq pc 16 then some (.ifCond .ne 6, 3) else none) else (bif Nat.beq pc 19 then some (.iload_n 0, 1) else none))) else (bif Nat.ble pc 20 then (bif Nat.beq pc 20 then some (.ineg, 1) else none) else (bif Nat.ble pc 21 then (bif Nat.beq pc 21 then some (.istore_n 0, 1) else none) else (bif Nat.beq pc 22 then some (.iload_n 0, 1) else none))))) else (bif Nat.ble pc 81 then (bif Nat.ble pc 72 then (bif Nat.ble pc 23 then (bif Nat.beq pc 23 then some (.bipush (-100), 2) else none) else (bif Nat.ble pc 25 then (bif Nat.beq pc 25 then some (.if_icmp .gt 47, 3) else none) else (bif Nat.beq pc 72 then some (.aload_n 2, 1) else none))) else (bif Nat.ble pc 73 then (bif Nat.beq pc 73 then some (.iinc 5 (-1), 3) else none) else (bif Nat.ble pc 76 then (bif Nat.beq pc 76 then some (.iload 5, 2) else none) else (bif Nat.beq pc 81 then some (.iload_n 0, 1) else none)))) else (bif Nat.ble pc 86 then (bif Nat.ble pc 82 then (bif Nat.beq pc 82 then some (.ineg, 1) else none) else (bif Nat.ble pc 85 then (bif Nat.beq pc 85 then some (.iload_n 0, 1) else none) else (bif Nat.beq pc 86 then some (.bipush (-9), 2) else none))) else (bif Nat.ble pc 104 then (bif Nat.ble pc 88 then (bif Nat.beq pc 88 then some (.if_icmp .ge 16, 3) else none) else (bif Nat.beq pc 104 then some (.iload 6, 2) else none)) else (bif Nat.ble pc 106 then (bif Nat.beq pc 106 then some (.ifCond .eq 12, 3) else none) else (bif Nat.beq pc 118 then some (.iload 5, 2) else none)))))
theorem own_ok22 : ∀ pc q, own_fetch 121 own_t22 pc = some q → decode jdk_33_method_12_code pc = .ok q := own_tab (by decide +kernel)
theorem d22_4 : decode jdk_33_method_12_code 4 = .ok (.ifCond .ge 7, 3) := by decide +kernel
theorem d22_25 : decode jdk_33_method_12_code 25 = .ok (.if_icmp .gt 47, 3) := by decide +kernel
theorem d22_78 : decode jdk_33_method_12_code 78 = .ok (.getstatic 83, 3) := by decide +kernel
theorem d22_83 : decode jdk_33_method_12_code 83 = .ok (.baload, 1) := by decide +kernel
theorem d22_84 : decode jdk_33_method_12_code 84 = .ok (.bastore, 1) := by decide +kernel
theorem d22_88 : decode jdk_33_method_12_code 88 = .ok (.if_icmp .ge 16, 3) := by decide +kernel
theorem d22_120 : decode jdk_33_method_12_code 120 = .ok (.ireturn, 1) := by decide +kernel
def Q22a188 (Z : State) (y0 : Int32) (b11a : Addr) (k11b : ClassId) (h0 : Heap) (n0 : Nat) (v : Option Value) (h : Heap) (L : List Loc) : Prop := v = some (.int (17 : Int32)) ∧ Fr n0 L ∧ Keep h0 h [b11a] ∧ Arv Z h b11a k11b .byte (34 : Int32) [(.int (101 : Int32)), (.int (120 : Int32)), (.int (112 : Int32)), (.int (101 : Int32)), (.int (99 : Int32)), (.int (116 : Int32)), (.int (101 : Int32)), (.int (100 : Int32)), (.int (32 : Int32)), (.int (98 : Int32)), (.int (101 : Int32)), (.int (116 : Int32)), (.int (119 : Int32)), (.int (101 : Int32)), (.int (101 : Int32)), (.int (110 : Int32)), (.int (32 : Int32)), (.int (nar .byte ((48 : Int32) + y0))), (.int (0 : Int32)), (.int (0 : Int32)), (.int (0 : Int32)), (.int (0 : Int32)), (.int (0 : Int32)), (.int (0 : Int32)), (.int (0 : Int32)), (.int (0 : Int32)), (.int (0 : Int32)), (.int (0 : Int32)), (.int (0 : Int32)), (.int (0 : Int32)), (.int (0 : Int32)), (.int (0 : Int32)), (.int (0 : Int32)), (.int (0 : Int32))] (.int (0 : Int32))
set_option maxRecDepth 65536 in
set_option maxHeartbeats 40000000 in
theorem rm22a188 (l : Launch) (Z : State) (a0 : Array Value) (hw : HW a0 Z) (ws : List Jvm.Cond) (y0 : Int32) (b11a : Addr) (wd : Addr) (kd : ClassId) (vd : List Value) (k11b : ClassId) (h0 : Heap) (n0 : Nat) (Z0 : n0 ≤ h0.size) (PS1 : Sta Z h0 "java/lang/Integer" "DigitOnes" "[B" (.ref wd)) (PV2 : Arv Z h0 wd kd .byte (100 : Int32) vd (.int (0 : Int32))) (PV19 : Arv Z h0 b11a k11b .byte (34 : Int32) own_ls3 (.int (0 : Int32))) (PP1 : ¬ (y0 < (0 : Int32))) (PP3 : (-100 : Int32) < (-y0)) (PP4 : ¬ ((-(-y0)) < (0 : Int32))) (PP5 : (-(-y0)) < (100 : Int32)) (PP6 : y0 < (10 : Int32)) (PP7 : ¬ ((-y0) < (-9 : Int32))) (n_b11a : n0 ≤ b11a) (pr_d10_vd : own_D10 vd) :
    own_Met l mn18 jdk_33_method_12_code 7 (some .int) ws (oRm 0 0 0 0) #[(.int y0), (.int (18 : Int32)), (.ref b11a)] Z h0 (Q22a188 Z y0 b11a k11b h0 n0) := by
  refine own_met (own := "java/lang/Integer") rfl (plainFor_of_name pn_4) ?_
  intro p e s m below meth c s₁ hx hby hml hZ hown hnm X0 e0 Br Bs
  have N0 := Fr.nil n0
  have tt := own_tt hx hby own_ok22
  show own_Ends p e below s _ _ _ s₁ (mkF m 0 #[.val (.int y0), oI 18, oR b11a, oU, oU, oU, oU] [])
  refine own_go (T' := s₁) (f' := (mkF m 4 #[.val (.int y0), oI 18, oR b11a, oU, oU, oI 18, oU] [(.int y0)])) (fun _ k => own_e X0 tt 0 3 k rfl) ?_
  refine own_go (T' := s₁) (f' := (mkF m 25 #[.val (.int (-y0)), oI 18, oR b11a, oU, oU, oI 18, oI 0] [vI (-100), (.int (-y0))])) (fun _ k => XS.ifYes X0.here hx rfl (pc0 := 4) (pc' := 11) rfl (hb hby d22_4) rfl ((if0 _ _).trans (flt PP1).2.1) (by decide) (by decide) (own_e X0 tt 11 9 k rfl)) ?_
  refine own_go (T' := s₁) (f' := (mkF m 78 #[.val (.int (-y0)), oI 18, oR b11a, oU, oU, oI 17, oI 0] [vI 17, vR b11a])) (fun _ k => XS.icmpYes X0.here hx rfl (pc0 := 25) (pc' := 72) rfl (hb hby d22_25) rfl (tlt PP3).2.2.1 (by decide) (by decide) (own_e X0 tt 72 3 k rfl)) ?_
  obtain ⟨T74, X74, e74, st74⟩ := getS2 X0 hx hZ hown (host := "") (Or.inl (ow132 hw)) Via.refl e0 PS1 (g := (mkF m 78 #[.val (.int (-y0)), oI 18, oR b11a, oU, oU, oI 17, oI 0] [vI 17, vR b11a])) rfl (hb hby d22_78)
  refine own_go (T' := T74) (f' := (mkF m 83 #[.val (.int (-y0)), oI 18, oR b11a, oU, oU, oI 17, oI 0] [(.int (-(-y0))), vR wd, vI 17, vR b11a])) (fun _ k => st74 _ (own_e X74 tt 81 2 k rfl)) ?_
  refine own_go (T' := T74) (f' := (mkF m 84 #[.val (.int (-y0)), oI 18, oR b11a, oU, oU, oI 17, oI 0] [(.int ((48 : Int32) + y0)), vI 17, vR b11a])) (fun _ k => own_ldB X74 hx hZ e74 PV2 (j := (-(-y0))) (x := ((48 : Int32) + y0)) ⟨PP4, PP5⟩ (own_d10 pr_d10_vd PP1 PP6) rfl rfl (hb hby d22_83) k) ?_
  obtain ⟨T75, h75, X75, e75, W75, V75, st75⟩ := own_stB X74 hx hZ e74 PV19 (j := (17 : Int32)) ⟨by decide, by decide⟩ 17 rfl (Nat.le_of_ble_eq_true rfl) (g := (mkF m 84 #[.val (.int (-y0)), oI 18, oR b11a, oU, oU, oI 17, oI 0] [(.int ((48 : Int32) + y0)), vI 17, vR b11a])) rfl rfl (hb hby d22_84)
  have K75 : Keep h0 h75 [b11a] := (Keep.refl h0 [b11a]).wr W75 (Or.inl (List.mem_of_getElem? (i := 0) rfl))
  have V75s : Arv Z h75 b11a k11b .byte (34 : Int32) [(.int (101 : Int32)), (.int (120 : Int32)), (.int (112 : Int32)), (.int (101 : Int32)), (.int (99 : Int32)), (.int (116 : Int32)), (.int (101 : Int32)), (.int (100 : Int32)), (.int (32 : Int32)), (.int (98 : Int32)), (.int (101 : Int32)), (.int (116 : Int32)), (.int (119 : Int32)), (.int (101 : Int32)), (.int (101 : Int32)), (.int (110 : Int32)), (.int (32 : Int32)), (.int (nar .byte ((48 : Int32) + y0))), (.int (0 : Int32)), (.int (0 : Int32)), (.int (0 : Int32)), (.int (0 : Int32)), (.int (0 : Int32)), (.int (0 : Int32)), (.int (0 : Int32)), (.int (0 : Int32)), (.int (0 : Int32)), (.int (0 : Int32)), (.int (0 : Int32)), (.int (0 : Int32)), (.int (0 : Int32)), (.int (0 : Int32)), (.int (0 : Int32)), (.int (0 : Int32))] (.int (0 : Int32)) := V75
  have N75 := Fr.snoc X75 N0 n_b11a
  refine own_go (T' := T75) (f' := (mkF m 88 #[.val (.int (-y0)), oI 18, oR b11a, oU, oU, oI 17, oI 0] [vI (-9), (.int (-y0))])) (fun _ k => st75 _ (own_e X75 tt 85 2 k rfl)) ?_
  refine own_go (T' := T75) (f' := (mkF m 120 #[.val (.int (-y0)), oI 18, oR b11a, oU, oU, oI 17, oI 0] [vI 17])) (fun _ k => XS.icmpYes X75.here hx rfl (pc0 := 88) (pc' := 104) rfl (hb hby d22_88) rfl (flt PP7).2.1 (by decide) (by decide) (own_e X75 tt 104 3 k rfl)) ?_
  refine own_ret X75 (v := some (.int (17 : Int32))) (oN Br) Bs (fun fs hr => retI X75 hx Br (hb hby d22_120) hr) ?_ (by decide) (by decide)
  unfold Q22a188
  rw [e75]
  exact ⟨rfl, N75, K75, V75s⟩
def Q19a187 (Z : State) (b2 : Addr) (y0 : Int32) (b11a : Addr) (k11b : ClassId) (h0 : Heap) (n0 : Nat) (v : Option Value) (h : Heap) (L : List Loc) : Prop := v = some (.ref b2) ∧ Fr n0 L ∧ Keep h0 h [b11a, b2] ∧ Arv Z h b11a k11b .byte (34 : Int32) [(.int (101 : Int32)), (.int (120 : Int32)), (.int (112 : Int32)), (.int (101 : Int32)), (.int (99 : Int32)), (.int (116 : Int32)), (.int (101 : Int32)), (.int (100 : Int32)), (.int (32 : Int32)), (.int (98 : Int32)), (.int (101 : Int32)), (.int (116 : Int32)), (.int (119 : Int32)), (.int (101 : Int32)), (.int (101 : Int32)), (.int (110 : Int32)), (.int (32 : Int32)), (.int (nar .byte ((48 : Int32) + y0))), (.int (0 : Int32)), (.int (0 : Int32)), (.int (0 : Int32)), (.int (0 : Int32)), (.int (0 : Int32)), (.int (0 : Int32)), (.int (0 : Int32)), (.int (0 : Int32)), (.int (0 : Int32)), (.int (0 : Int32)), (.int (0 : Int32)), (.int (0 : Int32)), (.int (0 : Int32)), (.int (0 : Int32)), (.int (0 : Int32)), (.int (0 : Int32))] (.int (0 : Int32)) ∧ oF0 Z h b2 (.ref b11a) ∧ oF1 Z h b2 (.int (0 : Int32)) ∧ oF2 Z h b2 (.int (18 : Int32))
set_option maxRecDepth 65536 in
set_option maxHeartbeats 40000000 in
theorem rm19a187 (l : Launch) (Z : State) (a0 : Array Value) (hw : HW a0 Z) (ws : List Jvm.Cond) (b2 : Addr) (y0 : Int32) (cs : Int32) (wd : Addr) (kd : ClassId) (vd : List Value) (b11a : Addr) (k11b : ClassId) (h0 : Heap) (n0 : Nat) (Z0 : n0 ≤ h0.size) (PS0 : Sta Z h0 "java/lang/String" "COMPACT_STRINGS" "Z" (.int cs)) (PS1 : Sta Z h0 "java/lang/Integer" "DigitOnes" "[B" (.ref wd)) (PV2 : Arv Z h0 wd kd .byte (100 : Int32) vd (.int (0 : Int32))) (PE9 : Exa Z h0 b2 "java/lang/StringBuilder") (PF10 : oF0 Z h0 b2 (.ref b11a)) (PF11 : oF1 Z h0 b2 (.int (0 : Int32))) (PF12 : oF2 Z h0 b2 (.int (17 : Int32))) (PV19 : Arv Z h0 b11a k11b .byte (34 : Int32) own_ls3 (.int (0 : Int32))) (PP0 : ¬ (cs = (0 : Int32))) (PP1 : ¬ (y0 < (0 : Int32))) (PP2 : (-10 : Int32) < (-y0)) (PP3 : (-100 : Int32) < (-y0)) (PP4 : ¬ ((-(-y0)) < (0 : Int32))) (PP5 : (-(-y0)) < (100 : Int32)) (PP6 : y0 < (10 : Int32)) (PP7 : ¬ ((-y0) < (-9 : Int32))) (ne_b2_b11a : b2 ≠ b11a) (ne_b11a_b2 : b11a ≠ b2) (n_b2 : n0 ≤ b2) (n_b11a : n0 ≤ b11a) (pr_d10_vd : own_D10 vd) :
    own_Met l mn19 jdk_68_method_32_code 4 (some (.object "java/lang/AbstractStringBuilder")) ws (oRm 1 0 0 18) #[(.ref b2), (.int y0)] Z h0 (Q19a187 Z b2 y0 b11a k11b h0 n0) := by
  refine own_met (own := "java/lang/AbstractStringBuilder") rfl (plainFor_of_name pn_3) ?_
  intro p e s m below meth c s₁ hx hby hml hZ hown hnm X0 e0 Br Bs
  have N0 := Fr.nil n0
  have tt := own_tt hx hby own_ok19
  show own_Ends p e below s _ _ _ s₁ (mkF m 0 #[oR b2, .val (.int y0), oU, oU] [])
  refine own_go (T' := s₁) (f' := (mkF m 1 #[oR b2, .val (.int y0), oU, oU] [vR b2])) (fun _ k => own_e X0 tt 0 1 k rfl) ?_
  obtain ⟨T69, X69, e69, st69⟩ := getF X0 hx hZ hown (host := "") (Or.inl (ow66 hw)) Via.refl e0 PF12 (g := (mkF m 1 #[oR b2, .val (.int y0), oU, oU] [vR b2])) rfl rfl (hb hby d19_1)
  refine own_go (T' := T69) (f' := (mkF m 7 #[oR b2, .val (.int y0), oI 17, oU] [(.int y0), vI 17])) (fun _ k => st69 _ (own_e X69 tt 4 3 k rfl)) ?_
  obtain ⟨_, T70, Lc70, X70, hQ70, st70⟩ := own_outC (Jvm.LawKit.callS X69 hx (y := mn3) hown (mvT hZ (ow120 hw)) (mvT hZ (ow121 hw)) (mvT hZ (ow122 hw)) (mvT hZ (ow123 hw)) (by decide) (backOf (W := 1) (rm20a171 l Z a0 hw [] y0 h0 n0 Z0 PP1 PP2) hZ (ow123 hw) (ow122 hw) (by decide) (by decide)) (g := (mkF m 7 #[oR b2, .val (.int y0), oI 17, oU] [(.int y0), vI 17])) rfl (by rw [hml]; rfl) (argsL := [(.int y0)]) (rest := [(.int (17 : Int32))]) (lenOf pd8 rfl) rfl (by show 2 * 0 + _ ≤ _; exact Nat.le_of_eq rfl) (hb hby d19_7) (fun _ _ => ⟨rfl, e69, (by decide : 0 + 0 ≤ _), (by decide : 0 + 0 ≤ _)⟩))
  obtain ⟨rfl, N70q, hh70⟩ := hQ70
  have N70 := Fr.app N0 N70q
  obtain ⟨_, X70, N70⟩ := own_hide X70 N70
  refine own_go (T' := T70) (f' := (mkF m 14 #[oR b2, .val (.int y0), oI 17, oI 18] [vI 18, vR b2])) (fun _ k => st70 _ (own_e X70 tt 10 4 k rfl)) ?_
  obtain ⟨cq71, q71, q71'⟩ := PE9.cell
  obtain ⟨_, T71, Lc71, X71, hQ71, st71⟩ := own_out (X70.privateBack hx (y := mn11) hown (mvT hZ (ow68 hw)) (mvT hZ (ow69 hw)) (own_selp (mvT hZ (ow71 hw)) (Cond.privateMethod_at (mvP hZ (ow70 hw) (args := #[]))) (mvT hZ (ow69 hw)) (by decide)) (Cond.privateMethod_at (mvP hZ (ow70 hw) (args := #[]))) (mvT hZ (ow72 hw)) (by decide) (backOf (W := 0) (rm11a172 l Z a0 hw [] b2 b11a k11b h0 n0 Z0 PF10 PF11 PV19) hZ (ow72 hw) (ow25 hw) (by decide) (by decide)) (g := (mkF m 14 #[oR b2, .val (.int y0), oI 17, oI 18] [vI 18, vR b2])) rfl (by rw [hml]; rfl) (Steps.refl _) (a := b2) (by rw [hh70]; exact q71) q71' (argsL := [(.int (18 : Int32))]) (rest := []) (lenOf pd11 rfl) rfl (by show 2 * 0 + _ ≤ _; exact Nat.le_of_eq rfl) (hb hby d19_14) (fun _ _ => ⟨rfl, hh70, (by decide : 0 + 0 ≤ _), (by decide : 0 + 0 ≤ _)⟩))
  obtain ⟨rfl, N71q, hh71⟩ := hQ71
  have N71 := Fr.app N70 N71q
  obtain ⟨_, X71, N71⟩ := own_hide X71 N71
  refine own_go (T' := T71) (f' := (mkF m 18 #[oR b2, .val (.int y0), oI 17, oI 18] [vR b2])) (fun _ k => st71.trans (own_e X71 tt 17 1 k rfl)) ?_
  obtain ⟨cq72, kq72, q72a, q72b, q72c⟩ := isOf hZ hh71 PE9
  obtain ⟨_, T72, Lc72, X72, hQ72, st72⟩ := own_out (X71.virtualBack hx (y := mn17) (z := mn17) hown (mvT hZ (ow124 hw)) (mvT hZ (ow125 hw)) (notFace_of_selects (args := #[]) (mvT hZ (ow127 hw))) (mvT hZ (ow127 hw)) (mvT hZ (ow126 hw)) (by decide) (backOf (W := 0) (rm21a22 l Z a0 hw [] b2 cs h0 n0 Z0 PS0 PF11 PP0) hZ (ow128 hw) (ow25 hw) (by decide) (by decide)) q72a q72c (g := (mkF m 18 #[oR b2, .val (.int y0), oI 17, oI 18] [vR b2])) rfl (by rw [hml]; rfl) (Steps.refl _) (argsL := []) (rest := []) (lenOf pd6 rfl) rfl (by show 2 * 0 + _ ≤ _; exact Nat.le_of_eq rfl) (hb hby d19_18) (fun _ _ => ⟨rfl, hh71, (by decide : 0 + 0 ≤ _), (by decide : 0 + 0 ≤ _)⟩))
  obtain ⟨rfl, N72q, hh72⟩ := hQ72
  have N72 := Fr.app N71 N72q
  obtain ⟨_, X72, N72⟩ := own_hide X72 N72
  refine own_go (T' := T72) (f' := (mkF m 27 #[oR b2, .val (.int y0), oI 17, oI 18] [vR b2, vI 18, (.int y0)])) (fun _ k => st72.trans (own_e X72 tt 21 4 k rfl)) ?_
  obtain ⟨T73, X73, e73, st73⟩ := getF X72 hx hZ hown (host := "") (Or.inl (ow33 hw)) Via.refl hh72 PF10 (g := (mkF m 27 #[oR b2, .val (.int y0), oI 17, oI 18] [vR b2, vI 18, (.int y0)])) rfl rfl (hb hby d19_27)
  refine own_go (T' := T73) (f' := (mkF m 30 #[oR b2, .val (.int y0), oI 17, oI 18] [vR b11a, vI 18, (.int y0)])) (fun _ k => st73 _ k) ?_
  obtain ⟨_, T76, Lc76, X76, hQ76, st76⟩ := own_outC (Jvm.LawKit.callS X73 hx (y := mn18) hown (mvT hZ (ow129 hw)) (mvT hZ (ow130 hw)) (mvT hZ (ow122 hw)) (mvT hZ (ow131 hw)) (by decide) (backOf (W := 0) (rm22a188 l Z a0 hw [] y0 b11a wd kd vd k11b h0 n0 Z0 PS1 PV2 PV19 PP1 PP3 PP4 PP5 PP6 PP7 n_b11a pr_d10_vd) hZ (ow131 hw) (ow122 hw) (by decide) (by decide)) (g := (mkF m 30 #[oR b2, .val (.int y0), oI 17, oI 18] [vR b11a, vI 18, (.int y0)])) rfl (by rw [hml]; rfl) (argsL := [(.int y0), (.int (18 : Int32)), (.ref b11a)]) (rest := []) (lenOf pd16 rfl) rfl (by show 2 * 0 + _ ≤ _; exact Nat.le_of_eq rfl) (hb hby d19_30) (fun _ _ => ⟨rfl, e73, (by decide : 0 + 0 ≤ _), (by decide : 0 + 0 ≤ _)⟩))
  obtain ⟨rfl, N76q, K76, g76_0⟩ := hQ76
  have N76 := Fr.app N72 N76q
  have eK76 : T76.heap = T76.heap := rfl
  have KK76 : Keep h0 T76.heap [b11a, b2] := Keep.trans (Keep.refl h0 [b11a, b2]) K76 (allS (Or.inl (List.mem_of_getElem? (i := 0) rfl)) all0)
  obtain ⟨_, X76, N76⟩ := own_hide X76 N76
  refine own_go (T' := T76) (f' := (mkF m 50 #[oR b2, .val (.int y0), oI 17, oI 18] [vI 18, vR b2])) (fun _ k => st76 _ (own_e X76 tt 33 4 k rfl)) ?_
  obtain ⟨T77, h77, X77, e77, W77, st77⟩ := putF X76 hx hZ hown (host := "") (Or.inl (ow66 hw)) Via.refl eK76 (PF12.keep K76 (ninS ne_b2_b11a nin0)) (PE9.keep K76) (Or.inl (ow67 hw)) (ow16 hw) (ty := .int) (by decide) rfl rfl (g := (mkF m 50 #[oR b2, .val (.int y0), oI 17, oI 18] [vI 18, vR b2])) rfl rfl (hb hby d19_50)
  have Fw77 := Fld.same W77 (PF12.keep K76 (ninS ne_b2_b11a nin0))
  have K77 : Keep h0 h77 [b11a, b2] := KK76.wr W77 (Or.inl (List.mem_of_getElem? (i := 1) rfl))
  have N77 := Fr.snoc X77 N76 n_b2
  refine own_go (T' := T77) (f' := (mkF m 54 #[oR b2, .val (.int y0), oI 17, oI 18] [vR b2])) (fun _ k => st77 _ (own_e X77 tt 53 1 k rfl)) ?_
  refine own_ret X77 (v := some (.ref b2)) (oN Br) Bs (fun fs hr => own_retA X77 hx Br rfl rfl (hb hby d19_54) hr) ?_ (by decide) (by decide)
  unfold Q19a187
  rw [e77]
  exact ⟨rfl, N77, K77, (g76_0.other W77 ne_b11a_b2), ((PF10.keep K76 (ninS ne_b2_b11a nin0)).other W77 (Or.inr (sn_34_67 hw))), ((PF11.keep K76 (ninS ne_b2_b11a nin0)).other W77 (Or.inr (sn_36_67 hw))), Fw77⟩
def Q18a186 (Z : State) (b2 : Addr) (y0 : Int32) (b11a : Addr) (k11b : ClassId) (h0 : Heap) (n0 : Nat) (v : Option Value) (h : Heap) (L : List Loc) : Prop := v = some (.ref b2) ∧ Fr n0 L ∧ Keep h0 h [b2, b11a] ∧ oF0 Z h b2 (.ref b11a) ∧ oF1 Z h b2 (.int (0 : Int32)) ∧ oF2 Z h b2 (.int (18 : Int32)) ∧ Arv Z h b11a k11b .byte (34 : Int32) [(.int (101 : Int32)), (.int (120 : Int32)), (.int (112 : Int32)), (.int (101 : Int32)), (.int (99 : Int32)), (.int (116 : Int32)), (.int (101 : Int32)), (.int (100 : Int32)), (.int (32 : Int32)), (.int (98 : Int32)), (.int (101 : Int32)), (.int (116 : Int32)), (.int (119 : Int32)), (.int (101 : Int32)), (.int (101 : Int32)), (.int (110 : Int32)), (.int (32 : Int32)), (.int (nar .byte ((48 : Int32) + y0))), (.int (0 : Int32)), (.int (0 : Int32)), (.int (0 : Int32)), (.int (0 : Int32)), (.int (0 : Int32)), (.int (0 : Int32)), (.int (0 : Int32)), (.int (0 : Int32)), (.int (0 : Int32)), (.int (0 : Int32)), (.int (0 : Int32)), (.int (0 : Int32)), (.int (0 : Int32)), (.int (0 : Int32)), (.int (0 : Int32)), (.int (0 : Int32))] (.int (0 : Int32))
set_option maxRecDepth 65536 in
set_option maxHeartbeats 40000000 in
theorem rm18a186 (l : Launch) (Z : State) (a0 : Array Value) (hw : HW a0 Z) (ws : List Jvm.Cond) (b2 : Addr) (y0 : Int32) (cs : Int32) (wd : Addr) (kd : ClassId) (vd : List Value) (b11a : Addr) (k11b : ClassId) (h0 : Heap) (n0 : Nat) (Z0 : n0 ≤ h0.size) (PS0 : Sta Z h0 "java/lang/String" "COMPACT_STRINGS" "Z" (.int cs)) (PS1 : Sta Z h0 "java/lang/Integer" "DigitOnes" "[B" (.ref wd)) (PV2 : Arv Z h0 wd kd .byte (100 : Int32) vd (.int (0 : Int32))) (PE9 : Exa Z h0 b2 "java/lang/StringBuilder") (PF10 : oF0 Z h0 b2 (.ref b11a)) (PF11 : oF1 Z h0 b2 (.int (0 : Int32))) (PF12 : oF2 Z h0 b2 (.int (17 : Int32))) (PV19 : Arv Z h0 b11a k11b .byte (34 : Int32) own_ls3 (.int (0 : Int32))) (PP0 : ¬ (cs = (0 : Int32))) (PP1 : ¬ (y0 < (0 : Int32))) (PP2 : (-10 : Int32) < (-y0)) (PP3 : (-100 : Int32) < (-y0)) (PP4 : ¬ ((-(-y0)) < (0 : Int32))) (PP5 : (-(-y0)) < (100 : Int32)) (PP6 : y0 < (10 : Int32)) (PP7 : ¬ ((-y0) < (-9 : Int32))) (ne_b2_b11a : b2 ≠ b11a) (ne_b11a_b2 : b11a ≠ b2) (n_b2 : n0 ≤ b2) (n_b11a : n0 ≤ b11a) (pr_d10_vd : own_D10 vd) :
    own_Met l mn20 jdk_67_method_15_code 2 (some (.object "java/lang/StringBuilder")) ws (oRm 2 0 0 33) #[(.ref b2), (.int y0)] Z h0 (Q18a186 Z b2 y0 b11a k11b h0 n0) := by
  refine own_met (own := "java/lang/StringBuilder") rfl (plainFor_of_name pn_8) ?_
  intro p e s m below meth c s₁ hx hby hml hZ hown hnm X0 e0 Br Bs
  have N0 := Fr.nil n0
  have tt := own_tt hx hby own_ok18
  show own_Ends p e below s _ _ _ s₁ (mkF m 0 #[oR b2, .val (.int y0)] [])
  refine own_go (T' := s₁) (f' := (mkF m 2 #[oR b2, .val (.int y0)] [(.int y0), vR b2])) (fun _ k => own_e X0 tt 0 2 k rfl) ?_
  obtain ⟨_, T78, Lc78, X78, hQ78, st78⟩ := own_out (superBack X0 hx hZ (y := mn19) hown (ow116 hw) (own_same (y := mn19) (y2 := mn11) (ow71 hw) rfl (ow117 hw) (by decide)) (ow117 hw) (ow50 hw) (by decide) (backOf (W := 0) (rm19a187 l Z a0 hw [] b2 y0 cs wd kd vd b11a k11b h0 n0 Z0 PS0 PS1 PV2 PE9 PF10 PF11 PF12 PV19 PP0 PP1 PP2 PP3 PP4 PP5 PP6 PP7 ne_b2_b11a ne_b11a_b2 n_b2 n_b11a pr_d10_vd) hZ (ow119 hw) (ow25 hw) (by decide) (by decide)) e0 (Ins.self PE9) (g := (mkF m 2 #[oR b2, .val (.int y0)] [(.int y0), vR b2])) rfl (by rw [hml]; rfl) (ow119 hw) (argsL := [(.int y0)]) (rest := []) (lenOf pd9 rfl) rfl (by show 2 * 0 + _ ≤ _; exact Nat.le_of_eq rfl) (hb hby d18_2) (fun _ _ => ⟨rfl, e0, (by decide : 0 + 0 ≤ _), (by decide : 0 + 0 ≤ _)⟩))
  obtain ⟨rfl, N78q, K78, g78_0, g78_1, g78_2, g78_3⟩ := hQ78
  have N78 := Fr.app N0 N78q
  have eK78 : T78.heap = T78.heap := rfl
  have KK78 : Keep h0 T78.heap [b2, b11a] := Keep.trans (Keep.refl h0 [b2, b11a]) K78 (allS (Or.inl (List.mem_of_getElem? (i := 1) rfl)) (allS (Or.inl (List.mem_of_getElem? (i := 0) rfl)) all0))
  obtain ⟨_, X78, N78⟩ := own_hide X78 N78
  refine own_go (T' := T78) (f' := (mkF m 7 #[oR b2, .val (.int y0)] [vR b2])) (fun _ k => st78.trans (own_e X78 tt 5 2 k rfl)) ?_
  refine own_ret X78 (v := some (.ref b2)) (oN Br) Bs (fun fs hr => own_retA X78 hx Br rfl rfl (hb hby d18_7) hr) ?_ (by decide) (by decide)
  unfold Q18a186
  rw [eK78]
  exact ⟨rfl, N78, KK78, g78_1, g78_2, g78_3, g78_0⟩
def Q11a191 (Z : State)  (h0 : Heap) (n0 : Nat) (v : Option Value) (h : Heap) (L : List Loc) : Prop := v = none ∧ Fr n0 L ∧ h = h0
set_option maxRecDepth 65536 in
set_option maxHeartbeats 40000000 in
theorem rm11a191 (l : Launch) (Z : State) (a0 : Array Value) (hw : HW a0 Z) (ws : List Jvm.Cond) (b2 : Addr) (b11a : Addr) (k11b : ClassId) (i85 : Int32) (h0 : Heap) (n0 : Nat) (Z0 : n0 ≤ h0.size) (PF10 : oF0 Z h0 b2 (.ref b11a)) (PF11 : oF1 Z h0 b2 (.int (0 : Int32))) (PV19 : Arv Z h0 b11a k11b .byte (34 : Int32) [(.int (101 : Int32)), (.int (120 : Int32)), (.int (112 : Int32)), (.int (101 : Int32)), (.int (99 : Int32)), (.int (116 : Int32)), (.int (101 : Int32)), (.int (100 : Int32)), (.int (32 : Int32)), (.int (98 : Int32)), (.int (101 : Int32)), (.int (116 : Int32)), (.int (119 : Int32)), (.int (101 : Int32)), (.int (101 : Int32)), (.int (110 : Int32)), (.int (32 : Int32)), (.int i85), (.int (0 : Int32)), (.int (0 : Int32)), (.int (0 : Int32)), (.int (0 : Int32)), (.int (0 : Int32)), (.int (0 : Int32)), (.int (0 : Int32)), (.int (0 : Int32)), (.int (0 : Int32)), (.int (0 : Int32)), (.int (0 : Int32)), (.int (0 : Int32)), (.int (0 : Int32)), (.int (0 : Int32)), (.int (0 : Int32)), (.int (0 : Int32))] (.int (0 : Int32))) :
    own_Met l mn11 jdk_68_method_9_code 3 none ws (oRm 0 0 0 0) #[(.ref b2), (.int (23 : Int32))] Z h0 (Q11a191 Z  h0 n0) := by
  refine own_met (own := "java/lang/AbstractStringBuilder") rfl (plainFor_of_name pn_3) ?_
  intro p e s m below meth c s₁ hx hby hml hZ hown hnm X0 e0 Br Bs
  have N0 := Fr.nil n0
  have tt := own_tt hx hby own_ok11
  show own_Ends p e below s _ _ _ s₁ (mkF m 0 #[oR b2, oI 23, oU] [])
  refine own_go (T' := s₁) (f' := (mkF m 1 #[oR b2, oI 23, oU] [vR b2])) (fun _ k => own_e X0 tt 0 1 k rfl) ?_
  obtain ⟨T88, X88, e88, st88⟩ := getF X0 hx hZ hown (host := "") (Or.inl (ow33 hw)) Via.refl e0 PF10 (g := (mkF m 1 #[oR b2, oI 23, oU] [vR b2])) rfl rfl (hb hby d11_1)
  refine own_go (T' := T88) (f' := (mkF m 6 #[oR b2, oI 23, oU] [vR b2, vI 34])) (fun _ k => st88 _ (own_alen X88 hx hZ e88 PV19 rfl rfl (hb hby d11_4) (own_e X88 tt 5 1 k rfl))) ?_
  obtain ⟨T89, X89, e89, st89⟩ := getF X88 hx hZ hown (host := "") (Or.inl (ow35 hw)) Via.refl e88 PF11 (g := (mkF m 6 #[oR b2, oI 23, oU] [vR b2, vI 34])) rfl rfl (hb hby d11_6)
  refine own_go (T' := T89) (f' := (mkF m 38 #[oR b2, oI 23, oI 34] [])) (fun _ k => st89 _ (own_e X89 tt 9 6 k rfl)) ?_
  refine own_ret X89 (v := none) (fun _ => rfl) Bs (fun fs hr => X89.returnOut hx Br (hb hby d11_38) hr) ?_ (by decide) (by decide)
  unfold Q11a191
  exact ⟨rfl, N0, e89⟩
def Q17a193 (Z : State) (b11a : Addr) (k11b : ClassId) (i85 : Int32) (h0 : Heap) (n0 : Nat) (v : Option Value) (h : Heap) (L : List Loc) : Prop := v = none ∧ Fr n0 L ∧ Keep h0 h [b11a] ∧ Arv Z h b11a k11b .byte (34 : Int32) [(.int (101 : Int32)), (.int (120 : Int32)), (.int (112 : Int32)), (.int (101 : Int32)), (.int (99 : Int32)), (.int (116 : Int32)), (.int (101 : Int32)), (.int (100 : Int32)), (.int (32 : Int32)), (.int (98 : Int32)), (.int (101 : Int32)), (.int (116 : Int32)), (.int (119 : Int32)), (.int (101 : Int32)), (.int (101 : Int32)), (.int (110 : Int32)), (.int (32 : Int32)), (.int i85), (.int (32 : Int32)), (.int (97 : Int32)), (.int (110 : Int32)), (.int (100 : Int32)), (.int (32 : Int32)), (.int (0 : Int32)), (.int (0 : Int32)), (.int (0 : Int32)), (.int (0 : Int32)), (.int (0 : Int32)), (.int (0 : Int32)), (.int (0 : Int32)), (.int (0 : Int32)), (.int (0 : Int32)), (.int (0 : Int32)), (.int (0 : Int32))] (.int (0 : Int32))
set_option maxRecDepth 65536 in
set_option maxHeartbeats 40000000 in
theorem rm17a193 (l : Launch) (Z : State) (a0 : Array Value) (hw : HW a0 Z) (ws : List Jvm.Cond) (a83 : Addr) (b11a : Addr) (cs : Int32) (k11b : ClassId) (i85 : Int32) (b83 : Addr) (kc83 : ClassId) (h0 : Heap) (n0 : Nat) (Z0 : n0 ≤ h0.size) (PS0 : Sta Z h0 "java/lang/String" "COMPACT_STRINGS" "Z" (.int cs)) (PV19 : Arv Z h0 b11a k11b .byte (34 : Int32) [(.int (101 : Int32)), (.int (120 : Int32)), (.int (112 : Int32)), (.int (101 : Int32)), (.int (99 : Int32)), (.int (116 : Int32)), (.int (101 : Int32)), (.int (100 : Int32)), (.int (32 : Int32)), (.int (98 : Int32)), (.int (101 : Int32)), (.int (116 : Int32)), (.int (119 : Int32)), (.int (101 : Int32)), (.int (101 : Int32)), (.int (110 : Int32)), (.int (32 : Int32)), (.int i85), (.int (0 : Int32)), (.int (0 : Int32)), (.int (0 : Int32)), (.int (0 : Int32)), (.int (0 : Int32)), (.int (0 : Int32)), (.int (0 : Int32)), (.int (0 : Int32)), (.int (0 : Int32)), (.int (0 : Int32)), (.int (0 : Int32)), (.int (0 : Int32)), (.int (0 : Int32)), (.int (0 : Int32)), (.int (0 : Int32)), (.int (0 : Int32))] (.int (0 : Int32))) (PE21 : Exa Z h0 a83 "java/lang/String") (PF22 : oF3 Z h0 a83 (.int (0 : Int32))) (PF23 : oF4 Z h0 a83 (.ref b83)) (PV24 : Arv Z h0 b83 kc83 .byte (5 : Int32) own_ls4 (.int (0 : Int32))) (PP0 : ¬ (cs = (0 : Int32))) (n_b11a : n0 ≤ b11a) :
    own_Met l mn13 jdk_42_method_147_code 4 none ws (oRm 1 0 0 18) #[(.ref a83), (.ref b11a), (.int (18 : Int32)), (.int (0 : Int32))] Z h0 (Q17a193 Z b11a k11b i85 h0 n0) := by
  refine own_met (own := "java/lang/String") rfl (plainFor_of_name pn_7) ?_
  intro p e s m below meth c s₁ hx hby hml hZ hown hnm X0 e0 Br Bs
  have N0 := Fr.nil n0
  have tt := own_tt hx hby own_ok17
  show own_Ends p e below s _ _ _ s₁ (mkF m 0 #[oR a83, oR b11a, oI 18, oI 0] [])
  refine own_go (T' := s₁) (f' := (mkF m 1 #[oR a83, oR b11a, oI 18, oI 0] [vR a83])) (fun _ k => own_e X0 tt 0 1 k rfl) ?_
  obtain ⟨cq95, kq95, q95a, q95b, q95c⟩ := isOf hZ e0 PE21
  obtain ⟨_, T95, Lc95, X95, hQ95, st95⟩ := own_out (X0.virtualBack hx (y := mn6) (z := mn6) hown (mvT hZ (ow59 hw)) (mvT hZ (ow60 hw)) (notFace_of_selects (args := #[]) (mvT hZ (ow62 hw))) (mvT hZ (ow62 hw)) (mvT hZ (ow61 hw)) (by decide) (backOf (W := 0) (rm10a6 l Z a0 hw [] a83 cs h0 n0 Z0 PS0 PF22 PP0) hZ (ow63 hw) (ow31 hw) (by decide) (by decide)) q95a q95c (g := (mkF m 1 #[oR a83, oR b11a, oI 18, oI 0] [vR a83])) rfl (by rw [hml]; rfl) (Steps.refl _) (argsL := []) (rest := []) (lenOf pd0 rfl) rfl (by show 2 * 0 + _ ≤ _; exact Nat.le_of_eq rfl) (hb hby d17_1) (fun _ _ => ⟨rfl, e0, (by decide : 0 + 0 ≤ _), (by decide : 0 + 0 ≤ _)⟩))
  obtain ⟨rfl, N95q, hh95⟩ := hQ95
  have N95 := Fr.app N0 N95q
  obtain ⟨_, X95, N95⟩ := own_hide X95 N95
  refine own_go (T' := T95) (f' := (mkF m 9 #[oR a83, oR b11a, oI 18, oI 0] [vR a83])) (fun _ k => st95.trans (own_e X95 tt 4 3 k rfl)) ?_
  obtain ⟨T96, X96, e96, st96⟩ := getF X95 hx hZ hown (host := "") (Or.inl (ow58 hw)) Via.refl hh95 PF23 (g := (mkF m 9 #[oR a83, oR b11a, oI 18, oI 0] [vR a83])) rfl rfl (hb hby d17_9)
  refine own_go (T' := T96) (f' := (mkF m 18 #[oR a83, oR b11a, oI 18, oI 0] [vR a83, vI 18, vR b11a, vI 0, vR b83])) (fun _ k => st96 _ (own_e X96 tt 12 6 k rfl)) ?_
  obtain ⟨T97, X97, e97, st97⟩ := getF X96 hx hZ hown (host := "") (Or.inl (ow58 hw)) Via.refl e96 PF23 (g := (mkF m 18 #[oR a83, oR b11a, oI 18, oI 0] [vR a83, vI 18, vR b11a, vI 0, vR b83])) rfl rfl (hb hby d17_18)
  refine own_go (T' := T97) (f' := (mkF m 22 #[oR a83, oR b11a, oI 18, oI 0] [vI 5, vI 18, vR b11a, vI 0, vR b83])) (fun _ k => st97 _ (own_alen X97 hx hZ e97 PV24 rfl rfl (hb hby d17_21) k)) ?_
  obtain ⟨T98, h98, Lq98, X98, e98, N98, K98, V98, st98⟩ := cpA X97 hx hZ hown (ow110 hw) (ow93 hw) (ow91 hw) (ow92 hw) e97 PV24 PV19 (Or.inl ⟨rfl, rfl⟩) (sp := (0 : Int32)) (dp := (18 : Int32)) (nn := (5 : Int32)) (by decide) (by decide) (by decide) (by decide) (by decide) (us := own_ls4) rfl (Nat.le_of_ble_eq_true rfl) N95 n_b11a (g := (mkF m 22 #[oR a83, oR b11a, oI 18, oI 0] [vI 5, vI 18, vR b11a, vI 0, vR b83])) rfl (by rw [hml]; rfl) rfl (hb hby d17_22) (by decide) (W := 0) (by show 2 * 0 + _ ≤ _; exact Nat.le_of_eq rfl) (by decide)
  have V98s : Arv Z h98 b11a k11b .byte (34 : Int32) [(.int (101 : Int32)), (.int (120 : Int32)), (.int (112 : Int32)), (.int (101 : Int32)), (.int (99 : Int32)), (.int (116 : Int32)), (.int (101 : Int32)), (.int (100 : Int32)), (.int (32 : Int32)), (.int (98 : Int32)), (.int (101 : Int32)), (.int (116 : Int32)), (.int (119 : Int32)), (.int (101 : Int32)), (.int (101 : Int32)), (.int (110 : Int32)), (.int (32 : Int32)), (.int i85), (.int (32 : Int32)), (.int (97 : Int32)), (.int (110 : Int32)), (.int (100 : Int32)), (.int (32 : Int32)), (.int (0 : Int32)), (.int (0 : Int32)), (.int (0 : Int32)), (.int (0 : Int32)), (.int (0 : Int32)), (.int (0 : Int32)), (.int (0 : Int32)), (.int (0 : Int32)), (.int (0 : Int32)), (.int (0 : Int32)), (.int (0 : Int32))] (.int (0 : Int32)) := V98
  have KK98 : Keep h0 h98 [b11a] := Keep.trans (Keep.refl h0 [b11a]) K98 (allS (Or.inl (List.mem_of_getElem? (i := 0) rfl)) all0)
  refine own_go (T' := T98) (f' := (mkF m 43 #[oR a83, oR b11a, oI 18, oI 0] [])) (fun _ k => st98 _ (own_e X98 tt 25 1 k rfl)) ?_
  refine own_ret X98 (v := none) (fun _ => rfl) Bs (fun fs hr => X98.returnOut hx Br (hb hby d17_43) hr) ?_ (by decide) (by decide)
  unfold Q17a193
  rw [e98]
  exact ⟨rfl, N98, KK98, V98s⟩
def Q15a192 (Z : State) (b11a : Addr) (k11b : ClassId) (i85 : Int32) (h0 : Heap) (n0 : Nat) (v : Option Value) (h : Heap) (L : List Loc) : Prop := v = none ∧ Fr n0 L ∧ Keep h0 h [b11a] ∧ Arv Z h b11a k11b .byte (34 : Int32) [(.int (101 : Int32)), (.int (120 : Int32)), (.int (112 : Int32)), (.int (101 : Int32)), (.int (99 : Int32)), (.int (116 : Int32)), (.int (101 : Int32)), (.int (100 : Int32)), (.int (32 : Int32)), (.int (98 : Int32)), (.int (101 : Int32)), (.int (116 : Int32)), (.int (119 : Int32)), (.int (101 : Int32)), (.int (101 : Int32)), (.int (110 : Int32)), (.int (32 : Int32)), (.int i85), (.int (32 : Int32)), (.int (97 : Int32)), (.int (110 : Int32)), (.int (100 : Int32)), (.int (32 : Int32)), (.int (0 : Int32)), (.int (0 : Int32)), (.int (0 : Int32)), (.int (0 : Int32)), (.int (0 : Int32)), (.int (0 : Int32)), (.int (0 : Int32)), (.int (0 : Int32)), (.int (0 : Int32)), (.int (0 : Int32)), (.int (0 : Int32))] (.int (0 : Int32))
set_option maxRecDepth 65536 in
set_option maxHeartbeats 40000000 in
theorem rm15a192 (l : Launch) (Z : State) (a0 : Array Value) (hw : HW a0 Z) (ws : List Jvm.Cond) (b2 : Addr) (a83 : Addr) (cs : Int32) (b11a : Addr) (k11b : ClassId) (i85 : Int32) (b83 : Addr) (kc83 : ClassId) (h0 : Heap) (n0 : Nat) (Z0 : n0 ≤ h0.size) (PS0 : Sta Z h0 "java/lang/String" "COMPACT_STRINGS" "Z" (.int cs)) (PE9 : Exa Z h0 b2 "java/lang/StringBuilder") (PF10 : oF0 Z h0 b2 (.ref b11a)) (PF11 : oF1 Z h0 b2 (.int (0 : Int32))) (PV19 : Arv Z h0 b11a k11b .byte (34 : Int32) [(.int (101 : Int32)), (.int (120 : Int32)), (.int (112 : Int32)), (.int (101 : Int32)), (.int (99 : Int32)), (.int (116 : Int32)), (.int (101 : Int32)), (.int (100 : Int32)), (.int (32 : Int32)), (.int (98 : Int32)), (.int (101 : Int32)), (.int (116 : Int32)), (.int (119 : Int32)), (.int (101 : Int32)), (.int (101 : Int32)), (.int (110 : Int32)), (.int (32 : Int32)), (.int i85), (.int (0 : Int32)), (.int (0 : Int32)), (.int (0 : Int32)), (.int (0 : Int32)), (.int (0 : Int32)), (.int (0 : Int32)), (.int (0 : Int32)), (.int (0 : Int32)), (.int (0 : Int32)), (.int (0 : Int32)), (.int (0 : Int32)), (.int (0 : Int32)), (.int (0 : Int32)), (.int (0 : Int32)), (.int (0 : Int32)), (.int (0 : Int32))] (.int (0 : Int32))) (PE21 : Exa Z h0 a83 "java/lang/String") (PF22 : oF3 Z h0 a83 (.int (0 : Int32))) (PF23 : oF4 Z h0 a83 (.ref b83)) (PV24 : Arv Z h0 b83 kc83 .byte (5 : Int32) own_ls4 (.int (0 : Int32))) (PP0 : ¬ (cs = (0 : Int32))) (n_b11a : n0 ≤ b11a) :
    own_Met l mn14 jdk_68_method_73_code 3 none ws (oRm 2 0 0 33) #[(.ref b2), (.int (18 : Int32)), (.ref a83)] Z h0 (Q15a192 Z b11a k11b i85 h0 n0) := by
  refine own_met (own := "java/lang/AbstractStringBuilder") rfl (plainFor_of_name pn_3) ?_
  intro p e s m below meth c s₁ hx hby hml hZ hown hnm X0 e0 Br Bs
  have N0 := Fr.nil n0
  have tt := own_tt hx hby own_ok15
  show own_Ends p e below s _ _ _ s₁ (mkF m 0 #[oR b2, oI 18, oR a83] [])
  refine own_go (T' := s₁) (f' := (mkF m 2 #[oR b2, oI 18, oR a83] [vR a83, vR b2])) (fun _ k => own_e X0 tt 0 2 k rfl) ?_
  obtain ⟨cq92, q92, q92'⟩ := PE9.cell
  obtain ⟨_, T92, Lc92, X92, hQ92, st92⟩ := own_out (X0.privateBack hx (y := mn12) hown (mvT hZ (ow99 hw)) (mvT hZ (ow100 hw)) (own_selp (mvT hZ (ow102 hw)) (Cond.privateMethod_at (mvP hZ (ow101 hw) (args := #[]))) (mvT hZ (ow100 hw)) (by decide)) (Cond.privateMethod_at (mvP hZ (ow101 hw) (args := #[]))) (mvT hZ (ow103 hw)) (by decide) (backOf (W := 0) (rm16a14 l Z a0 hw [] b2 a83 cs h0 n0 Z0 PS0 PF11 PE21 PF22 PP0) hZ (ow103 hw) (ow25 hw) (by decide) (by decide)) (g := (mkF m 2 #[oR b2, oI 18, oR a83] [vR a83, vR b2])) rfl (by rw [hml]; rfl) (Steps.refl _) (a := b2) (by rw [e0]; exact q92) q92' (argsL := [(.ref a83)]) (rest := []) (lenOf pd24 rfl) rfl (by show 2 * 0 + _ ≤ _; exact Nat.le_of_eq rfl) (hb hby d15_2) (fun _ _ => ⟨rfl, e0, (by decide : 0 + 0 ≤ _), (by decide : 0 + 0 ≤ _)⟩))
  obtain ⟨rfl, N92q, hh92⟩ := hQ92
  have N92 := Fr.app N0 N92q
  obtain ⟨_, X92, N92⟩ := own_hide X92 N92
  refine own_go (T' := T92) (f' := (mkF m 7 #[oR b2, oI 18, oR a83] [vR b2, vR a83])) (fun _ k => st92.trans (own_e X92 tt 5 2 k rfl)) ?_
  obtain ⟨T93, X93, e93, st93⟩ := getF X92 hx hZ hown (host := "") (Or.inl (ow33 hw)) Via.refl hh92 PF10 (g := (mkF m 7 #[oR b2, oI 18, oR a83] [vR b2, vR a83])) rfl rfl (hb hby d15_7)
  refine own_go (T' := T93) (f' := (mkF m 12 #[oR b2, oI 18, oR a83] [vR b2, vI 18, vR b11a, vR a83])) (fun _ k => st93 _ (own_e X93 tt 10 2 k rfl)) ?_
  obtain ⟨T94, X94, e94, st94⟩ := getF X93 hx hZ hown (host := "") (Or.inl (ow35 hw)) Via.refl e93 PF11 (g := (mkF m 12 #[oR b2, oI 18, oR a83] [vR b2, vI 18, vR b11a, vR a83])) rfl rfl (hb hby d15_12)
  refine own_go (T' := T94) (f' := (mkF m 15 #[oR b2, oI 18, oR a83] [vI 0, vI 18, vR b11a, vR a83])) (fun _ k => st94 _ k) ?_
  obtain ⟨cq99, kq99, q99a, q99b, q99c⟩ := isOf hZ e94 PE21
  obtain ⟨_, T99, Lc99, X99, hQ99, st99⟩ := own_out (X94.virtualBack hx (y := mn13) (z := mn13) hown (mvT hZ (ow105 hw)) (mvT hZ (ow106 hw)) (notFace_of_selects (args := #[]) (mvT hZ (ow108 hw))) (mvT hZ (ow108 hw)) (mvT hZ (ow107 hw)) (by decide) (backOf (W := 0) (rm17a193 l Z a0 hw [] a83 b11a cs k11b i85 b83 kc83 h0 n0 Z0 PS0 PV19 PE21 PF22 PF23 PV24 PP0 n_b11a) hZ (ow109 hw) (ow31 hw) (by decide) (by decide)) q99a q99c (g := (mkF m 15 #[oR b2, oI 18, oR a83] [vI 0, vI 18, vR b11a, vR a83])) rfl (by rw [hml]; rfl) (Steps.refl _) (argsL := [(.ref b11a), (.int (18 : Int32)), (.int (0 : Int32))]) (rest := []) (lenOf pd28 rfl) rfl (by show 2 * 0 + _ ≤ _; exact Nat.le_of_eq rfl) (hb hby d15_15) (fun _ _ => ⟨rfl, e94, (by decide : 0 + 0 ≤ _), (by decide : 0 + 0 ≤ _)⟩))
  obtain ⟨rfl, N99q, K99, g99_0⟩ := hQ99
  have N99 := Fr.app N92 N99q
  have eK99 : T99.heap = T99.heap := rfl
  have KK99 : Keep h0 T99.heap [b11a] := Keep.trans (Keep.refl h0 [b11a]) K99 (allS (Or.inl (List.mem_of_getElem? (i := 0) rfl)) all0)
  obtain ⟨_, X99, N99⟩ := own_hide X99 N99
  refine own_go (T' := T99) (f' := (mkF m 18 #[oR b2, oI 18, oR a83] [])) (fun _ k => st99.trans k) ?_
  refine own_ret X99 (v := none) (fun _ => rfl) Bs (fun fs hr => X99.returnOut hx Br (hb hby d15_18) hr) ?_ (by decide) (by decide)
  unfold Q15a192
  rw [eK99]
  exact ⟨rfl, N99, KK99, g99_0⟩
def Q8a190 (Z : State) (b2 : Addr) (b11a : Addr) (k11b : ClassId) (i85 : Int32) (h0 : Heap) (n0 : Nat) (v : Option Value) (h : Heap) (L : List Loc) : Prop := v = some (.ref b2) ∧ Fr n0 L ∧ Keep h0 h [b11a, b2] ∧ Arv Z h b11a k11b .byte (34 : Int32) [(.int (101 : Int32)), (.int (120 : Int32)), (.int (112 : Int32)), (.int (101 : Int32)), (.int (99 : Int32)), (.int (116 : Int32)), (.int (101 : Int32)), (.int (100 : Int32)), (.int (32 : Int32)), (.int (98 : Int32)), (.int (101 : Int32)), (.int (116 : Int32)), (.int (119 : Int32)), (.int (101 : Int32)), (.int (101 : Int32)), (.int (110 : Int32)), (.int (32 : Int32)), (.int i85), (.int (32 : Int32)), (.int (97 : Int32)), (.int (110 : Int32)), (.int (100 : Int32)), (.int (32 : Int32)), (.int (0 : Int32)), (.int (0 : Int32)), (.int (0 : Int32)), (.int (0 : Int32)), (.int (0 : Int32)), (.int (0 : Int32)), (.int (0 : Int32)), (.int (0 : Int32)), (.int (0 : Int32)), (.int (0 : Int32)), (.int (0 : Int32))] (.int (0 : Int32)) ∧ oF0 Z h b2 (.ref b11a) ∧ oF1 Z h b2 (.int (0 : Int32)) ∧ oF2 Z h b2 (.int (23 : Int32))
set_option maxRecDepth 65536 in
set_option maxHeartbeats 40000000 in
theorem rm8a190 (l : Launch) (Z : State) (a0 : Array Value) (hw : HW a0 Z) (ws : List Jvm.Cond) (b2 : Addr) (a83 : Addr) (cs : Int32) (b11a : Addr) (k11b : ClassId) (i85 : Int32) (b83 : Addr) (kc83 : ClassId) (h0 : Heap) (n0 : Nat) (Z0 : n0 ≤ h0.size) (PS0 : Sta Z h0 "java/lang/String" "COMPACT_STRINGS" "Z" (.int cs)) (PE9 : Exa Z h0 b2 "java/lang/StringBuilder") (PF10 : oF0 Z h0 b2 (.ref b11a)) (PF11 : oF1 Z h0 b2 (.int (0 : Int32))) (PF12 : oF2 Z h0 b2 (.int (18 : Int32))) (PV19 : Arv Z h0 b11a k11b .byte (34 : Int32) [(.int (101 : Int32)), (.int (120 : Int32)), (.int (112 : Int32)), (.int (101 : Int32)), (.int (99 : Int32)), (.int (116 : Int32)), (.int (101 : Int32)), (.int (100 : Int32)), (.int (32 : Int32)), (.int (98 : Int32)), (.int (101 : Int32)), (.int (116 : Int32)), (.int (119 : Int32)), (.int (101 : Int32)), (.int (101 : Int32)), (.int (110 : Int32)), (.int (32 : Int32)), (.int i85), (.int (0 : Int32)), (.int (0 : Int32)), (.int (0 : Int32)), (.int (0 : Int32)), (.int (0 : Int32)), (.int (0 : Int32)), (.int (0 : Int32)), (.int (0 : Int32)), (.int (0 : Int32)), (.int (0 : Int32)), (.int (0 : Int32)), (.int (0 : Int32)), (.int (0 : Int32)), (.int (0 : Int32)), (.int (0 : Int32)), (.int (0 : Int32))] (.int (0 : Int32))) (PE21 : Exa Z h0 a83 "java/lang/String") (PF22 : oF3 Z h0 a83 (.int (0 : Int32))) (PF23 : oF4 Z h0 a83 (.ref b83)) (PV24 : Arv Z h0 b83 kc83 .byte (5 : Int32) own_ls4 (.int (0 : Int32))) (PP0 : ¬ (cs = (0 : Int32))) (ne_b2_b11a : b2 ≠ b11a) (ne_b11a_b2 : b11a ≠ b2) (n_b2 : n0 ≤ b2) (n_b11a : n0 ≤ b11a) :
    own_Met l mn15 jdk_68_method_22_code 3 (some (.object "java/lang/AbstractStringBuilder")) ws (oRm 3 0 0 47) #[(.ref b2), (.ref a83)] Z h0 (Q8a190 Z b2 b11a k11b i85 h0 n0) := by
  refine own_met (own := "java/lang/AbstractStringBuilder") rfl (plainFor_of_name pn_3) ?_
  intro p e s m below meth c s₁ hx hby hml hZ hown hnm X0 e0 Br Bs
  have N0 := Fr.nil n0
  have tt := own_tt hx hby own_ok8
  show own_Ends p e below s _ _ _ s₁ (mkF m 0 #[oR b2, oR a83, oU] [])
  refine own_go (T' := s₁) (f' := (mkF m 10 #[oR b2, oR a83, oU] [vR a83])) (fun _ k => own_e X0 tt 0 3 k rfl) ?_
  obtain ⟨cq86, kq86, q86a, q86b, q86c⟩ := isOf hZ e0 PE21
  obtain ⟨_, T86, Lc86, X86, hQ86, st86⟩ := own_out (X0.virtualBack hx (y := mn7) (z := mn7) hown (mvT hZ (ow53 hw)) (mvT hZ (ow54 hw)) (notFace_of_selects (args := #[]) (mvT hZ (ow56 hw))) (mvT hZ (ow56 hw)) (mvT hZ (ow55 hw)) (by decide) (backOf (W := 0) (rm9a29 l Z a0 hw [] a83 cs b83 kc83 h0 n0 Z0 PS0 PE21 PF22 PF23 PV24 PP0) hZ (ow57 hw) (ow31 hw) (by decide) (by decide)) q86a q86c (g := (mkF m 10 #[oR b2, oR a83, oU] [vR a83])) rfl (by rw [hml]; rfl) (Steps.refl _) (argsL := []) (rest := []) (lenOf pd1 rfl) rfl (by show 2 * 0 + _ ≤ _; exact Nat.le_of_eq rfl) (hb hby d8_10) (fun _ _ => ⟨rfl, e0, (by decide : 0 + 0 ≤ _), (by decide : 0 + 0 ≤ _)⟩))
  obtain ⟨rfl, N86q, hh86⟩ := hQ86
  have N86 := Fr.app N0 N86q
  obtain ⟨_, X86, N86⟩ := own_hide X86 N86
  refine own_go (T' := T86) (f' := (mkF m 16 #[oR b2, oR a83, oI 5] [vR b2, vR b2])) (fun _ k => st86.trans (own_e X86 tt 13 3 k rfl)) ?_
  obtain ⟨T87, X87, e87, st87⟩ := getF X86 hx hZ hown (host := "") (Or.inl (ow66 hw)) Via.refl hh86 PF12 (g := (mkF m 16 #[oR b2, oR a83, oI 5] [vR b2, vR b2])) rfl rfl (hb hby d8_16)
  refine own_go (T' := T87) (f' := (mkF m 21 #[oR b2, oR a83, oI 5] [vI 23, vR b2])) (fun _ k => st87 _ (own_e X87 tt 19 2 k rfl)) ?_
  obtain ⟨cq90, q90, q90'⟩ := PE9.cell
  obtain ⟨_, T90, Lc90, X90, hQ90, st90⟩ := own_out (X87.privateBack hx (y := mn11) hown (mvT hZ (ow68 hw)) (mvT hZ (ow69 hw)) (own_selp (mvT hZ (ow71 hw)) (Cond.privateMethod_at (mvP hZ (ow70 hw) (args := #[]))) (mvT hZ (ow69 hw)) (by decide)) (Cond.privateMethod_at (mvP hZ (ow70 hw) (args := #[]))) (mvT hZ (ow72 hw)) (by decide) (backOf (W := 0) (rm11a191 l Z a0 hw [] b2 b11a k11b i85 h0 n0 Z0 PF10 PF11 PV19) hZ (ow72 hw) (ow25 hw) (by decide) (by decide)) (g := (mkF m 21 #[oR b2, oR a83, oI 5] [vI 23, vR b2])) rfl (by rw [hml]; rfl) (Steps.refl _) (a := b2) (by rw [e87]; exact q90) q90' (argsL := [(.int (23 : Int32))]) (rest := []) (lenOf pd11 rfl) rfl (by show 2 * 0 + _ ≤ _; exact Nat.le_of_eq rfl) (hb hby d8_21) (fun _ _ => ⟨rfl, e87, (by decide : 0 + 0 ≤ _), (by decide : 0 + 0 ≤ _)⟩))
  obtain ⟨rfl, N90q, hh90⟩ := hQ90
  have N90 := Fr.app N86 N90q
  obtain ⟨_, X90, N90⟩ := own_hide X90 N90
  refine own_go (T' := T90) (f' := (mkF m 26 #[oR b2, oR a83, oI 5] [vR b2, vR b2])) (fun _ k => st90.trans (own_e X90 tt 24 2 k rfl)) ?_
  obtain ⟨T91, X91, e91, st91⟩ := getF X90 hx hZ hown (host := "") (Or.inl (ow66 hw)) Via.refl hh90 PF12 (g := (mkF m 26 #[oR b2, oR a83, oI 5] [vR b2, vR b2])) rfl rfl (hb hby d8_26)
  refine own_go (T' := T91) (f' := (mkF m 30 #[oR b2, oR a83, oI 5] [vR a83, vI 18, vR b2])) (fun _ k => st91 _ (own_e X91 tt 29 1 k rfl)) ?_
  obtain ⟨cq3, q3, q3'⟩ := PE9.cell
  obtain ⟨_, T3, Lc3, X3, hQ3, st3⟩ := own_out (X91.privateBack hx (y := mn14) hown (mvT hZ (ow94 hw)) (mvT hZ (ow95 hw)) (own_selp (mvT hZ (ow97 hw)) (Cond.privateMethod_at (mvP hZ (ow96 hw) (args := #[]))) (mvT hZ (ow95 hw)) (by decide)) (Cond.privateMethod_at (mvP hZ (ow96 hw) (args := #[]))) (mvT hZ (ow98 hw)) (by decide) (backOf (W := 0) (rm15a192 l Z a0 hw [] b2 a83 cs b11a k11b i85 b83 kc83 h0 n0 Z0 PS0 PE9 PF10 PF11 PV19 PE21 PF22 PF23 PV24 PP0 n_b11a) hZ (ow98 hw) (ow25 hw) (by decide) (by decide)) (g := (mkF m 30 #[oR b2, oR a83, oI 5] [vR a83, vI 18, vR b2])) rfl (by rw [hml]; rfl) (Steps.refl _) (a := b2) (by rw [e91]; exact q3) q3' (argsL := [(.int (18 : Int32)), (.ref a83)]) (rest := []) (lenOf pd18 rfl) rfl (by show 2 * 0 + _ ≤ _; exact Nat.le_of_eq rfl) (hb hby d8_30) (fun _ _ => ⟨rfl, e91, (by decide : 0 + 0 ≤ _), (by decide : 0 + 0 ≤ _)⟩))
  obtain ⟨rfl, N3q, K3, g3_0⟩ := hQ3
  have N3 := Fr.app N90 N3q
  have eK3 : T3.heap = T3.heap := rfl
  have KK3 : Keep h0 T3.heap [b11a, b2] := Keep.trans (Keep.refl h0 [b11a, b2]) K3 (allS (Or.inl (List.mem_of_getElem? (i := 0) rfl)) all0)
  obtain ⟨_, X3, N3⟩ := own_hide X3 N3
  refine own_go (T' := T3) (f' := (mkF m 35 #[oR b2, oR a83, oI 5] [vR b2, vR b2])) (fun _ k => st3.trans (own_e X3 tt 33 2 k rfl)) ?_
  obtain ⟨T4, X4, e4, st4⟩ := getF X3 hx hZ hown (host := "") (Or.inl (ow66 hw)) Via.refl eK3 (PF12.keep K3 (ninS ne_b2_b11a nin0)) (g := (mkF m 35 #[oR b2, oR a83, oI 5] [vR b2, vR b2])) rfl rfl (hb hby d8_35)
  refine own_go (T' := T4) (f' := (mkF m 40 #[oR b2, oR a83, oI 5] [vI 23, vR b2])) (fun _ k => st4 _ (own_e X4 tt 38 2 k rfl)) ?_
  obtain ⟨T5, h5, X5, e5, W5, st5⟩ := putF X4 hx hZ hown (host := "") (Or.inl (ow66 hw)) Via.refl e4 (PF12.keep K3 (ninS ne_b2_b11a nin0)) (PE9.keep K3) (Or.inl (ow67 hw)) (ow16 hw) (ty := .int) (by decide) rfl rfl (g := (mkF m 40 #[oR b2, oR a83, oI 5] [vI 23, vR b2])) rfl rfl (hb hby d8_40)
  have Fw5 := Fld.same W5 (PF12.keep K3 (ninS ne_b2_b11a nin0))
  have K5 : Keep h0 h5 [b11a, b2] := KK3.wr W5 (Or.inl (List.mem_of_getElem? (i := 1) rfl))
  have N5 := Fr.snoc X5 N3 n_b2
  refine own_go (T' := T5) (f' := (mkF m 44 #[oR b2, oR a83, oI 5] [vR b2])) (fun _ k => st5 _ (own_e X5 tt 43 1 k rfl)) ?_
  refine own_ret X5 (v := some (.ref b2)) (oN Br) Bs (fun fs hr => own_retA X5 hx Br rfl rfl (hb hby d8_44) hr) ?_ (by decide) (by decide)
  unfold Q8a190
  rw [e5]
  exact ⟨rfl, N5, K5, (g3_0.other W5 ne_b11a_b2), ((PF10.keep K3 (ninS ne_b2_b11a nin0)).other W5 (Or.inr (sn_34_67 hw))), ((PF11.keep K3 (ninS ne_b2_b11a nin0)).other W5 (Or.inr (sn_36_67 hw))), Fw5⟩
def Q7a189 (Z : State) (b2 : Addr) (b11a : Addr) (k11b : ClassId) (i85 : Int32) (h0 : Heap) (n0 : Nat) (v : Option Value) (h : Heap) (L : List Loc) : Prop := v = some (.ref b2) ∧ Fr n0 L ∧ Keep h0 h [b2, b11a] ∧ oF0 Z h b2 (.ref b11a) ∧ oF1 Z h b2 (.int (0 : Int32)) ∧ oF2 Z h b2 (.int (23 : Int32)) ∧ Arv Z h b11a k11b .byte (34 : Int32) [(.int (101 : Int32)), (.int (120 : Int32)), (.int (112 : Int32)), (.int (101 : Int32)), (.int (99 : Int32)), (.int (116 : Int32)), (.int (101 : Int32)), (.int (100 : Int32)), (.int (32 : Int32)), (.int (98 : Int32)), (.int (101 : Int32)), (.int (116 : Int32)), (.int (119 : Int32)), (.int (101 : Int32)), (.int (101 : Int32)), (.int (110 : Int32)), (.int (32 : Int32)), (.int i85), (.int (32 : Int32)), (.int (97 : Int32)), (.int (110 : Int32)), (.int (100 : Int32)), (.int (32 : Int32)), (.int (0 : Int32)), (.int (0 : Int32)), (.int (0 : Int32)), (.int (0 : Int32)), (.int (0 : Int32)), (.int (0 : Int32)), (.int (0 : Int32)), (.int (0 : Int32)), (.int (0 : Int32)), (.int (0 : Int32)), (.int (0 : Int32))] (.int (0 : Int32))
set_option maxRecDepth 65536 in
set_option maxHeartbeats 40000000 in
theorem rm7a189 (l : Launch) (Z : State) (a0 : Array Value) (hw : HW a0 Z) (ws : List Jvm.Cond) (b2 : Addr) (a83 : Addr) (cs : Int32) (b11a : Addr) (k11b : ClassId) (i85 : Int32) (b83 : Addr) (kc83 : ClassId) (h0 : Heap) (n0 : Nat) (Z0 : n0 ≤ h0.size) (PS0 : Sta Z h0 "java/lang/String" "COMPACT_STRINGS" "Z" (.int cs)) (PE9 : Exa Z h0 b2 "java/lang/StringBuilder") (PF10 : oF0 Z h0 b2 (.ref b11a)) (PF11 : oF1 Z h0 b2 (.int (0 : Int32))) (PF12 : oF2 Z h0 b2 (.int (18 : Int32))) (PV19 : Arv Z h0 b11a k11b .byte (34 : Int32) [(.int (101 : Int32)), (.int (120 : Int32)), (.int (112 : Int32)), (.int (101 : Int32)), (.int (99 : Int32)), (.int (116 : Int32)), (.int (101 : Int32)), (.int (100 : Int32)), (.int (32 : Int32)), (.int (98 : Int32)), (.int (101 : Int32)), (.int (116 : Int32)), (.int (119 : Int32)), (.int (101 : Int32)), (.int (101 : Int32)), (.int (110 : Int32)), (.int (32 : Int32)), (.int i85), (.int (0 : Int32)), (.int (0 : Int32)), (.int (0 : Int32)), (.int (0 : Int32)), (.int (0 : Int32)), (.int (0 : Int32)), (.int (0 : Int32)), (.int (0 : Int32)), (.int (0 : Int32)), (.int (0 : Int32)), (.int (0 : Int32)), (.int (0 : Int32)), (.int (0 : Int32)), (.int (0 : Int32)), (.int (0 : Int32)), (.int (0 : Int32))] (.int (0 : Int32))) (PE21 : Exa Z h0 a83 "java/lang/String") (PF22 : oF3 Z h0 a83 (.int (0 : Int32))) (PF23 : oF4 Z h0 a83 (.ref b83)) (PV24 : Arv Z h0 b83 kc83 .byte (5 : Int32) own_ls4 (.int (0 : Int32))) (PP0 : ¬ (cs = (0 : Int32))) (ne_b2_b11a : b2 ≠ b11a) (ne_b11a_b2 : b11a ≠ b2) (n_b2 : n0 ≤ b2) (n_b11a : n0 ≤ b11a) :
    own_Met l mn16 jdk_67_method_7_code 2 (some (.object "java/lang/StringBuilder")) ws (oRm 4 0 0 61) #[(.ref b2), (.ref a83)] Z h0 (Q7a189 Z b2 b11a k11b i85 h0 n0) := by
  refine own_met (own := "java/lang/StringBuilder") rfl (plainFor_of_name pn_8) ?_
  intro p e s m below meth c s₁ hx hby hml hZ hown hnm X0 e0 Br Bs
  have N0 := Fr.nil n0
  have tt := own_tt hx hby own_ok7
  show own_Ends p e below s _ _ _ s₁ (mkF m 0 #[oR b2, oR a83] [])
  refine own_go (T' := s₁) (f' := (mkF m 2 #[oR b2, oR a83] [vR a83, vR b2])) (fun _ k => own_e X0 tt 0 2 k rfl) ?_
  obtain ⟨_, T4, Lc4, X4, hQ4, st4⟩ := own_out (superBack X0 hx hZ (y := mn15) hown (ow48 hw) (own_same (y := mn15) (y2 := mn11) (ow71 hw) rfl (ow49 hw) (by decide)) (ow49 hw) (ow50 hw) (by decide) (backOf (W := 0) (rm8a190 l Z a0 hw [] b2 a83 cs b11a k11b i85 b83 kc83 h0 n0 Z0 PS0 PE9 PF10 PF11 PF12 PV19 PE21 PF22 PF23 PV24 PP0 ne_b2_b11a ne_b11a_b2 n_b2 n_b11a) hZ (ow52 hw) (ow25 hw) (by decide) (by decide)) e0 (Ins.self PE9) (g := (mkF m 2 #[oR b2, oR a83] [vR a83, vR b2])) rfl (by rw [hml]; rfl) (ow52 hw) (argsL := [(.ref a83)]) (rest := []) (lenOf pd22 rfl) rfl (by show 2 * 0 + _ ≤ _; exact Nat.le_of_eq rfl) (hb hby d7_2) (fun _ _ => ⟨rfl, e0, (by decide : 0 + 0 ≤ _), (by decide : 0 + 0 ≤ _)⟩))
  obtain ⟨rfl, N4q, K4, g4_0, g4_1, g4_2, g4_3⟩ := hQ4
  have N4 := Fr.app N0 N4q
  have eK4 : T4.heap = T4.heap := rfl
  have KK4 : Keep h0 T4.heap [b2, b11a] := Keep.trans (Keep.refl h0 [b2, b11a]) K4 (allS (Or.inl (List.mem_of_getElem? (i := 1) rfl)) (allS (Or.inl (List.mem_of_getElem? (i := 0) rfl)) all0))
  obtain ⟨_, X4, N4⟩ := own_hide X4 N4
  refine own_go (T' := T4) (f' := (mkF m 7 #[oR b2, oR a83] [vR b2])) (fun _ k => st4.trans (own_e X4 tt 5 2 k rfl)) ?_
  refine own_ret X4 (v := some (.ref b2)) (oN Br) Bs (fun fs hr => own_retA X4 hx Br rfl rfl (hb hby d7_7) hr) ?_ (by decide) (by decide)
  unfold Q7a189
  rw [eK4]
  exact ⟨rfl, N4, KK4, g4_1, g4_2, g4_3, g4_0⟩
def Q11a202 (Z : State)  (h0 : Heap) (n0 : Nat) (v : Option Value) (h : Heap) (L : List Loc) : Prop := v = none ∧ Fr n0 L ∧ h = h0
set_option maxRecDepth 65536 in
set_option maxHeartbeats 40000000 in
theorem rm11a202 (l : Launch) (Z : State) (a0 : Array Value) (hw : HW a0 Z) (ws : List Jvm.Cond) (b2 : Addr) (b11a : Addr) (k11b : ClassId) (i3 : Int32) (h0 : Heap) (n0 : Nat) (Z0 : n0 ≤ h0.size) (PF10 : oF0 Z h0 b2 (.ref b11a)) (PF11 : oF1 Z h0 b2 (.int (0 : Int32))) (PV19 : Arv Z h0 b11a k11b .byte (34 : Int32) [(.int (101 : Int32)), (.int (120 : Int32)), (.int (112 : Int32)), (.int (101 : Int32)), (.int (99 : Int32)), (.int (116 : Int32)), (.int (101 : Int32)), (.int (100 : Int32)), (.int (32 : Int32)), (.int (98 : Int32)), (.int (101 : Int32)), (.int (116 : Int32)), (.int (119 : Int32)), (.int (101 : Int32)), (.int (101 : Int32)), (.int (110 : Int32)), (.int (32 : Int32)), (.int i3), (.int (32 : Int32)), (.int (97 : Int32)), (.int (110 : Int32)), (.int (100 : Int32)), (.int (32 : Int32)), (.int (0 : Int32)), (.int (0 : Int32)), (.int (0 : Int32)), (.int (0 : Int32)), (.int (0 : Int32)), (.int (0 : Int32)), (.int (0 : Int32)), (.int (0 : Int32)), (.int (0 : Int32)), (.int (0 : Int32)), (.int (0 : Int32))] (.int (0 : Int32))) :
    own_Met l mn11 jdk_68_method_9_code 3 none ws (oRm 0 0 0 0) #[(.ref b2), (.int (24 : Int32))] Z h0 (Q11a202 Z  h0 n0) := by
  refine own_met (own := "java/lang/AbstractStringBuilder") rfl (plainFor_of_name pn_3) ?_
  intro p e s m below meth c s₁ hx hby hml hZ hown hnm X0 e0 Br Bs
  have N0 := Fr.nil n0
  have tt := own_tt hx hby own_ok11
  show own_Ends p e below s _ _ _ s₁ (mkF m 0 #[oR b2, oI 24, oU] [])
  refine own_go (T' := s₁) (f' := (mkF m 1 #[oR b2, oI 24, oU] [vR b2])) (fun _ k => own_e X0 tt 0 1 k rfl) ?_
  obtain ⟨T4, X4, e4, st4⟩ := getF X0 hx hZ hown (host := "") (Or.inl (ow33 hw)) Via.refl e0 PF10 (g := (mkF m 1 #[oR b2, oI 24, oU] [vR b2])) rfl rfl (hb hby d11_1)
  refine own_go (T' := T4) (f' := (mkF m 6 #[oR b2, oI 24, oU] [vR b2, vI 34])) (fun _ k => st4 _ (own_alen X4 hx hZ e4 PV19 rfl rfl (hb hby d11_4) (own_e X4 tt 5 1 k rfl))) ?_
  obtain ⟨T5, X5, e5, st5⟩ := getF X4 hx hZ hown (host := "") (Or.inl (ow35 hw)) Via.refl e4 PF11 (g := (mkF m 6 #[oR b2, oI 24, oU] [vR b2, vI 34])) rfl rfl (hb hby d11_6)
  refine own_go (T' := T5) (f' := (mkF m 38 #[oR b2, oI 24, oI 34] [])) (fun _ k => st5 _ (own_e X5 tt 9 6 k rfl)) ?_
  refine own_ret X5 (v := none) (fun _ => rfl) Bs (fun fs hr => X5.returnOut hx Br (hb hby d11_38) hr) ?_ (by decide) (by decide)
  unfold Q11a202
  exact ⟨rfl, N0, e5⟩
def Q22a215 (Z : State) (y1 : Int32) (b11a : Addr) (k11b : ClassId) (i3 : Int32) (h0 : Heap) (n0 : Nat) (v : Option Value) (h : Heap) (L : List Loc) : Prop := v = some (.int (23 : Int32)) ∧ Fr n0 L ∧ Keep h0 h [b11a] ∧ Arv Z h b11a k11b .byte (34 : Int32) [(.int (101 : Int32)), (.int (120 : Int32)), (.int (112 : Int32)), (.int (101 : Int32)), (.int (99 : Int32)), (.int (116 : Int32)), (.int (101 : Int32)), (.int (100 : Int32)), (.int (32 : Int32)), (.int (98 : Int32)), (.int (101 : Int32)), (.int (116 : Int32)), (.int (119 : Int32)), (.int (101 : Int32)), (.int (101 : Int32)), (.int (110 : Int32)), (.int (32 : Int32)), (.int i3), (.int (32 : Int32)), (.int (97 : Int32)), (.int (110 : Int32)), (.int (100 : Int32)), (.int (32 : Int32)), (.int (nar .byte ((48 : Int32) + y1))), (.int (0 : Int32)), (.int (0 : Int32)), (.int (0 : Int32)), (.int (0 : Int32)), (.int (0 : Int32)), (.int (0 : Int32)), (.int (0 : Int32)), (.int (0 : Int32)), (.int (0 : Int32)), (.int (0 : Int32))] (.int (0 : Int32))
set_option maxRecDepth 65536 in
set_option maxHeartbeats 40000000 in
theorem rm22a215 (l : Launch) (Z : State) (a0 : Array Value) (hw : HW a0 Z) (ws : List Jvm.Cond) (y1 : Int32) (b11a : Addr) (wd : Addr) (kd : ClassId) (vd : List Value) (k11b : ClassId) (i3 : Int32) (h0 : Heap) (n0 : Nat) (Z0 : n0 ≤ h0.size) (PS1 : Sta Z h0 "java/lang/Integer" "DigitOnes" "[B" (.ref wd)) (PV2 : Arv Z h0 wd kd .byte (100 : Int32) vd (.int (0 : Int32))) (PV19 : Arv Z h0 b11a k11b .byte (34 : Int32) [(.int (101 : Int32)), (.int (120 : Int32)), (.int (112 : Int32)), (.int (101 : Int32)), (.int (99 : Int32)), (.int (116 : Int32)), (.int (101 : Int32)), (.int (100 : Int32)), (.int (32 : Int32)), (.int (98 : Int32)), (.int (101 : Int32)), (.int (116 : Int32)), (.int (119 : Int32)), (.int (101 : Int32)), (.int (101 : Int32)), (.int (110 : Int32)), (.int (32 : Int32)), (.int i3), (.int (32 : Int32)), (.int (97 : Int32)), (.int (110 : Int32)), (.int (100 : Int32)), (.int (32 : Int32)), (.int (0 : Int32)), (.int (0 : Int32)), (.int (0 : Int32)), (.int (0 : Int32)), (.int (0 : Int32)), (.int (0 : Int32)), (.int (0 : Int32)), (.int (0 : Int32)), (.int (0 : Int32)), (.int (0 : Int32)), (.int (0 : Int32))] (.int (0 : Int32))) (PP1 : y1 < (10 : Int32)) (PP2 : ¬ (y1 < (0 : Int32))) (PP4 : (-100 : Int32) < (-y1)) (PP5 : ¬ ((-(-y1)) < (0 : Int32))) (PP6 : (-(-y1)) < (100 : Int32)) (PP7 : ¬ ((-y1) < (-9 : Int32))) (n_b11a : n0 ≤ b11a) (pr_d10_vd : own_D10 vd) :
    own_Met l mn18 jdk_33_method_12_code 7 (some .int) ws (oRm 0 0 0 0) #[(.int y1), (.int (24 : Int32)), (.ref b11a)] Z h0 (Q22a215 Z y1 b11a k11b i3 h0 n0) := by
  refine own_met (own := "java/lang/Integer") rfl (plainFor_of_name pn_4) ?_
  intro p e s m below meth c s₁ hx hby hml hZ hown hnm X0 e0 Br Bs
  have N0 := Fr.nil n0
  have tt := own_tt hx hby own_ok22
  show own_Ends p e below s _ _ _ s₁ (mkF m 0 #[.val (.int y1), oI 24, oR b11a, oU, oU, oU, oU] [])
  refine own_go (T' := s₁) (f' := (mkF m 4 #[.val (.int y1), oI 24, oR b11a, oU, oU, oI 24, oU] [(.int y1)])) (fun _ k => own_e X0 tt 0 3 k rfl) ?_
  refine own_go (T' := s₁) (f' := (mkF m 25 #[.val (.int (-y1)), oI 24, oR b11a, oU, oU, oI 24, oI 0] [vI (-100), (.int (-y1))])) (fun _ k => XS.ifYes X0.here hx rfl (pc0 := 4) (pc' := 11) rfl (hb hby d22_4) rfl ((if0 _ _).trans (flt PP2).2.1) (by decide) (by decide) (own_e X0 tt 11 9 k rfl)) ?_
  refine own_go (T' := s₁) (f' := (mkF m 78 #[.val (.int (-y1)), oI 24, oR b11a, oU, oU, oI 23, oI 0] [vI 23, vR b11a])) (fun _ k => XS.icmpYes X0.here hx rfl (pc0 := 25) (pc' := 72) rfl (hb hby d22_25) rfl (tlt PP4).2.2.1 (by decide) (by decide) (own_e X0 tt 72 3 k rfl)) ?_
  obtain ⟨T8, X8, e8, st8⟩ := getS2 X0 hx hZ hown (host := "") (Or.inl (ow132 hw)) Via.refl e0 PS1 (g := (mkF m 78 #[.val (.int (-y1)), oI 24, oR b11a, oU, oU, oI 23, oI 0] [vI 23, vR b11a])) rfl (hb hby d22_78)
  refine own_go (T' := T8) (f' := (mkF m 83 #[.val (.int (-y1)), oI 24, oR b11a, oU, oU, oI 23, oI 0] [(.int (-(-y1))), vR wd, vI 23, vR b11a])) (fun _ k => st8 _ (own_e X8 tt 81 2 k rfl)) ?_
  refine own_go (T' := T8) (f' := (mkF m 84 #[.val (.int (-y1)), oI 24, oR b11a, oU, oU, oI 23, oI 0] [(.int ((48 : Int32) + y1)), vI 23, vR b11a])) (fun _ k => own_ldB X8 hx hZ e8 PV2 (j := (-(-y1))) (x := ((48 : Int32) + y1)) ⟨PP5, PP6⟩ (own_d10 pr_d10_vd PP2 PP1) rfl rfl (hb hby d22_83) k) ?_
  obtain ⟨T9, h9, X9, e9, W9, V9, st9⟩ := own_stB X8 hx hZ e8 PV19 (j := (23 : Int32)) ⟨by decide, by decide⟩ 23 rfl (Nat.le_of_ble_eq_true rfl) (g := (mkF m 84 #[.val (.int (-y1)), oI 24, oR b11a, oU, oU, oI 23, oI 0] [(.int ((48 : Int32) + y1)), vI 23, vR b11a])) rfl rfl (hb hby d22_84)
  have K9 : Keep h0 h9 [b11a] := (Keep.refl h0 [b11a]).wr W9 (Or.inl (List.mem_of_getElem? (i := 0) rfl))
  have V9s : Arv Z h9 b11a k11b .byte (34 : Int32) [(.int (101 : Int32)), (.int (120 : Int32)), (.int (112 : Int32)), (.int (101 : Int32)), (.int (99 : Int32)), (.int (116 : Int32)), (.int (101 : Int32)), (.int (100 : Int32)), (.int (32 : Int32)), (.int (98 : Int32)), (.int (101 : Int32)), (.int (116 : Int32)), (.int (119 : Int32)), (.int (101 : Int32)), (.int (101 : Int32)), (.int (110 : Int32)), (.int (32 : Int32)), (.int i3), (.int (32 : Int32)), (.int (97 : Int32)), (.int (110 : Int32)), (.int (100 : Int32)), (.int (32 : Int32)), (.int (nar .byte ((48 : Int32) + y1))), (.int (0 : Int32)), (.int (0 : Int32)), (.int (0 : Int32)), (.int (0 : Int32)), (.int (0 : Int32)), (.int (0 : Int32)), (.int (0 : Int32)), (.int (0 : Int32)), (.int (0 : Int32)), (.int (0 : Int32))] (.int (0 : Int32)) := V9
  have N9 := Fr.snoc X9 N0 n_b11a
  refine own_go (T' := T9) (f' := (mkF m 88 #[.val (.int (-y1)), oI 24, oR b11a, oU, oU, oI 23, oI 0] [vI (-9), (.int (-y1))])) (fun _ k => st9 _ (own_e X9 tt 85 2 k rfl)) ?_
  refine own_go (T' := T9) (f' := (mkF m 120 #[.val (.int (-y1)), oI 24, oR b11a, oU, oU, oI 23, oI 0] [vI 23])) (fun _ k => XS.icmpYes X9.here hx rfl (pc0 := 88) (pc' := 104) rfl (hb hby d22_88) rfl (flt PP7).2.1 (by decide) (by decide) (own_e X9 tt 104 3 k rfl)) ?_
  refine own_ret X9 (v := some (.int (23 : Int32))) (oN Br) Bs (fun fs hr => retI X9 hx Br (hb hby d22_120) hr) ?_ (by decide) (by decide)
  unfold Q22a215
  rw [e9]
  exact ⟨rfl, N9, K9, V9s⟩
def Q19a214 (Z : State) (b2 : Addr) (y1 : Int32) (b11a : Addr) (k11b : ClassId) (i3 : Int32) (h0 : Heap) (n0 : Nat) (v : Option Value) (h : Heap) (L : List Loc) : Prop := v = some (.ref b2) ∧ Fr n0 L ∧ Keep h0 h [b11a, b2] ∧ Arv Z h b11a k11b .byte (34 : Int32) [(.int (101 : Int32)), (.int (120 : Int32)), (.int (112 : Int32)), (.int (101 : Int32)), (.int (99 : Int32)), (.int (116 : Int32)), (.int (101 : Int32)), (.int (100 : Int32)), (.int (32 : Int32)), (.int (98 : Int32)), (.int (101 : Int32)), (.int (116 : Int32)), (.int (119 : Int32)), (.int (101 : Int32)), (.int (101 : Int32)), (.int (110 : Int32)), (.int (32 : Int32)), (.int i3), (.int (32 : Int32)), (.int (97 : Int32)), (.int (110 : Int32)), (.int (100 : Int32)), (.int (32 : Int32)), (.int (nar .byte ((48 : Int32) + y1))), (.int (0 : Int32)), (.int (0 : Int32)), (.int (0 : Int32)), (.int (0 : Int32)), (.int (0 : Int32)), (.int (0 : Int32)), (.int (0 : Int32)), (.int (0 : Int32)), (.int (0 : Int32)), (.int (0 : Int32))] (.int (0 : Int32)) ∧ oF0 Z h b2 (.ref b11a) ∧ oF1 Z h b2 (.int (0 : Int32)) ∧ oF2 Z h b2 (.int (24 : Int32))
set_option maxRecDepth 65536 in
set_option maxHeartbeats 40000000 in
theorem rm19a214 (l : Launch) (Z : State) (a0 : Array Value) (hw : HW a0 Z) (ws : List Jvm.Cond) (b2 : Addr) (y1 : Int32) (cs : Int32) (wd : Addr) (kd : ClassId) (vd : List Value) (b11a : Addr) (k11b : ClassId) (i8 : Int32) (h0 : Heap) (n0 : Nat) (Z0 : n0 ≤ h0.size) (PS0 : Sta Z h0 "java/lang/String" "COMPACT_STRINGS" "Z" (.int cs)) (PS1 : Sta Z h0 "java/lang/Integer" "DigitOnes" "[B" (.ref wd)) (PV2 : Arv Z h0 wd kd .byte (100 : Int32) vd (.int (0 : Int32))) (PE9 : Exa Z h0 b2 "java/lang/StringBuilder") (PF10 : oF0 Z h0 b2 (.ref b11a)) (PF11 : oF1 Z h0 b2 (.int (0 : Int32))) (PF12 : oF2 Z h0 b2 (.int (23 : Int32))) (PV19 : Arv Z h0 b11a k11b .byte (34 : Int32) [(.int (101 : Int32)), (.int (120 : Int32)), (.int (112 : Int32)), (.int (101 : Int32)), (.int (99 : Int32)), (.int (116 : Int32)), (.int (101 : Int32)), (.int (100 : Int32)), (.int (32 : Int32)), (.int (98 : Int32)), (.int (101 : Int32)), (.int (116 : Int32)), (.int (119 : Int32)), (.int (101 : Int32)), (.int (101 : Int32)), (.int (110 : Int32)), (.int (32 : Int32)), (.int i8), (.int (32 : Int32)), (.int (97 : Int32)), (.int (110 : Int32)), (.int (100 : Int32)), (.int (32 : Int32)), (.int (0 : Int32)), (.int (0 : Int32)), (.int (0 : Int32)), (.int (0 : Int32)), (.int (0 : Int32)), (.int (0 : Int32)), (.int (0 : Int32)), (.int (0 : Int32)), (.int (0 : Int32)), (.int (0 : Int32)), (.int (0 : Int32))] (.int (0 : Int32))) (PP0 : ¬ (cs = (0 : Int32))) (PP1 : y1 < (10 : Int32)) (PP2 : ¬ (y1 < (0 : Int32))) (PP3 : (-10 : Int32) < (-y1)) (PP4 : (-100 : Int32) < (-y1)) (PP5 : ¬ ((-(-y1)) < (0 : Int32))) (PP6 : (-(-y1)) < (100 : Int32)) (PP7 : ¬ ((-y1) < (-9 : Int32))) (ne_b2_b11a : b2 ≠ b11a) (ne_b11a_b2 : b11a ≠ b2) (n_b2 : n0 ≤ b2) (n_b11a : n0 ≤ b11a) (pr_d10_vd : own_D10 vd) :
    own_Met l mn19 jdk_68_method_32_code 4 (some (.object "java/lang/AbstractStringBuilder")) ws (oRm 1 0 0 18) #[(.ref b2), (.int y1)] Z h0 (Q19a214 Z b2 y1 b11a k11b i8 h0 n0) := by
  refine own_met (own := "java/lang/AbstractStringBuilder") rfl (plainFor_of_name pn_3) ?_
  intro p e s m below meth c s₁ hx hby hml hZ hown hnm X0 e0 Br Bs
  have N0 := Fr.nil n0
  have tt := own_tt hx hby own_ok19
  show own_Ends p e below s _ _ _ s₁ (mkF m 0 #[oR b2, .val (.int y1), oU, oU] [])
  refine own_go (T' := s₁) (f' := (mkF m 1 #[oR b2, .val (.int y1), oU, oU] [vR b2])) (fun _ k => own_e X0 tt 0 1 k rfl) ?_
  obtain ⟨T13, X13, e13, st13⟩ := getF X0 hx hZ hown (host := "") (Or.inl (ow66 hw)) Via.refl e0 PF12 (g := (mkF m 1 #[oR b2, .val (.int y1), oU, oU] [vR b2])) rfl rfl (hb hby d19_1)
  refine own_go (T' := T13) (f' := (mkF m 7 #[oR b2, .val (.int y1), oI 23, oU] [(.int y1), vI 23])) (fun _ k => st13 _ (own_e X13 tt 4 3 k rfl)) ?_
  obtain ⟨_, T14, Lc14, X14, hQ14, st14⟩ := own_outC (Jvm.LawKit.callS X13 hx (y := mn3) hown (mvT hZ (ow120 hw)) (mvT hZ (ow121 hw)) (mvT hZ (ow122 hw)) (mvT hZ (ow123 hw)) (by decide) (backOf (W := 1) (rm20a171 l Z a0 hw [] y1 h0 n0 Z0 PP2 PP3) hZ (ow123 hw) (ow122 hw) (by decide) (by decide)) (g := (mkF m 7 #[oR b2, .val (.int y1), oI 23, oU] [(.int y1), vI 23])) rfl (by rw [hml]; rfl) (argsL := [(.int y1)]) (rest := [(.int (23 : Int32))]) (lenOf pd8 rfl) rfl (by show 2 * 0 + _ ≤ _; exact Nat.le_of_eq rfl) (hb hby d19_7) (fun _ _ => ⟨rfl, e13, (by decide : 0 + 0 ≤ _), (by decide : 0 + 0 ≤ _)⟩))
  obtain ⟨rfl, N14q, hh14⟩ := hQ14
  have N14 := Fr.app N0 N14q
  obtain ⟨_, X14, N14⟩ := own_hide X14 N14
  refine own_go (T' := T14) (f' := (mkF m 14 #[oR b2, .val (.int y1), oI 23, oI 24] [vI 24, vR b2])) (fun _ k => st14 _ (own_e X14 tt 10 4 k rfl)) ?_
  obtain ⟨cq15, q15, q15'⟩ := PE9.cell
  obtain ⟨_, T15, Lc15, X15, hQ15, st15⟩ := own_out (X14.privateBack hx (y := mn11) hown (mvT hZ (ow68 hw)) (mvT hZ (ow69 hw)) (own_selp (mvT hZ (ow71 hw)) (Cond.privateMethod_at (mvP hZ (ow70 hw) (args := #[]))) (mvT hZ (ow69 hw)) (by decide)) (Cond.privateMethod_at (mvP hZ (ow70 hw) (args := #[]))) (mvT hZ (ow72 hw)) (by decide) (backOf (W := 0) (rm11a202 l Z a0 hw [] b2 b11a k11b i8 h0 n0 Z0 PF10 PF11 PV19) hZ (ow72 hw) (ow25 hw) (by decide) (by decide)) (g := (mkF m 14 #[oR b2, .val (.int y1), oI 23, oI 24] [vI 24, vR b2])) rfl (by rw [hml]; rfl) (Steps.refl _) (a := b2) (by rw [hh14]; exact q15) q15' (argsL := [(.int (24 : Int32))]) (rest := []) (lenOf pd11 rfl) rfl (by show 2 * 0 + _ ≤ _; exact Nat.le_of_eq rfl) (hb hby d19_14) (fun _ _ => ⟨rfl, hh14, (by decide : 0 + 0 ≤ _), (by decide : 0 + 0 ≤ _)⟩))
  obtain ⟨rfl, N15q, hh15⟩ := hQ15
  have N15 := Fr.app N14 N15q
  obtain ⟨_, X15, N15⟩ := own_hide X15 N15
  refine own_go (T' := T15) (f' := (mkF m 18 #[oR b2, .val (.int y1), oI 23, oI 24] [vR b2])) (fun _ k => st15.trans (own_e X15 tt 17 1 k rfl)) ?_
  obtain ⟨cq16, kq16, q16a, q16b, q16c⟩ := isOf hZ hh15 PE9
  obtain ⟨_, T16, Lc16, X16, hQ16, st16⟩ := own_out (X15.virtualBack hx (y := mn17) (z := mn17) hown (mvT hZ (ow124 hw)) (mvT hZ (ow125 hw)) (notFace_of_selects (args := #[]) (mvT hZ (ow127 hw))) (mvT hZ (ow127 hw)) (mvT hZ (ow126 hw)) (by decide) (backOf (W := 0) (rm21a22 l Z a0 hw [] b2 cs h0 n0 Z0 PS0 PF11 PP0) hZ (ow128 hw) (ow25 hw) (by decide) (by decide)) q16a q16c (g := (mkF m 18 #[oR b2, .val (.int y1), oI 23, oI 24] [vR b2])) rfl (by rw [hml]; rfl) (Steps.refl _) (argsL := []) (rest := []) (lenOf pd6 rfl) rfl (by show 2 * 0 + _ ≤ _; exact Nat.le_of_eq rfl) (hb hby d19_18) (fun _ _ => ⟨rfl, hh15, (by decide : 0 + 0 ≤ _), (by decide : 0 + 0 ≤ _)⟩))
  obtain ⟨rfl, N16q, hh16⟩ := hQ16
  have N16 := Fr.app N15 N16q
  obtain ⟨_, X16, N16⟩ := own_hide X16 N16
  refine own_go (T' := T16) (f' := (mkF m 27 #[oR b2, .val (.int y1), oI 23, oI 24] [vR b2, vI 24, (.int y1)])) (fun _ k => st16.trans (own_e X16 tt 21 4 k rfl)) ?_
  obtain ⟨T17, X17, e17, st17⟩ := getF X16 hx hZ hown (host := "") (Or.inl (ow33 hw)) Via.refl hh16 PF10 (g := (mkF m 27 #[oR b2, .val (.int y1), oI 23, oI 24] [vR b2, vI 24, (.int y1)])) rfl rfl (hb hby d19_27)
  refine own_go (T' := T17) (f' := (mkF m 30 #[oR b2, .val (.int y1), oI 23, oI 24] [vR b11a, vI 24, (.int y1)])) (fun _ k => st17 _ k) ?_
  obtain ⟨_, T18, Lc18, X18, hQ18, st18⟩ := own_outC (Jvm.LawKit.callS X17 hx (y := mn18) hown (mvT hZ (ow129 hw)) (mvT hZ (ow130 hw)) (mvT hZ (ow122 hw)) (mvT hZ (ow131 hw)) (by decide) (backOf (W := 0) (rm22a215 l Z a0 hw [] y1 b11a wd kd vd k11b i8 h0 n0 Z0 PS1 PV2 PV19 PP1 PP2 PP4 PP5 PP6 PP7 n_b11a pr_d10_vd) hZ (ow131 hw) (ow122 hw) (by decide) (by decide)) (g := (mkF m 30 #[oR b2, .val (.int y1), oI 23, oI 24] [vR b11a, vI 24, (.int y1)])) rfl (by rw [hml]; rfl) (argsL := [(.int y1), (.int (24 : Int32)), (.ref b11a)]) (rest := []) (lenOf pd16 rfl) rfl (by show 2 * 0 + _ ≤ _; exact Nat.le_of_eq rfl) (hb hby d19_30) (fun _ _ => ⟨rfl, e17, (by decide : 0 + 0 ≤ _), (by decide : 0 + 0 ≤ _)⟩))
  obtain ⟨rfl, N18q, K18, g18_0⟩ := hQ18
  have N18 := Fr.app N16 N18q
  have eK18 : T18.heap = T18.heap := rfl
  have KK18 : Keep h0 T18.heap [b11a, b2] := Keep.trans (Keep.refl h0 [b11a, b2]) K18 (allS (Or.inl (List.mem_of_getElem? (i := 0) rfl)) all0)
  obtain ⟨_, X18, N18⟩ := own_hide X18 N18
  refine own_go (T' := T18) (f' := (mkF m 50 #[oR b2, .val (.int y1), oI 23, oI 24] [vI 24, vR b2])) (fun _ k => st18 _ (own_e X18 tt 33 4 k rfl)) ?_
  obtain ⟨T20, h20, X20, e20, W20, st20⟩ := putF X18 hx hZ hown (host := "") (Or.inl (ow66 hw)) Via.refl eK18 (PF12.keep K18 (ninS ne_b2_b11a nin0)) (PE9.keep K18) (Or.inl (ow67 hw)) (ow16 hw) (ty := .int) (by decide) rfl rfl (g := (mkF m 50 #[oR b2, .val (.int y1), oI 23, oI 24] [vI 24, vR b2])) rfl rfl (hb hby d19_50)
  have Fw20 := Fld.same W20 (PF12.keep K18 (ninS ne_b2_b11a nin0))
  have K20 : Keep h0 h20 [b11a, b2] := KK18.wr W20 (Or.inl (List.mem_of_getElem? (i := 1) rfl))
  have N20 := Fr.snoc X20 N18 n_b2
  refine own_go (T' := T20) (f' := (mkF m 54 #[oR b2, .val (.int y1), oI 23, oI 24] [vR b2])) (fun _ k => st20 _ (own_e X20 tt 53 1 k rfl)) ?_
  refine own_ret X20 (v := some (.ref b2)) (oN Br) Bs (fun fs hr => own_retA X20 hx Br rfl rfl (hb hby d19_54) hr) ?_ (by decide) (by decide)
  unfold Q19a214
  rw [e20]
  exact ⟨rfl, N20, K20, (g18_0.other W20 ne_b11a_b2), ((PF10.keep K18 (ninS ne_b2_b11a nin0)).other W20 (Or.inr (sn_34_67 hw))), ((PF11.keep K18 (ninS ne_b2_b11a nin0)).other W20 (Or.inr (sn_36_67 hw))), Fw20⟩
def Q18a213 (Z : State) (b2 : Addr) (y1 : Int32) (b11a : Addr) (k11b : ClassId) (i3 : Int32) (h0 : Heap) (n0 : Nat) (v : Option Value) (h : Heap) (L : List Loc) : Prop := v = some (.ref b2) ∧ Fr n0 L ∧ Keep h0 h [b2, b11a] ∧ oF0 Z h b2 (.ref b11a) ∧ oF1 Z h b2 (.int (0 : Int32)) ∧ oF2 Z h b2 (.int (24 : Int32)) ∧ Arv Z h b11a k11b .byte (34 : Int32) [(.int (101 : Int32)), (.int (120 : Int32)), (.int (112 : Int32)), (.int (101 : Int32)), (.int (99 : Int32)), (.int (116 : Int32)), (.int (101 : Int32)), (.int (100 : Int32)), (.int (32 : Int32)), (.int (98 : Int32)), (.int (101 : Int32)), (.int (116 : Int32)), (.int (119 : Int32)), (.int (101 : Int32)), (.int (101 : Int32)), (.int (110 : Int32)), (.int (32 : Int32)), (.int i3), (.int (32 : Int32)), (.int (97 : Int32)), (.int (110 : Int32)), (.int (100 : Int32)), (.int (32 : Int32)), (.int (nar .byte ((48 : Int32) + y1))), (.int (0 : Int32)), (.int (0 : Int32)), (.int (0 : Int32)), (.int (0 : Int32)), (.int (0 : Int32)), (.int (0 : Int32)), (.int (0 : Int32)), (.int (0 : Int32)), (.int (0 : Int32)), (.int (0 : Int32))] (.int (0 : Int32))
set_option maxRecDepth 65536 in
set_option maxHeartbeats 40000000 in
theorem rm18a213 (l : Launch) (Z : State) (a0 : Array Value) (hw : HW a0 Z) (ws : List Jvm.Cond) (b2 : Addr) (y1 : Int32) (cs : Int32) (wd : Addr) (kd : ClassId) (vd : List Value) (b11a : Addr) (k11b : ClassId) (i8 : Int32) (h0 : Heap) (n0 : Nat) (Z0 : n0 ≤ h0.size) (PS0 : Sta Z h0 "java/lang/String" "COMPACT_STRINGS" "Z" (.int cs)) (PS1 : Sta Z h0 "java/lang/Integer" "DigitOnes" "[B" (.ref wd)) (PV2 : Arv Z h0 wd kd .byte (100 : Int32) vd (.int (0 : Int32))) (PE9 : Exa Z h0 b2 "java/lang/StringBuilder") (PF10 : oF0 Z h0 b2 (.ref b11a)) (PF11 : oF1 Z h0 b2 (.int (0 : Int32))) (PF12 : oF2 Z h0 b2 (.int (23 : Int32))) (PV19 : Arv Z h0 b11a k11b .byte (34 : Int32) [(.int (101 : Int32)), (.int (120 : Int32)), (.int (112 : Int32)), (.int (101 : Int32)), (.int (99 : Int32)), (.int (116 : Int32)), (.int (101 : Int32)), (.int (100 : Int32)), (.int (32 : Int32)), (.int (98 : Int32)), (.int (101 : Int32)), (.int (116 : Int32)), (.int (119 : Int32)), (.int (101 : Int32)), (.int (101 : Int32)), (.int (110 : Int32)), (.int (32 : Int32)), (.int i8), (.int (32 : Int32)), (.int (97 : Int32)), (.int (110 : Int32)), (.int (100 : Int32)), (.int (32 : Int32)), (.int (0 : Int32)), (.int (0 : Int32)), (.int (0 : Int32)), (.int (0 : Int32)), (.int (0 : Int32)), (.int (0 : Int32)), (.int (0 : Int32)), (.int (0 : Int32)), (.int (0 : Int32)), (.int (0 : Int32)), (.int (0 : Int32))] (.int (0 : Int32))) (PP0 : ¬ (cs = (0 : Int32))) (PP1 : y1 < (10 : Int32)) (PP2 : ¬ (y1 < (0 : Int32))) (PP3 : (-10 : Int32) < (-y1)) (PP4 : (-100 : Int32) < (-y1)) (PP5 : ¬ ((-(-y1)) < (0 : Int32))) (PP6 : (-(-y1)) < (100 : Int32)) (PP7 : ¬ ((-y1) < (-9 : Int32))) (ne_b2_b11a : b2 ≠ b11a) (ne_b11a_b2 : b11a ≠ b2) (n_b2 : n0 ≤ b2) (n_b11a : n0 ≤ b11a) (pr_d10_vd : own_D10 vd) :
    own_Met l mn20 jdk_67_method_15_code 2 (some (.object "java/lang/StringBuilder")) ws (oRm 2 0 0 33) #[(.ref b2), (.int y1)] Z h0 (Q18a213 Z b2 y1 b11a k11b i8 h0 n0) := by
  refine own_met (own := "java/lang/StringBuilder") rfl (plainFor_of_name pn_8) ?_
  intro p e s m below meth c s₁ hx hby hml hZ hown hnm X0 e0 Br Bs
  have N0 := Fr.nil n0
  have tt := own_tt hx hby own_ok18
  show own_Ends p e below s _ _ _ s₁ (mkF m 0 #[oR b2, .val (.int y1)] [])
  refine own_go (T' := s₁) (f' := (mkF m 2 #[oR b2, .val (.int y1)] [(.int y1), vR b2])) (fun _ k => own_e X0 tt 0 2 k rfl) ?_
  obtain ⟨_, T13, Lc13, X13, hQ13, st13⟩ := own_out (superBack X0 hx hZ (y := mn19) hown (ow116 hw) (own_same (y := mn19) (y2 := mn11) (ow71 hw) rfl (ow117 hw) (by decide)) (ow117 hw) (ow50 hw) (by decide) (backOf (W := 0) (rm19a214 l Z a0 hw [] b2 y1 cs wd kd vd b11a k11b i8 h0 n0 Z0 PS0 PS1 PV2 PE9 PF10 PF11 PF12 PV19 PP0 PP1 PP2 PP3 PP4 PP5 PP6 PP7 ne_b2_b11a ne_b11a_b2 n_b2 n_b11a pr_d10_vd) hZ (ow119 hw) (ow25 hw) (by decide) (by decide)) e0 (Ins.self PE9) (g := (mkF m 2 #[oR b2, .val (.int y1)] [(.int y1), vR b2])) rfl (by rw [hml]; rfl) (ow119 hw) (argsL := [(.int y1)]) (rest := []) (lenOf pd9 rfl) rfl (by show 2 * 0 + _ ≤ _; exact Nat.le_of_eq rfl) (hb hby d18_2) (fun _ _ => ⟨rfl, e0, (by decide : 0 + 0 ≤ _), (by decide : 0 + 0 ≤ _)⟩))
  obtain ⟨rfl, N13q, K13, g13_0, g13_1, g13_2, g13_3⟩ := hQ13
  have N13 := Fr.app N0 N13q
  have eK13 : T13.heap = T13.heap := rfl
  have KK13 : Keep h0 T13.heap [b2, b11a] := Keep.trans (Keep.refl h0 [b2, b11a]) K13 (allS (Or.inl (List.mem_of_getElem? (i := 1) rfl)) (allS (Or.inl (List.mem_of_getElem? (i := 0) rfl)) all0))
  obtain ⟨_, X13, N13⟩ := own_hide X13 N13
  refine own_go (T' := T13) (f' := (mkF m 7 #[oR b2, .val (.int y1)] [vR b2])) (fun _ k => st13.trans (own_e X13 tt 5 2 k rfl)) ?_
  refine own_ret X13 (v := some (.ref b2)) (oN Br) Bs (fun fs hr => own_retA X13 hx Br rfl rfl (hb hby d18_7) hr) ?_ (by decide) (by decide)
  unfold Q18a213
  rw [eK13]
  exact ⟨rfl, N13, KK13, g13_1, g13_2, g13_3, g13_0⟩
def Q30a220 (Z : State) (i3 : Int32) (i4 : Int32) (h0 : Heap) (n0 : Nat) (v : Option Value) (h : Heap) (L : List Loc) : Prop := ∃ (b5 : Addr) (k5 : ClassId), v = some (.ref b5) ∧ Fr n0 L ∧ Keep h0 h [] ∧ n0 ≤ b5 ∧ h0.size ≤ b5 ∧ Arv Z h b5 k5 .byte (24 : Int32) [(.int (101 : Int32)), (.int (120 : Int32)), (.int (112 : Int32)), (.int (101 : Int32)), (.int (99 : Int32)), (.int (116 : Int32)), (.int (101 : Int32)), (.int (100 : Int32)), (.int (32 : Int32)), (.int (98 : Int32)), (.int (101 : Int32)), (.int (116 : Int32)), (.int (119 : Int32)), (.int (101 : Int32)), (.int (101 : Int32)), (.int (110 : Int32)), (.int (32 : Int32)), (.int i3), (.int (32 : Int32)), (.int (97 : Int32)), (.int (110 : Int32)), (.int (100 : Int32)), (.int (32 : Int32)), (.int i4)] (.int (0 : Int32)) ∧ Exa Z h b5 "[B"
set_option maxRecDepth 65536 in
set_option maxHeartbeats 40000000 in
theorem rm30a220 (l : Launch) (Z : State) (a0 : Array Value) (hw : HW a0 Z) (ws : List Jvm.Cond) (b11a : Addr) (k11b : ClassId) (i3 : Int32) (i4 : Int32) (h0 : Heap) (n0 : Nat) (Z0 : n0 ≤ h0.size) (PV19 : Arv Z h0 b11a k11b .byte (34 : Int32) [(.int (101 : Int32)), (.int (120 : Int32)), (.int (112 : Int32)), (.int (101 : Int32)), (.int (99 : Int32)), (.int (116 : Int32)), (.int (101 : Int32)), (.int (100 : Int32)), (.int (32 : Int32)), (.int (98 : Int32)), (.int (101 : Int32)), (.int (116 : Int32)), (.int (119 : Int32)), (.int (101 : Int32)), (.int (101 : Int32)), (.int (110 : Int32)), (.int (32 : Int32)), (.int i3), (.int (32 : Int32)), (.int (97 : Int32)), (.int (110 : Int32)), (.int (100 : Int32)), (.int (32 : Int32)), (.int i4), (.int (0 : Int32)), (.int (0 : Int32)), (.int (0 : Int32)), (.int (0 : Int32)), (.int (0 : Int32)), (.int (0 : Int32)), (.int (0 : Int32)), (.int (0 : Int32)), (.int (0 : Int32)), (.int (0 : Int32))] (.int (0 : Int32))) :
    own_Met l mn25 jdk_65_method_133_code 5 (some (.array .byte)) ws (oRm 1 1 24 18) #[(.ref b11a), (.int (0 : Int32)), (.int (24 : Int32))] Z h0 (Q30a220 Z i3 i4 h0 n0) := by
  refine own_met (own := "java/util/Arrays") rfl (plainFor_of_name pn_11) ?_
  intro p e s m below meth c s₁ hx hby hml hZ hown hnm X0 e0 Br Bs
  have N0 := Fr.nil n0
  have tt := own_tt hx hby own_ok30
  show own_Ends p e below s _ _ _ s₁ (mkF m 0 #[oR b11a, oI 0, oI 24, oU, oU] [])
  refine own_go (T' := s₁) (f' := (mkF m 2 #[oR b11a, oI 0, oI 24, oU, oU] [vI 24, vI 0])) (fun _ k => own_e X0 tt 0 2 k rfl) ?_
  obtain ⟨_, T5, Lc5, X5, hQ5, st5⟩ := own_outC (Jvm.LawKit.callS X0 hx (y := mn24) hown (mvT hZ (ow168 hw)) (mvT hZ (ow169 hw)) (mvT hZ (ow87 hw)) (mvT hZ (ow170 hw)) (by decide) (backOf (W := 0) (rm31a85 l Z a0 hw [] (24 : Int32) h0 n0 Z0 (by decide : ¬ ((24 : Int32) < (0 : Int32)))) hZ (ow170 hw) (ow87 hw) (by decide) (by decide)) (g := (mkF m 2 #[oR b11a, oI 0, oI 24, oU, oU] [vI 24, vI 0])) rfl (by rw [hml]; rfl) (argsL := [(.int (0 : Int32)), (.int (24 : Int32))]) (rest := []) (lenOf pd14 rfl) rfl (by show 2 * 0 + _ ≤ _; exact Nat.le_of_eq rfl) (hb hby d30_2) (fun _ _ => ⟨rfl, e0, (by decide : 0 + 0 ≤ _), (by decide : 0 + 0 ≤ _)⟩))
  obtain ⟨rfl, N5q, hh5⟩ := hQ5
  have N5 := Fr.app N0 N5q
  obtain ⟨_, X5, N5⟩ := own_hide X5 N5
  refine own_go (T' := T5) (f' := (mkF m 10 #[oR b11a, oI 0, oI 24, oI 24, oU] [vI 24])) (fun _ k => st5 _ (own_e X5 tt 5 5 k rfl)) ?_
  obtain ⟨T6, h6, k6, X6, e6, E6, A6, EA6, st6⟩ := newPE (aty := .byte) X5 hx hZ (ow32 hw) hh5 (g := (mkF m 10 #[oR b11a, oI 0, oI 24, oI 24, oU] [vI 24])) rfl (hb hby d30_10) rfl (by decide) (cap := 24) (by decide) (by decide) (by decide) (by decide) (ad := "[B") (by decide +kernel)
  obtain ⟨b6, g_b6⟩ : ∃ z, z = h0.size := ⟨_, rfl⟩
  have sg_b6 : h0.size ≤ b6 := Nat.le_of_eq g_b6.symm
  rw [← g_b6] at A6 EA6 st6
  have n_b6 := oT Z0 sg_b6
  have sz_b6 := oT (Keep.refl h0 []).1 sg_b6
  have K6 : Keep h0 h6 [] := (Keep.refl h0 []).ext E6
  have V_b6 : Arv Z h6 b6 k6 .byte (24 : Int32) own_ls5 (.int (0 : Int32)) := (Arv.new A6 (by decide)).pad (pad_rep [] (.int (0 : Int32)) 24)
  refine own_go (T' := T6) (f' := (mkF m 20 #[oR b11a, oI 0, oI 24, oI 24, oR b6] [vR b11a, vI 0, vR b6, vI 0, vR b11a])) (fun _ k => st6 _ (own_e X6 tt 12 6 k rfl)) ?_
  refine own_go (T' := T6) (f' := (mkF m 24 #[oR b11a, oI 0, oI 24, oI 24, oR b6] [vI 24, vI 34, vI 0, vR b6, vI 0, vR b11a])) (fun _ k => own_alen X6 hx hZ e6 (PV19.ext E6) rfl rfl (hb hby d30_20) (own_e X6 tt 21 3 k rfl)) ?_
  obtain ⟨_, T7, Lc7, X7, hQ7, st7⟩ := own_outC (Jvm.LawKit.callS X6 hx (y := mn0) hown (mvT hZ (ow89 hw)) (mvT hZ (ow2 hw)) (mvT hZ (ow3 hw)) (mvT hZ (ow4 hw)) (by decide) (backOf (W := 4) (rm1a155 l Z a0 hw [] (24 : Int32) h6 n0 (oT Z0 E6.1) (by decide : ((24 : Int32) < (34 : Int32)))) hZ (ow4 hw) (ow3 hw) (by decide) (by decide)) (g := (mkF m 24 #[oR b11a, oI 0, oI 24, oI 24, oR b6] [vI 24, vI 34, vI 0, vR b6, vI 0, vR b11a])) rfl (by rw [hml]; rfl) (argsL := [(.int (34 : Int32)), (.int (24 : Int32))]) (rest := [(.int (0 : Int32)), (.ref b6), (.int (0 : Int32)), (.ref b11a)]) (lenOf pd12 rfl) rfl (by show 2 * 0 + _ ≤ _; exact Nat.le_of_eq rfl) (hb hby d30_24) (fun _ _ => ⟨rfl, e6, (by decide : 1 + 0 ≤ _), (by decide : 24 + 0 ≤ _)⟩))
  obtain ⟨rfl, N7q, hh7⟩ := hQ7
  have N7 := Fr.app N5 N7q
  obtain ⟨_, X7, N7⟩ := own_hide X7 N7
  refine own_go (T' := T7) (f' := (mkF m 27 #[oR b11a, oI 0, oI 24, oI 24, oR b6] [vI 24, vI 0, vR b6, vI 0, vR b11a])) (fun _ k => st7 _ k) ?_
  obtain ⟨T8, h8, Lq8, X8, e8, N8, K8, V8, st8⟩ := cpA X7 hx hZ hown (ow90 hw) (ow93 hw) (ow91 hw) (ow92 hw) hh7 (PV19.ext E6) V_b6 (Or.inl ⟨rfl, rfl⟩) (sp := (0 : Int32)) (dp := (0 : Int32)) (nn := (24 : Int32)) (by decide) (by decide) (by decide) (by decide) (by decide) (us := [(.int (101 : Int32)), (.int (120 : Int32)), (.int (112 : Int32)), (.int (101 : Int32)), (.int (99 : Int32)), (.int (116 : Int32)), (.int (101 : Int32)), (.int (100 : Int32)), (.int (32 : Int32)), (.int (98 : Int32)), (.int (101 : Int32)), (.int (116 : Int32)), (.int (119 : Int32)), (.int (101 : Int32)), (.int (101 : Int32)), (.int (110 : Int32)), (.int (32 : Int32)), (.int i3), (.int (32 : Int32)), (.int (97 : Int32)), (.int (110 : Int32)), (.int (100 : Int32)), (.int (32 : Int32)), (.int i4)]) rfl (Nat.le_of_ble_eq_true rfl) N7 n_b6 (g := (mkF m 27 #[oR b11a, oI 0, oI 24, oI 24, oR b6] [vI 24, vI 0, vR b6, vI 0, vR b11a])) rfl (by rw [hml]; rfl) rfl (hb hby d30_27) (by decide) (W := 0) (by show 2 * 0 + _ ≤ _; exact Nat.le_of_eq rfl) (by decide)
  have V8s : Arv Z h8 b6 k6 .byte (24 : Int32) [(.int (101 : Int32)), (.int (120 : Int32)), (.int (112 : Int32)), (.int (101 : Int32)), (.int (99 : Int32)), (.int (116 : Int32)), (.int (101 : Int32)), (.int (100 : Int32)), (.int (32 : Int32)), (.int (98 : Int32)), (.int (101 : Int32)), (.int (116 : Int32)), (.int (119 : Int32)), (.int (101 : Int32)), (.int (101 : Int32)), (.int (110 : Int32)), (.int (32 : Int32)), (.int i3), (.int (32 : Int32)), (.int (97 : Int32)), (.int (110 : Int32)), (.int (100 : Int32)), (.int (32 : Int32)), (.int i4)] (.int (0 : Int32)) := V8
  have KK8 : Keep h0 h8 [] := Keep.trans K6 K8 (allS (Or.inr sz_b6) all0)
  refine own_go (T' := T8) (f' := (mkF m 32 #[oR b11a, oI 0, oI 24, oI 24, oR b6] [vR b6])) (fun _ k => st8 _ (own_e X8 tt 30 1 k rfl)) ?_
  refine own_ret X8 (v := some (.ref b6)) (oN Br) Bs (fun fs hr => own_retA X8 hx Br rfl rfl (hb hby d30_32) hr) ?_ (by decide) (by decide)
  unfold Q30a220
  rw [e8]
  exact ⟨b6, k6, rfl, N8, KK8, n_b6, sz_b6, V8s, (EA6.keep K8)⟩
def Q29a219 (Z : State) (i3 : Int32) (i4 : Int32) (h0 : Heap) (n0 : Nat) (v : Option Value) (h : Heap) (L : List Loc) : Prop := ∃ (b5a : Addr) (k5b : ClassId), v = some (.ref b5a) ∧ Fr n0 L ∧ Keep h0 h [] ∧ n0 ≤ b5a ∧ h0.size ≤ b5a ∧ Arv Z h b5a k5b .byte (24 : Int32) [(.int (101 : Int32)), (.int (120 : Int32)), (.int (112 : Int32)), (.int (101 : Int32)), (.int (99 : Int32)), (.int (116 : Int32)), (.int (101 : Int32)), (.int (100 : Int32)), (.int (32 : Int32)), (.int (98 : Int32)), (.int (101 : Int32)), (.int (116 : Int32)), (.int (119 : Int32)), (.int (101 : Int32)), (.int (101 : Int32)), (.int (110 : Int32)), (.int (32 : Int32)), (.int i3), (.int (32 : Int32)), (.int (97 : Int32)), (.int (110 : Int32)), (.int (100 : Int32)), (.int (32 : Int32)), (.int i4)] (.int (0 : Int32)) ∧ Exa Z h b5a "[B"
set_option maxRecDepth 65536 in
set_option maxHeartbeats 40000000 in
theorem rm29a219 (l : Launch) (Z : State) (a0 : Array Value) (hw : HW a0 Z) (ws : List Jvm.Cond) (b11a : Addr) (k11b : ClassId) (i3 : Int32) (i4 : Int32) (h0 : Heap) (n0 : Nat) (Z0 : n0 ≤ h0.size) (PV19 : Arv Z h0 b11a k11b .byte (34 : Int32) [(.int (101 : Int32)), (.int (120 : Int32)), (.int (112 : Int32)), (.int (101 : Int32)), (.int (99 : Int32)), (.int (116 : Int32)), (.int (101 : Int32)), (.int (100 : Int32)), (.int (32 : Int32)), (.int (98 : Int32)), (.int (101 : Int32)), (.int (116 : Int32)), (.int (119 : Int32)), (.int (101 : Int32)), (.int (101 : Int32)), (.int (110 : Int32)), (.int (32 : Int32)), (.int i3), (.int (32 : Int32)), (.int (97 : Int32)), (.int (110 : Int32)), (.int (100 : Int32)), (.int (32 : Int32)), (.int i4), (.int (0 : Int32)), (.int (0 : Int32)), (.int (0 : Int32)), (.int (0 : Int32)), (.int (0 : Int32)), (.int (0 : Int32)), (.int (0 : Int32)), (.int (0 : Int32)), (.int (0 : Int32)), (.int (0 : Int32))] (.int (0 : Int32))) :
    own_Met l mn26 jdk_65_method_132_code 3 (some (.array .byte)) ws (oRm 2 1 24 34) #[(.ref b11a), (.int (0 : Int32)), (.int (24 : Int32))] Z h0 (Q29a219 Z i3 i4 h0 n0) := by
  refine own_met (own := "java/util/Arrays") rfl (plainFor_of_name pn_11) ?_
  intro p e s m below meth c s₁ hx hby hml hZ hown hnm X0 e0 Br Bs
  have N0 := Fr.nil n0
  have tt := own_tt hx hby own_ok29
  show own_Ends p e below s _ _ _ s₁ (mkF m 0 #[oR b11a, oI 0, oI 24] [])
  refine own_go (T' := s₁) (f' := (mkF m 6 #[oR b11a, oI 0, oI 24] [vR b11a, vI 24])) (fun _ k => own_e X0 tt 0 4 k rfl) ?_
  refine own_go (T' := s₁) (f' := (mkF m 13 #[oR b11a, oI 0, oI 24] [vI 24, vI 0, vR b11a])) (fun _ k => own_alen X0 hx hZ e0 PV19 rfl rfl (hb hby d29_6) (own_e X0 tt 7 4 k rfl)) ?_
  obtain ⟨_, T5, Lc5, X5, hQ5, st5⟩ := own_outC (Jvm.LawKit.callS X0 hx (y := mn25) hown (mvT hZ (ow165 hw)) (mvT hZ (ow166 hw)) (mvT hZ (ow87 hw)) (mvT hZ (ow167 hw)) (by decide) (backOf (W := 0) (rm30a220 l Z a0 hw [] b11a k11b i3 i4 h0 n0 Z0 PV19) hZ (ow167 hw) (ow87 hw) (by decide) (by decide)) (g := (mkF m 13 #[oR b11a, oI 0, oI 24] [vI 24, vI 0, vR b11a])) rfl (by rw [hml]; rfl) (argsL := [(.ref b11a), (.int (0 : Int32)), (.int (24 : Int32))]) (rest := []) (lenOf pd29 rfl) rfl (by show 2 * 0 + _ ≤ _; exact Nat.le_of_eq rfl) (hb hby d29_13) (fun _ _ => ⟨rfl, e0, (by decide : 0 + 1 ≤ _), (by decide : 0 + 24 ≤ _)⟩))
  obtain ⟨b5a, k5b, rfl, N5q, K5, n_b5a, sg_b5a, g5_0, g5_1⟩ := hQ5
  have N5 := Fr.app N0 N5q
  have sz_b5a := oT (Keep.refl h0 []).1 sg_b5a
  have eK5 : T5.heap = T5.heap := rfl
  have KK5 : Keep h0 T5.heap [] := Keep.trans (Keep.refl h0 []) K5 all0
  obtain ⟨_, X5, N5⟩ := own_hide X5 N5
  refine own_go (T' := T5) (f' := (mkF m 16 #[oR b11a, oI 0, oI 24] [vR b5a])) (fun _ k => st5 _ k) ?_
  refine own_ret X5 (v := some (.ref b5a)) (oN Br) Bs (fun fs hr => own_retA X5 hx Br rfl rfl (hb hby d29_16) hr) ?_ (by decide) (by decide)
  unfold Q29a219
  rw [eK5]
  exact ⟨b5a, k5b, rfl, N5, KK5, n_b5a, sz_b5a, g5_0, g5_1⟩
def Q25a218 (Z : State) (b3 : Addr) (i4 : Int32) (i5 : Int32) (h0 : Heap) (n0 : Nat) (v : Option Value) (h : Heap) (L : List Loc) : Prop := ∃ (b6a : Addr) (k6b : ClassId), v = none ∧ Fr n0 L ∧ Keep h0 h [b3] ∧ n0 ≤ b6a ∧ h0.size ≤ b6a ∧ oF4 Z h b3 (.ref b6a) ∧ oF3 Z h b3 (.int (0 : Int32)) ∧ Arv Z h b6a k6b .byte (24 : Int32) [(.int (101 : Int32)), (.int (120 : Int32)), (.int (112 : Int32)), (.int (101 : Int32)), (.int (99 : Int32)), (.int (116 : Int32)), (.int (101 : Int32)), (.int (100 : Int32)), (.int (32 : Int32)), (.int (98 : Int32)), (.int (101 : Int32)), (.int (116 : Int32)), (.int (119 : Int32)), (.int (101 : Int32)), (.int (101 : Int32)), (.int (110 : Int32)), (.int (32 : Int32)), (.int i4), (.int (32 : Int32)), (.int (97 : Int32)), (.int (110 : Int32)), (.int (100 : Int32)), (.int (32 : Int32)), (.int i5)] (.int (0 : Int32)) ∧ Exa Z h b6a "[B"
set_option maxRecDepth 65536 in
set_option maxHeartbeats 40000000 in
theorem rm25a218 (l : Launch) (Z : State) (a0 : Array Value) (hw : HW a0 Z) (ws : List Jvm.Cond) (b3 : Addr) (b2 : Addr) (cs : Int32) (b11a : Addr) (k11b : ClassId) (i4 : Int32) (i5 : Int32) (h0 : Heap) (n0 : Nat) (Z0 : n0 ≤ h0.size) (PS0 : Sta Z h0 "java/lang/String" "COMPACT_STRINGS" "Z" (.int cs)) (PE9 : Exa Z h0 b2 "java/lang/StringBuilder") (PF10 : oF0 Z h0 b2 (.ref b11a)) (PF11 : oF1 Z h0 b2 (.int (0 : Int32))) (PF12 : oF2 Z h0 b2 (.int (24 : Int32))) (PV19 : Arv Z h0 b11a k11b .byte (34 : Int32) [(.int (101 : Int32)), (.int (120 : Int32)), (.int (112 : Int32)), (.int (101 : Int32)), (.int (99 : Int32)), (.int (116 : Int32)), (.int (101 : Int32)), (.int (100 : Int32)), (.int (32 : Int32)), (.int (98 : Int32)), (.int (101 : Int32)), (.int (116 : Int32)), (.int (119 : Int32)), (.int (101 : Int32)), (.int (101 : Int32)), (.int (110 : Int32)), (.int (32 : Int32)), (.int i4), (.int (32 : Int32)), (.int (97 : Int32)), (.int (110 : Int32)), (.int (100 : Int32)), (.int (32 : Int32)), (.int i5), (.int (0 : Int32)), (.int (0 : Int32)), (.int (0 : Int32)), (.int (0 : Int32)), (.int (0 : Int32)), (.int (0 : Int32)), (.int (0 : Int32)), (.int (0 : Int32)), (.int (0 : Int32)), (.int (0 : Int32))] (.int (0 : Int32))) (PE25 : Exa Z h0 b3 "java/lang/String") (PF26 : oF4 Z h0 b3 .null) (PF27 : oF3 Z h0 b3 (.int (0 : Int32))) (PP0 : ¬ (cs = (0 : Int32))) (ne_b11a_b3 : b11a ≠ b3) (n_b3 : n0 ≤ b3) :
    own_Met l mn27 jdk_42_method_150_code 5 none ws (oRm 3 1 24 49) #[(.ref b3), (.ref b2), .null] Z h0 (Q25a218 Z b3 i4 i5 h0 n0) := by
  refine own_met (own := "java/lang/String") rfl (plainFor_of_name pn_7) ?_
  intro p e s m below meth c s₁ hx hby hml hZ hown hnm X0 e0 Br Bs
  have N0 := Fr.nil n0
  have tt := own_tt hx hby own_ok25
  show own_Ends p e below s _ _ _ s₁ (mkF m 0 #[oR b3, oR b2, .val .null, oU, oU] [])
  refine own_go (T' := s₁) (f' := (mkF m 1 #[oR b3, oR b2, .val .null, oU, oU] [vR b3])) (fun _ k => own_e X0 tt 0 1 k rfl) ?_
  obtain ⟨T6, X6, e6, st6⟩ := initO X0 hx hZ hown (ow147 hw) (ow28 hw) (ow29 hw) e0 (g := (mkF m 1 #[oR b3, oR b2, .val .null, oU, oU] [vR b3])) rfl (by rw [hml]; rfl) rfl (hb hby d25_1) (by decide) (W := 0) (by show 2 * 0 + _ ≤ _; exact Nat.le_of_eq rfl) (by decide)
  refine own_go (T' := T6) (f' := (mkF m 5 #[oR b3, oR b2, .val .null, oU, oU] [vR b2])) (fun _ k => st6 _ (own_e X6 tt 4 1 k rfl)) ?_
  obtain ⟨cq7, kq7, q7a, q7b, q7c⟩ := isOf hZ e6 PE9
  obtain ⟨_, T7, Lc7, X7, hQ7, st7⟩ := own_out (X6.virtualBack hx (y := mn21) (z := mn21) hown (mvT hZ (ow148 hw)) (mvT hZ (ow149 hw)) (notFace_of_selects (args := #[]) (mvT hZ (ow151 hw))) (mvT hZ (ow151 hw)) (mvT hZ (ow150 hw)) (by decide) (backOf (W := 0) (rm26a70 l Z a0 hw [] b2 b11a h0 n0 Z0 PF10) hZ (ow152 hw) (ow25 hw) (by decide) (by decide)) q7a q7c (g := (mkF m 5 #[oR b3, oR b2, .val .null, oU, oU] [vR b2])) rfl (by rw [hml]; rfl) (Steps.refl _) (argsL := []) (rest := []) (lenOf pd7 rfl) rfl (by show 2 * 0 + _ ≤ _; exact Nat.le_of_eq rfl) (hb hby d25_5) (fun _ _ => ⟨rfl, e6, (by decide : 0 + 0 ≤ _), (by decide : 0 + 0 ≤ _)⟩))
  obtain ⟨rfl, N7q, hh7⟩ := hQ7
  have N7 := Fr.app N0 N7q
  obtain ⟨_, X7, N7⟩ := own_hide X7 N7
  refine own_go (T' := T7) (f' := (mkF m 10 #[oR b3, oR b2, .val .null, oR b11a, oU] [vR b2])) (fun _ k => st7.trans (own_e X7 tt 8 2 k rfl)) ?_
  obtain ⟨cq8, kq8, q8a, q8b, q8c⟩ := isOf hZ hh7 PE9
  obtain ⟨_, T8, Lc8, X8, hQ8, st8⟩ := own_out (X7.virtualBack hx (y := mn22) (z := mn23) hown (mvT hZ (ow153 hw)) (mvT hZ (ow154 hw)) (own_nf (args := #[]) (y2 := mn11) (mvT hZ (ow71 hw)) rfl) (mvT hZ (ow156 hw)) (mvT hZ (ow157 hw)) (by decide) (backOf (W := 0) (rm27a71 l Z a0 hw [] b2 (24 : Int32) h0 n0 Z0 PE9 PF12) hZ (ow158 hw) (ow17 hw) (by decide) (by decide)) q8a q8c (g := (mkF m 10 #[oR b3, oR b2, .val .null, oR b11a, oU] [vR b2])) rfl (by rw [hml]; rfl) (Steps.refl _) (argsL := []) (rest := []) (lenOf pd1 rfl) rfl (by show 2 * 0 + _ ≤ _; exact Nat.le_of_eq rfl) (hb hby d25_10) (fun _ _ => ⟨rfl, hh7, (by decide : 0 + 0 ≤ _), (by decide : 0 + 0 ≤ _)⟩))
  obtain ⟨rfl, N8q, hh8⟩ := hQ8
  have N8 := Fr.app N7 N8q
  obtain ⟨_, X8, N8⟩ := own_hide X8 N8
  refine own_go (T' := T8) (f' := (mkF m 16 #[oR b3, oR b2, .val .null, oR b11a, oI 24] [vR b2])) (fun _ k => st8.trans (own_e X8 tt 13 2 k rfl)) ?_
  obtain ⟨cq13, kq13, q13a, q13b, q13c⟩ := isOf hZ hh8 PE9
  obtain ⟨_, T13, Lc13, X13, hQ13, st13⟩ := own_out (X8.virtualBack hx (y := mn17) (z := mn17) hown (mvT hZ (ow161 hw)) (mvT hZ (ow125 hw)) (notFace_of_selects (args := #[]) (mvT hZ (ow127 hw))) (mvT hZ (ow127 hw)) (mvT hZ (ow126 hw)) (by decide) (backOf (W := 0) (rm21a22 l Z a0 hw [] b2 cs h0 n0 Z0 PS0 PF11 PP0) hZ (ow128 hw) (ow25 hw) (by decide) (by decide)) q13a q13c (g := (mkF m 16 #[oR b3, oR b2, .val .null, oR b11a, oI 24] [vR b2])) rfl (by rw [hml]; rfl) (Steps.refl _) (argsL := []) (rest := []) (lenOf pd6 rfl) rfl (by show 2 * 0 + _ ≤ _; exact Nat.le_of_eq rfl) (hb hby d25_16) (fun _ _ => ⟨rfl, hh8, (by decide : 0 + 0 ≤ _), (by decide : 0 + 0 ≤ _)⟩))
  obtain ⟨rfl, N13q, hh13⟩ := hQ13
  have N13 := Fr.app N8 N13q
  obtain ⟨_, X13, N13⟩ := own_hide X13 N13
  refine own_go (T' := T13) (f' := (mkF m 24 #[oR b3, oR b2, .val .null, oR b11a, oI 24] [vI 0, vR b3])) (fun _ k => st13.trans (own_e X13 tt 19 3 k rfl)) ?_
  obtain ⟨T14, h14, X14, e14, W14, st14⟩ := putFN X13 hx hZ hown (ow65 hw) Via.refl hh13 PF27 PE25 (Or.inr ⟨(ow40 hw), rfl, hnm⟩) (ow38 hw) (ty := .byte) (v' := (.int (0 : Int32))) (by decide) rfl (fits_nar_byte (0 : Int32)) (g := (mkF m 24 #[oR b3, oR b2, .val .null, oR b11a, oI 24] [vI 0, vR b3])) rfl rfl (hb hby d25_24)
  have Fw14 := Fld.same W14 PF27
  have K14 : Keep h0 h14 [b3] := (Keep.refl h0 [b3]).wr W14 (Or.inl (List.mem_of_getElem? (i := 0) rfl))
  have N14 := Fr.snoc X14 N13 n_b3
  refine own_go (T' := T14) (f' := (mkF m 32 #[oR b3, oR b2, .val .null, oR b11a, oI 24] [vI 24, vI 0, vR b11a, vR b3])) (fun _ k => st14 _ (own_e X14 tt 27 4 k rfl)) ?_
  obtain ⟨_, T15, Lc15, X15, hQ15, st15⟩ := own_outC (Jvm.LawKit.callS X14 hx (y := mn26) hown (mvT hZ (ow162 hw)) (mvT hZ (ow163 hw)) (mvT hZ (ow87 hw)) (mvT hZ (ow164 hw)) (by decide) (backOf (W := 1) (rm29a219 l Z a0 hw [] b11a k11b i4 i5 h14 n0 (oT Z0 (Keep.of_wr W14).1) (PV19.other W14 ne_b11a_b3)) hZ (ow164 hw) (ow87 hw) (by decide) (by decide)) (g := (mkF m 32 #[oR b3, oR b2, .val .null, oR b11a, oI 24] [vI 24, vI 0, vR b11a, vR b3])) rfl (by rw [hml]; rfl) (argsL := [(.ref b11a), (.int (0 : Int32)), (.int (24 : Int32))]) (rest := [(.ref b3)]) (lenOf pd29 rfl) rfl (by show 2 * 0 + _ ≤ _; exact Nat.le_of_eq rfl) (hb hby d25_32) (fun _ _ => ⟨rfl, e14, (by decide : 0 + 1 ≤ _), (by decide : 0 + 24 ≤ _)⟩))
  obtain ⟨b15a, k15b, rfl, N15q, K15, n_b15a, sg_b15a, g15_0, g15_1⟩ := hQ15
  have N15 := Fr.app N14 N15q
  have sz_b15a := oT K14.1 sg_b15a
  have eK15 : T15.heap = T15.heap := rfl
  have KK15 : Keep h0 T15.heap [b3] := Keep.trans K14 K15 all0
  obtain ⟨_, X15, N15⟩ := own_hide X15 N15
  refine own_go (T' := T15) (f' := (mkF m 35 #[oR b3, oR b2, .val .null, oR b11a, oI 24] [vR b15a, vR b3])) (fun _ k => st15 _ k) ?_
  obtain ⟨T16, h16, X16, e16, W16, st16⟩ := putF X15 hx hZ hown (host := "") (Or.inl (ow58 hw)) Via.refl eK15 ((PF26.other W14 (Or.inr (sn_39_40 hw))).keep K15 nin0) ((PE25.wr W14).keep K15) (Or.inr ⟨(ow39 hw), rfl, hnm⟩) (ow38 hw) (ty := (.array .byte)) (by decide) rfl rfl (g := (mkF m 35 #[oR b3, oR b2, .val .null, oR b11a, oI 24] [vR b15a, vR b3])) rfl rfl (hb hby d25_35)
  have Fw16 := Fld.same W16 ((PF26.other W14 (Or.inr (sn_39_40 hw))).keep K15 nin0)
  have K16 : Keep h0 h16 [b3] := KK15.wr W16 (Or.inl (List.mem_of_getElem? (i := 0) rfl))
  have N16 := Fr.snoc X16 N15 n_b3
  refine own_go (T' := T16) (f' := (mkF m 97 #[oR b3, oR b2, .val .null, oR b11a, oI 24] [])) (fun _ k => st16 _ (own_e X16 tt 38 1 k rfl)) ?_
  refine own_ret X16 (v := none) (fun _ => rfl) Bs (fun fs hr => X16.returnOut hx Br (hb hby d25_97) hr) ?_ (by decide) (by decide)
  unfold Q25a218
  rw [e16]
  exact ⟨b15a, k15b, rfl, N16, K16, n_b15a, sz_b15a, Fw16, ((Fw14.keep K15 nin0).other W16 (Or.inr (sn_40_39 hw))), (g15_0.other W16 (oM PE25.lt sz_b15a)), (g15_1.wr W16)⟩
def Q24a217 (Z : State) (b3 : Addr) (i4 : Int32) (i5 : Int32) (h0 : Heap) (n0 : Nat) (v : Option Value) (h : Heap) (L : List Loc) : Prop := ∃ (b6a : Addr) (k6b : ClassId), v = none ∧ Fr n0 L ∧ Keep h0 h [b3] ∧ n0 ≤ b6a ∧ h0.size ≤ b6a ∧ oF4 Z h b3 (.ref b6a) ∧ oF3 Z h b3 (.int (0 : Int32)) ∧ Arv Z h b6a k6b .byte (24 : Int32) [(.int (101 : Int32)), (.int (120 : Int32)), (.int (112 : Int32)), (.int (101 : Int32)), (.int (99 : Int32)), (.int (116 : Int32)), (.int (101 : Int32)), (.int (100 : Int32)), (.int (32 : Int32)), (.int (98 : Int32)), (.int (101 : Int32)), (.int (116 : Int32)), (.int (119 : Int32)), (.int (101 : Int32)), (.int (101 : Int32)), (.int (110 : Int32)), (.int (32 : Int32)), (.int i4), (.int (32 : Int32)), (.int (97 : Int32)), (.int (110 : Int32)), (.int (100 : Int32)), (.int (32 : Int32)), (.int i5)] (.int (0 : Int32)) ∧ Exa Z h b6a "[B"
set_option maxRecDepth 65536 in
set_option maxHeartbeats 40000000 in
theorem rm24a217 (l : Launch) (Z : State) (a0 : Array Value) (hw : HW a0 Z) (ws : List Jvm.Cond) (b4 : Addr) (b2 : Addr) (cs : Int32) (b11a : Addr) (k11b : ClassId) (i5 : Int32) (i6 : Int32) (h0 : Heap) (n0 : Nat) (Z0 : n0 ≤ h0.size) (PS0 : Sta Z h0 "java/lang/String" "COMPACT_STRINGS" "Z" (.int cs)) (PE9 : Exa Z h0 b2 "java/lang/StringBuilder") (PF10 : oF0 Z h0 b2 (.ref b11a)) (PF11 : oF1 Z h0 b2 (.int (0 : Int32))) (PF12 : oF2 Z h0 b2 (.int (24 : Int32))) (PV19 : Arv Z h0 b11a k11b .byte (34 : Int32) [(.int (101 : Int32)), (.int (120 : Int32)), (.int (112 : Int32)), (.int (101 : Int32)), (.int (99 : Int32)), (.int (116 : Int32)), (.int (101 : Int32)), (.int (100 : Int32)), (.int (32 : Int32)), (.int (98 : Int32)), (.int (101 : Int32)), (.int (116 : Int32)), (.int (119 : Int32)), (.int (101 : Int32)), (.int (101 : Int32)), (.int (110 : Int32)), (.int (32 : Int32)), (.int i5), (.int (32 : Int32)), (.int (97 : Int32)), (.int (110 : Int32)), (.int (100 : Int32)), (.int (32 : Int32)), (.int i6), (.int (0 : Int32)), (.int (0 : Int32)), (.int (0 : Int32)), (.int (0 : Int32)), (.int (0 : Int32)), (.int (0 : Int32)), (.int (0 : Int32)), (.int (0 : Int32)), (.int (0 : Int32)), (.int (0 : Int32))] (.int (0 : Int32))) (PE25 : Exa Z h0 b4 "java/lang/String") (PF26 : oF4 Z h0 b4 .null) (PF27 : oF3 Z h0 b4 (.int (0 : Int32))) (PP0 : ¬ (cs = (0 : Int32))) (ne_b11a_b4 : b11a ≠ b4) (n_b4 : n0 ≤ b4) :
    own_Met l mn28 jdk_42_method_53_code 2 none ws (oRm 4 1 24 65) #[(.ref b4), (.ref b2)] Z h0 (Q24a217 Z b4 i5 i6 h0 n0) := by
  refine own_met (own := "java/lang/String") rfl (plainFor_of_name pn_7) ?_
  intro p e s m below meth c s₁ hx hby hml hZ hown hnm X0 e0 Br Bs
  have N0 := Fr.nil n0
  have tt := own_tt hx hby own_ok24
  show own_Ends p e below s _ _ _ s₁ (mkF m 0 #[oR b4, oR b2] [])
  refine own_go (T' := s₁) (f' := (mkF m 3 #[oR b4, oR b2] [.null, vR b2, vR b4])) (fun _ k => own_e X0 tt 0 3 k rfl) ?_
  obtain ⟨_, T7, Lc7, X7, hQ7, st7⟩ := own_out (X0.specialBack hx (y := mn27) rfl hown (mvT hZ (ow144 hw)) (mvT hZ (ow145 hw)) (mvT hZ (ow146 hw)) (by decide) (backOf (W := 0) (rm25a218 l Z a0 hw [] b4 b2 cs b11a k11b i5 i6 h0 n0 Z0 PS0 PE9 PF10 PF11 PF12 PV19 PE25 PF26 PF27 PP0 ne_b11a_b4 n_b4) hZ (ow146 hw) (ow31 hw) (by decide) (by decide)) (g := (mkF m 3 #[oR b4, oR b2] [.null, vR b2, vR b4])) rfl (by rw [hml]; rfl) (Steps.refl _) (a := b4) (argsL := [(.ref b2), .null]) (rest := []) (lenOf pd19 rfl) rfl (by show 2 * 0 + _ ≤ _; exact Nat.le_of_eq rfl) (hb hby d24_3) (fun _ _ => ⟨rfl, e0, (by decide : 0 + 1 ≤ _), (by decide : 0 + 24 ≤ _)⟩))
  obtain ⟨b7a, k7b, rfl, N7q, K7, n_b7a, sg_b7a, g7_0, g7_1, g7_2, g7_3⟩ := hQ7
  have N7 := Fr.app N0 N7q
  have sz_b7a := oT (Keep.refl h0 [b4]).1 sg_b7a
  have eK7 : T7.heap = T7.heap := rfl
  have KK7 : Keep h0 T7.heap [b4] := Keep.trans (Keep.refl h0 [b4]) K7 (allS (Or.inl (List.mem_of_getElem? (i := 0) rfl)) all0)
  obtain ⟨_, X7, N7⟩ := own_hide X7 N7
  refine own_go (T' := T7) (f' := (mkF m 6 #[oR b4, oR b2] [])) (fun _ k => st7.trans k) ?_
  refine own_ret X7 (v := none) (fun _ => rfl) Bs (fun fs hr => X7.returnOut hx Br (hb hby d24_6) hr) ?_ (by decide) (by decide)
  unfold Q24a217
  rw [eK7]
  exact ⟨b7a, k7b, rfl, N7, KK7, n_b7a, sz_b7a, g7_0, g7_1, g7_2, g7_3⟩
def Q23a216 (Z : State) (i3 : Int32) (i4 : Int32) (h0 : Heap) (n0 : Nat) (v : Option Value) (h : Heap) (L : List Loc) : Prop := ∃ (b5 : Addr) (b6a : Addr) (k6b : ClassId), v = some (.ref b5) ∧ Fr n0 L ∧ Keep h0 h [] ∧ n0 ≤ b5 ∧ h0.size ≤ b5 ∧ n0 ≤ b6a ∧ h0.size ≤ b6a ∧ b6a ≠ b5 ∧ Exa Z h b5 "java/lang/String" ∧ oF4 Z h b5 (.ref b6a) ∧ oF3 Z h b5 (.int (0 : Int32)) ∧ Arv Z h b6a k6b .byte (24 : Int32) [(.int (101 : Int32)), (.int (120 : Int32)), (.int (112 : Int32)), (.int (101 : Int32)), (.int (99 : Int32)), (.int (116 : Int32)), (.int (101 : Int32)), (.int (100 : Int32)), (.int (32 : Int32)), (.int (98 : Int32)), (.int (101 : Int32)), (.int (116 : Int32)), (.int (119 : Int32)), (.int (101 : Int32)), (.int (101 : Int32)), (.int (110 : Int32)), (.int (32 : Int32)), (.int i3), (.int (32 : Int32)), (.int (97 : Int32)), (.int (110 : Int32)), (.int (100 : Int32)), (.int (32 : Int32)), (.int i4)] (.int (0 : Int32)) ∧ Exa Z h b6a "[B"
set_option maxRecDepth 65536 in
set_option maxHeartbeats 40000000 in
theorem rm23a216 (l : Launch) (Z : State) (a0 : Array Value) (hw : HW a0 Z) (ws : List Jvm.Cond) (b2 : Addr) (cs : Int32) (b11a : Addr) (k11b : ClassId) (i4 : Int32) (i5 : Int32) (h0 : Heap) (n0 : Nat) (Z0 : n0 ≤ h0.size) (PS0 : Sta Z h0 "java/lang/String" "COMPACT_STRINGS" "Z" (.int cs)) (PE9 : Exa Z h0 b2 "java/lang/StringBuilder") (PF10 : oF0 Z h0 b2 (.ref b11a)) (PF11 : oF1 Z h0 b2 (.int (0 : Int32))) (PF12 : oF2 Z h0 b2 (.int (24 : Int32))) (PV19 : Arv Z h0 b11a k11b .byte (34 : Int32) [(.int (101 : Int32)), (.int (120 : Int32)), (.int (112 : Int32)), (.int (101 : Int32)), (.int (99 : Int32)), (.int (116 : Int32)), (.int (101 : Int32)), (.int (100 : Int32)), (.int (32 : Int32)), (.int (98 : Int32)), (.int (101 : Int32)), (.int (116 : Int32)), (.int (119 : Int32)), (.int (101 : Int32)), (.int (101 : Int32)), (.int (110 : Int32)), (.int (32 : Int32)), (.int i4), (.int (32 : Int32)), (.int (97 : Int32)), (.int (110 : Int32)), (.int (100 : Int32)), (.int (32 : Int32)), (.int i5), (.int (0 : Int32)), (.int (0 : Int32)), (.int (0 : Int32)), (.int (0 : Int32)), (.int (0 : Int32)), (.int (0 : Int32)), (.int (0 : Int32)), (.int (0 : Int32)), (.int (0 : Int32)), (.int (0 : Int32))] (.int (0 : Int32))) (PP0 : ¬ (cs = (0 : Int32))) :
    own_Met l mn29 jdk_67_method_42_code 1 (some (.object "java/lang/String")) ws (oRm 5 2 28 79) #[(.ref b2)] Z h0 (Q23a216 Z i4 i5 h0 n0) := by
  refine own_met (own := "java/lang/StringBuilder") rfl (plainFor_of_name pn_8) ?_
  intro p e s m below meth c s₁ hx hby hml hZ hown hnm X0 e0 Br Bs
  have N0 := Fr.nil n0
  have tt := own_tt hx hby own_ok23
  show own_Ends p e below s _ _ _ s₁ (mkF m 0 #[oR b2] [])
  obtain ⟨T6, h6, X6, e6, E6, A6, D6, -, st6⟩ := newO X0 hx hZ hown (ow139 hw) (ow38 hw) (ow31 hw) e0 (g := (mkF m 0 #[oR b2] [])) rfl (hb hby d23_0) (by decide) (by decide)
  obtain ⟨b6, g_b6⟩ : ∃ z, z = h0.size := ⟨_, rfl⟩
  have sg_b6 : h0.size ≤ b6 := Nat.le_of_eq g_b6.symm
  rw [← g_b6] at A6 D6 st6
  have n_b6 := oT Z0 sg_b6
  have sz_b6 := oT (Keep.refl h0 []).1 sg_b6
  have K6 : Keep h0 h6 [] := (Keep.refl h0 []).ext E6
  have F_value_b6 : oF4 Z h6 b6 .null := D6 (Or.inr (ow39 hw)) (ty := (.array .byte)) (by decide)
  have F_coder_b6 : oF3 Z h6 b6 (.int (0 : Int32)) := D6 (Or.inr (ow40 hw)) (ty := .byte) (by decide)
  refine own_go (T' := T6) (f' := (mkF m 5 #[oR b2] [vR b2, vR b6, vR b6])) (fun _ k => st6 _ (own_e X6 tt 3 2 k rfl)) ?_
  obtain ⟨_, T7, Lc7, X7, hQ7, st7⟩ := own_out (X6.specialBack hx (y := mn28) rfl hown (mvT hZ (ow140 hw)) (mvT hZ (ow141 hw)) (mvT hZ (ow143 hw)) (by decide) (backOf (W := 1) (rm24a217 l Z a0 hw [] b6 b2 cs b11a k11b i4 i5 h6 n0 (oT Z0 E6.1) (PS0.ext E6) (PE9.ext E6) (PF10.ext E6) (PF11.ext E6) (PF12.ext E6) (PV19.ext E6) A6 F_value_b6 F_coder_b6 PP0 (oL PV19.lt sz_b6) n_b6) hZ (ow143 hw) (ow31 hw) (by decide) (by decide)) (g := (mkF m 5 #[oR b2] [vR b2, vR b6, vR b6])) rfl (by rw [hml]; rfl) (Steps.refl _) (a := b6) (argsL := [(.ref b2)]) (rest := [(.ref b6)]) (lenOf pd25 rfl) rfl (by show 2 * 0 + _ ≤ _; exact Nat.le_of_eq rfl) (hb hby d23_5) (fun _ _ => ⟨rfl, e6, (by decide : 1 + 1 ≤ _), (by decide : 4 + 24 ≤ _)⟩))
  obtain ⟨b7a, k7b, rfl, N7q, K7, n_b7a, sg_b7a, g7_0, g7_1, g7_2, g7_3⟩ := hQ7
  have N7 := Fr.app N0 N7q
  have sz_b7a := oT K6.1 sg_b7a
  have u8 : b6 < h6.size := A6.lt
  have m13 : h0.size ≤ h6.size := (oT (Nat.le_refl _) E6.1)
  have eK7 : T7.heap = T7.heap := rfl
  have KK7 : Keep h0 T7.heap [] := Keep.trans K6 K7 (allS (Or.inr sz_b6) all0)
  obtain ⟨_, X7, N7⟩ := own_hide X7 N7
  refine own_go (T' := T7) (f' := (mkF m 8 #[oR b2] [vR b6])) (fun _ k => st7.trans k) ?_
  refine own_ret X7 (v := some (.ref b6)) (oN Br) Bs (fun fs hr => own_retA X7 hx Br rfl rfl (hb hby d23_8) hr) ?_ (by decide) (by decide)
  unfold Q23a216
  rw [eK7]
  exact ⟨b6, b7a, k7b, rfl, N7, KK7, n_b6, sz_b6, n_b7a, sz_b7a, (oM u8 sg_b7a), (A6.keep K7), g7_0, g7_1, g7_2, g7_3⟩
theorem ef_rm3s (m : MethodId) (y0 : Int32) (y1 : Int32) : entryFrame m #[(.int y0), (.int y1)] 3 = mkF m 0 #[.val (.int y0), .val (.int y1), .unset] [] := by first | (simp [entryFrame, mkF, argsToLocals, Value.category]; done) | rfl
def Q3s (Z : State) (B : State) (y0 : Int32) (y1 : Int32) (cs : Int32) (wd : Addr) (kd : ClassId) (vd : List Value) (wt : Addr) (kt : ClassId) (vt : List Value) (h0 : Heap) (n0 : Nat) (v : Option Value) (h : Heap) (vm : Vm) (L : List Loc) : Prop := ∃ (c a b : Addr) (k : ClassId), v = some (.ref c) ∧ Fr n0 L ∧ Keep h0 h [] ∧ n0 ≤ c ∧ h0.size ≤ c ∧ Exa Z h c "com/example/tally_of_calls/tallyofcalls/Count" ∧ oF5 Z h c (.int y0) ∧ oF6 Z h c (.long (y1.toInt64)) ∧ oF7 Z h c (.ref a) ∧ Exa Z h a "java/lang/String" ∧ oF3 Z h a (.int (0 : Int32)) ∧ oF4 Z h a (.ref b) ∧ Arv Z h b k .byte (24 : Int32) [(.int (101 : Int32)), (.int (120 : Int32)), (.int (112 : Int32)), (.int (101 : Int32)), (.int (99 : Int32)), (.int (116 : Int32)), (.int (101 : Int32)), (.int (100 : Int32)), (.int (32 : Int32)), (.int (98 : Int32)), (.int (101 : Int32)), (.int (116 : Int32)), (.int (119 : Int32)), (.int (101 : Int32)), (.int (101 : Int32)), (.int (110 : Int32)), (.int (32 : Int32)), (.int (nar .byte ((48 : Int32) + y0))), (.int (32 : Int32)), (.int (97 : Int32)), (.int (110 : Int32)), (.int (100 : Int32)), (.int (32 : Int32)), (.int (nar .byte ((48 : Int32) + y1)))] (.int (0 : Int32))
set_option maxRecDepth 65536 in
set_option maxHeartbeats 40000000 in
theorem rm3s (l : Launch) (Z : State) (a0 : Array Value) (hw : HW a0 Z) (ws : List Jvm.Cond) (B : State) (y0 : Int32) (y1 : Int32) (cs : Int32) (wd : Addr) (kd : ClassId) (vd : List Value) (wt : Addr) (kt : ClassId) (vt : List Value) (h0 : Heap) (n0 : Nat) (Z0 : n0 ≤ h0.size) (S_cs : Sta Z h0 "java/lang/String" "COMPACT_STRINGS" "Z" (.int cs)) (hcs : ¬ (cs = (0 : Int32))) (S_do : Sta Z h0 "java/lang/Integer" "DigitOnes" "[B" (.ref wd)) (V_do : Arv Z h0 wd kd .byte (100 : Int32) vd (.int (0 : Int32))) (S_dt : Sta Z h0 "java/lang/Integer" "DigitTens" "[B" (.ref wt)) (V_dt : Arv Z h0 wt kt .byte (100 : Int32) vt (.int (0 : Int32))) (hst : own_SameSt Z) (hd10 : own_D10 vd) (I0 : IB Z B.vm []) (hk0 : ∀ (b : Addr) (cl : Cell), Z.heap[b]? = some cl → h0[b]? = some cl) (hcw : Jvm.Lit.compactW.before a0 Z = true) (hcA : Jvm.Lit.constHeld Z "com/example/tally_of_calls/tallyofcalls/Counts" 65) (hcB : Jvm.Lit.constHeld Z "com/example/tally_of_calls/tallyofcalls/Counts" 67) (hn0 : n0 = h0.size) (hlo : ¬ y0 < (0 : Int32)) (hle : ¬ y1 < y0) (hhi : y1 < (10 : Int32)) :
    MetFree l mn31 (head1 (Jvm.Cond.code mn31 prog_5_method_6_code 3 (some (.object "com/example/tally_of_calls/tallyofcalls/Count")) :: ws) ({ frames := 6, cells := 10, slots := 181, locals := 96 } : Room)) (fun a U => a = #[(.int y0), (.int y1)] ∧ Z.Warmed39 U.vm ∧ B.WarmedH U.vm ∧ U.heap = h0) (fun _ _ _ _ _ => True) (fun _ U o U' => ∃ v L, o = .returned v ∧ Q3s Z B y0 y1 cs wd kd vd wt kt vt h0 n0 v U'.heap U'.vm L ∧ ReturnedEndW U o U' L ({ frames := 6, cells := 10, slots := 181, locals := 96 } : Room).cells ({ frames := 6, cells := 10, slots := 181, locals := 96 } : Room).slots) := by
  refine MetFree.of_bodySF (plainFor_of_name pn_1) hisR ?_
  intro p e s m args below meth c s₁ Bd hml0 hP hK
  obtain ⟨rfl, hZ, hB, hh⟩ := hP
  have hx := Bd.exec
  have hby := Bd.bytes
  have hml : c.maxLocals = 3 := hml0
  have hown : s.vm.findClass "com/example/tally_of_calls/tallyofcalls/Counts" = some m.cls := findClass_of_methodNamed Bd.named
  have hnm := (name_of_methodNamed Bd.named Bd.method).1
  have X0 : Stand p l e ({ frames := 6, cells := 10, slots := 181, locals := 96 } : Room) (s.setVm s.vm) m #[(.int y0), (.int y1)] below meth c s₁ [] 0 0 := Stand.of_body Bd
  have e0 : s₁.heap = h0 := by rw [← hh, Bd.state]; rfl
  have N0 := Fr.nil n0
  have tt := own_tt hx hby own_ok3
  have hS : s.Since s.vm h0.size := (State.WarmedH.refl s).since _
  show own_EndsW p e below s (Q3s Z B y0 y1 cs wd kd vd wt kt vt h0 n0) _ _ s₁ _
  rw [ef_rm3s m y0 y1]
  have I1 := own_ib I0 hB
  have hkeep : ∀ (b : Addr) (cl : Cell), Z.heap[b]? = some cl → s.heap[b]? = some cl := by rw [hh]; exact hk0
  refine own_goW (T' := s₁) (f' := (mkF m 1 #[.val (.int y0), .val (.int y1), oU] [(.int y0)])) (fun _ k => own_e X0 tt 0 1 k rfl) ?_
  refine own_goW (T' := s₁) (f' := (mkF m 6 #[.val (.int y0), .val (.int y1), oU] [(.int y1), (.int y0)])) (fun _ k => XS.ifNo X0.here hx rfl (hb hby d3_1) rfl ((if0 _ _).trans (flt hlo).1) (own_e X0 tt 4 2 k rfl)) ?_
  refine own_goW (T' := s₁) (f' := (mkF m 81 #[.val (.int y0), .val (.int y1), oU] [])) (fun _ k => XS.icmpYes X0.here hx rfl (pc0 := 6) (pc' := 81) rfl (hb hby d3_6) rfl (flt hle).2.2.2 (by decide) (by decide) k) ?_
  obtain ⟨T1, h1, X1, e1, E1, A1, D1, -, st1⟩ := newO X0 hx hZ hown (ow12 hw) (ow13 hw) (ow14 hw) e0 (g := (mkF m 81 #[.val (.int y0), .val (.int y1), oU] [])) rfl (hb hby d3_81) (by decide) (by decide)
  obtain ⟨b1, g_b1⟩ : ∃ z, z = h0.size := ⟨_, rfl⟩
  have sg_b1 : h0.size ≤ b1 := Nat.le_of_eq g_b1.symm
  rw [← g_b1] at A1 D1 st1
  have n_b1 := oT Z0 sg_b1
  have sz_b1 := oT (Keep.refl h0 []).1 sg_b1
  have K1 : Keep h0 h1 [] := (Keep.refl h0 []).ext E1
  have F_min_b1 : oF5 Z h1 b1 (.int (0 : Int32)) := D1 (Or.inr (ow176 hw)) (ty := .int) (by decide)
  have F_max_b1 : oF6 Z h1 b1 (.long (0 : Int64)) := D1 (Or.inr (ow178 hw)) (ty := .long) (by decide)
  have F_phrase_b1 : oF7 Z h1 b1 .null := D1 (Or.inr (ow180 hw)) (ty := (.object "java/lang/String")) (by decide)
  refine own_goW (T' := T1) (f' := (mkF m 88 #[.val (.int y0), .val (.int y1), oU] [(.long (y1.toInt64)), (.int y0), vR b1, vR b1])) (fun _ k => st1 _ (own_e X1 tt 84 4 k rfl)) ?_
  obtain ⟨T2, h2, X2, e2, E2, A2, D2, -, st2⟩ := newO X1 hx hZ hown (ow15 hw) (ow16 hw) (ow17 hw) e1 (g := (mkF m 88 #[.val (.int y0), .val (.int y1), oU] [(.long (y1.toInt64)), (.int y0), vR b1, vR b1])) rfl (hb hby d3_88) (by decide) (by decide)
  obtain ⟨b2, g_b2⟩ : ∃ z, z = h1.size := ⟨_, rfl⟩
  have sg_b2 : h1.size ≤ b2 := Nat.le_of_eq g_b2.symm
  rw [← g_b2] at A2 D2 st2
  have n_b2 := oT (oT Z0 E1.1) sg_b2
  have sz_b2 := oT K1.1 sg_b2
  have u3 : b1 < h1.size := A1.lt
  have m4 : h0.size ≤ h1.size := (oT (Nat.le_refl _) E1.1)
  have K2 : Keep h0 h2 [] := K1.ext E2
  have F_value_b2 : oF0 Z h2 b2 .null := D2 (Or.inl (ow34 hw)) (ty := (.array .byte)) (by decide)
  have F_coder_b2 : oF1 Z h2 b2 (.int (0 : Int32)) := D2 (Or.inl (ow36 hw)) (ty := .byte) (by decide)
  have F_count_b2 : oF2 Z h2 b2 (.int (0 : Int32)) := D2 (Or.inl (ow67 hw)) (ty := .int) (by decide)
  refine own_goW (T' := T2) (f' := (mkF m 92 #[.val (.int y0), .val (.int y1), oU] [vR b2, vR b2, (.long (y1.toInt64)), (.int y0), vR b1, vR b1])) (fun _ k => st2 _ (own_e X2 tt 91 1 k rfl)) ?_
  obtain ⟨_, T5, Lc5, X5, hQ5, st5⟩ := own_out (X2.specialBack hx (y := mn5) rfl hown (mvT hZ (ow18 hw)) (mvT hZ (ow19 hw)) (mvT hZ (ow20 hw)) (by decide) (backOf (W := 6) (rm4a1 l Z a0 hw [] b2 cs h2 n0 (oT (oT Z0 E1.1) E2.1) ((S_cs.ext E1).ext E2) A2 F_value_b2 F_coder_b2 F_count_b2 hcs n_b2) hZ (ow20 hw) (ow17 hw) (by decide) (by decide)) (g := (mkF m 92 #[.val (.int y0), .val (.int y1), oU] [vR b2, vR b2, (.long (y1.toInt64)), (.int y0), vR b1, vR b1])) rfl (by rw [hml]; rfl) (Steps.refl _) (a := b2) (argsL := []) (rest := [(.ref b2), (.long (y1.toInt64)), (.int y0), (.ref b1), (.ref b1)]) (lenOf pd5 rfl) rfl (by show 2 * 0 + _ ≤ _; exact Nat.le_of_eq rfl) (hb hby d3_92) (fun _ _ => ⟨rfl, e2, (by decide : 2 + 1 ≤ _), (by decide : 7 + 16 ≤ _)⟩))
  obtain ⟨b5a, k5b, rfl, N5q, K5, n_b5a, sg_b5a, g5_0, g5_1, g5_2, g5_3, g5_4⟩ := hQ5
  have N5 := Fr.app N0 N5q
  have sz_b5a := oT K2.1 sg_b5a
  have u6 : b2 < h2.size := A2.lt
  have m7 : h1.size ≤ h2.size := (oT (Nat.le_refl _) E2.1)
  have eK5 : T5.heap = T5.heap := rfl
  have KK5 : Keep h0 T5.heap [] := Keep.trans K2 K5 (allS (Or.inr sz_b2) all0)
  obtain ⟨_, X5, N5⟩ := own_hide X5 N5
  refine own_goW (T' := T5) (f' := (mkF m 95 #[.val (.int y0), .val (.int y1), oU] [vR b2, (.long (y1.toInt64)), (.int y0), vR b1, vR b1])) (fun _ k => st5.trans k) ?_
  obtain ⟨a8, T8, h8, k1_8, b8, kc8, X8, e8, E8, hS8, hk8, -, -, gE8, gC8, gV8, gA8, -, -, IB8, Lt8, st8⟩ := ldcSVL (Z := Z) (s := (s.setVm s.vm)) (vm0 := s.vm) X5 hx hZ hown (ow37 hw) (own_wS hw) eK5 ((State.WarmedH.refl (s.setVm s.vm)).since 0) (Nat.zero_le _) (by show Fr s.heap.size _; rw [hh, ← hn0]; exact N5) hkeep I1 (by decide) hcA hcw (vs := own_lit0) (z := (17 : Int32)) own_lit0_ok (by decide) own_lit0_len (g := (mkF m 95 #[.val (.int y0), .val (.int y1), oU] [vR b2, (.long (y1.toInt64)), (.int y0), vR b1, vR b1])) rfl (hb hby d3_95) (n := 68) (by decide) (by decide) (by decide) (by decide)
  have hM8 := own_sm hS8 hk8
  obtain ⟨X8, hS, hZ, hown⟩ := rebS hS (oT (oT (oT (Nat.le_refl _) E1.1) E2.1) K5.1) X8 hM8 E8.1 hZ hown
  have K8 : Keep h0 h8 [] := KK5.ext E8
  refine own_goW (T' := T8) (f' := (mkF m 97 #[.val (.int y0), .val (.int y1), oU] [vR a8, vR b2, (.long (y1.toInt64)), (.int y0), vR b1, vR b1])) (fun _ k => st8 _ k) ?_
  have q9 : a8 ≠ b2 := (own_exa_ne gE8 ((A2.keep K5).ext E8) (by decide))
  have q10 : b8 ≠ b2 := (Ne.symm (Exa.neArv ((A2.keep K5).ext E8) gA8 (ow16 hw)))
  obtain ⟨cq11, kq11, q11a, q11b, q11c⟩ := isOf hZ e8 ((A2.keep K5).ext E8)
  obtain ⟨_, T11, Lc11, X11, hQ11, st11⟩ := own_out (X8.virtualBack hx (y := mn16) (z := mn16) hown (mvT hZ (ow43 hw)) (mvT hZ (ow44 hw)) (notFace_of_selects (args := #[]) (mvT hZ (ow46 hw))) (mvT hZ (ow46 hw)) (mvT hZ (ow45 hw)) (by decide) (backOf (W := 5) (rm7a3 l Z a0 hw [] b2 a8 cs b5a k5b b8 kc8 h8 n0 (oT (oT (oT (oT Z0 E1.1) E2.1) K5.1) E8.1) ((own_sta_keep ((S_cs.ext E1).ext E2) K5 (own_wsE A2 own_ws0)).ext E8) ((A2.keep K5).ext E8) (g5_0.ext E8) (g5_1.ext E8) (g5_2.ext E8) (g5_3.ext E8) gE8 gC8 gV8 gA8 hcs q9 q10 n_b2) hZ (ow47 hw) (ow17 hw) (by decide) (by decide)) q11a q11c (g := (mkF m 97 #[.val (.int y0), .val (.int y1), oU] [vR a8, vR b2, (.long (y1.toInt64)), (.int y0), vR b1, vR b1])) rfl (by rw [hml]; rfl) (Steps.refl _) (argsL := [(.ref a8)]) (rest := [(.long (y1.toInt64)), (.int y0), (.ref b1), (.ref b1)]) (lenOf pd23 rfl) rfl (by show 2 * 0 + _ ≤ _; exact Nat.le_of_eq rfl) (hb hby d3_97) (fun _ _ => ⟨rfl, e8, (by decide : 5 + 1 ≤ _), (by decide : 95 + 34 ≤ _)⟩))
  obtain ⟨b11a, k11b, rfl, N11q, K11, n_b11a, sg_b11a, g11_0, g11_1, g11_2, g11_3, g11_4⟩ := hQ11
  have N11 := Fr.app N5 N11q
  have sz_b11a := oT K8.1 sg_b11a
  have u12 := (oW g5_3.lt E8.1)
  have m13 : h2.size ≤ h8.size := (oT (oT (Nat.le_refl _) K5.1) E8.1)
  have eK11 : T11.heap = T11.heap := rfl
  have KK11 : Keep h0 T11.heap [] := Keep.trans K8 K11 (allS (Or.inr sz_b2) all0)
  obtain ⟨_, X11, N11⟩ := own_hide X11 N11
  refine own_goW (T' := T11) (f' := (mkF m 101 #[.val (.int y0), .val (.int y1), oU] [(.int y0), vR b2, (.long (y1.toInt64)), (.int y0), vR b1, vR b1])) (fun _ k => st11.trans (own_e X11 tt 100 1 k rfl)) ?_
  have e16 : ((0 : Int32)).toInt = 0 := rfl
  have e17 := mt own_ltI.mpr hlo
  have e18 := mt own_ltI.mpr hle
  have e19 : ((10 : Int32)).toInt = 10 := rfl
  have e20 := own_ltI.mp hhi
  have e21 : ((-10 : Int32)).toInt = (-10) := rfl
  have e22 : (-y0).toInt = -(y0).toInt := own_negI (by omega)
  have hd15 : (-10 : Int32) < (-y0) := by exact own_ltI.mpr (by omega)
  have e31 := own_ltI.mp hd15
  have e32 : ((-100 : Int32)).toInt = (-100) := rfl
  have hd30 : (-100 : Int32) < (-y0) := by exact own_ltI.mpr (by omega)
  have e40 := own_ltI.mp hd30
  have e41 : (-(-y0)).toInt = -((-y0)).toInt := own_negI (by omega)
  have hd39 : ¬ ((-(-y0)) < (0 : Int32)) := by exact mt own_ltI.mp (by omega)
  have e49 := mt own_ltI.mpr hd39
  have e50 : ((100 : Int32)).toInt = 100 := rfl
  have hd48 : (-(-y0)) < (100 : Int32) := by exact own_ltI.mpr (by omega)
  have e58 := own_ltI.mp hd48
  have hd57 : y0 < (10 : Int32) := by exact own_ltI.mpr (by omega)
  have e67 := own_ltI.mp hd57
  have e68 : ((-9 : Int32)).toInt = (-9) := rfl
  have hd66 : ¬ ((-y0) < (-9 : Int32)) := by exact mt own_ltI.mp (by omega)
  have q79 := oL u6 (oT m13 sg_b11a)
  have G81 := (own_sta_keep ((own_sta_keep ((S_cs.ext E1).ext E2) K5 (own_wsE A2 own_ws0)).ext E8) K11 (own_wsE ((A2.keep K5).ext E8) own_ws0))
  have G82 := (own_sta_keep ((own_sta_keep ((S_do.ext E1).ext E2) K5 (own_wsE A2 own_ws0)).ext E8) K11 (own_wsE ((A2.keep K5).ext E8) own_ws0))
  obtain ⟨cq80, kq80, q80a, q80b, q80c⟩ := isOf hZ eK11 (((A2.keep K5).ext E8).keep K11)
  obtain ⟨_, T80, Lc80, X80, hQ80, st80⟩ := own_out (X11.virtualBack hx (y := mn20) (z := mn20) hown (mvT hZ (ow111 hw)) (mvT hZ (ow112 hw)) (notFace_of_selects (args := #[]) (mvT hZ (ow114 hw))) (mvT hZ (ow114 hw)) (mvT hZ (ow113 hw)) (by decide) (backOf (W := 5) (rm18a186 l Z a0 hw [] b2 y0 cs wd kd vd b11a k11b T11.heap n0 (oT (oT (oT (oT (oT Z0 E1.1) E2.1) K5.1) E8.1) K11.1) G81 G82 (((((V_do.ext E1).ext E2).keep K5 (ninS (oL V_do.lt sz_b2) nin0)).ext E8).keep K11 (ninS (oL V_do.lt sz_b2) nin0)) (((A2.keep K5).ext E8).keep K11) g11_0 g11_1 g11_2 g11_3 hcs hlo hd15 hd30 hd39 hd48 hd57 hd66 q79 (Ne.symm q79) n_b2 n_b11a hd10) hZ (ow115 hw) (ow17 hw) (by decide) (by decide)) q80a q80c (g := (mkF m 101 #[.val (.int y0), .val (.int y1), oU] [(.int y0), vR b2, (.long (y1.toInt64)), (.int y0), vR b1, vR b1])) rfl (by rw [hml]; rfl) (Steps.refl _) (argsL := [(.int y0)]) (rest := [(.long (y1.toInt64)), (.int y0), (.ref b1), (.ref b1)]) (lenOf pd10 rfl) rfl (by show 2 * 0 + _ ≤ _; exact Nat.le_of_eq rfl) (hb hby d3_101) (fun _ _ => ⟨rfl, eK11, (by decide : 6 + 0 ≤ _), (by decide : 129 + 0 ≤ _)⟩))
  obtain ⟨rfl, N80q, K80, g80_0, g80_1, g80_2, g80_3⟩ := hQ80
  have N80 := Fr.app N11 N80q
  have eK80 : T80.heap = T80.heap := rfl
  have KK80 : Keep h0 T80.heap [] := Keep.trans KK11 K80 (allS (Or.inr sz_b2) (allS (Or.inr sz_b11a) all0))
  obtain ⟨_, X80, N80⟩ := own_hide X80 N80
  refine own_goW (T' := T80) (f' := (mkF m 104 #[.val (.int y0), .val (.int y1), oU] [vR b2, (.long (y1.toInt64)), (.int y0), vR b1, vR b1])) (fun _ k => st80.trans k) ?_
  obtain ⟨a83, T83, h83, k1_83, b83, kc83, X83, e83, E83, hS83, hk83, -, -, gE83, gC83, gV83, gA83, -, -, IB83, Lt83, st83⟩ := ldcSVL (Z := Z) (s := (s.setVm T8.vm)) (vm0 := T8.vm) X80 hx hZ hown (ow133 hw) (own_wS hw) eK80 ((State.WarmedH.refl (s.setVm T8.vm)).since 0) (Nat.zero_le _) (by show Fr s.heap.size _; rw [hh, ← hn0]; exact N80) hkeep IB8 (by decide) hcB hcw (vs := own_lit1) (z := (5 : Int32)) own_lit1_ok (by decide) own_lit1_len (g := (mkF m 104 #[.val (.int y0), .val (.int y1), oU] [vR b2, (.long (y1.toInt64)), (.int y0), vR b1, vR b1])) rfl (hb hby d3_104) (n := 20) (by decide) (by decide) (by decide) (by decide)
  have hM83 := own_sm hS83 hk83
  obtain ⟨X83, hS, hZ, hown⟩ := rebS hS (oT (oT (Nat.le_refl _) K11.1) K80.1) X83 hM83 E83.1 hZ hown
  have Lt84 := Lit.stays Lt8 hM83.1
  have K83 : Keep h0 h83 [] := KK80.ext E83
  refine own_goW (T' := T83) (f' := (mkF m 106 #[.val (.int y0), .val (.int y1), oU] [vR a83, vR b2, (.long (y1.toInt64)), (.int y0), vR b1, vR b1])) (fun _ k => st83 _ k) ?_
  have Zs14 : n0 ≤ h83.size := (oT (oT (oT (oT (oT (oT (oT Z0 E1.1) E2.1) K5.1) E8.1) K11.1) K80.1) E83.1)
  obtain ⟨cq23, kq23, q23a, q23b, q23c⟩ := isOf hZ e83 (((((A2.keep K5).ext E8).keep K11).keep K80).ext E83)
  obtain ⟨_, T23, Lc23, X23, hQ23, st23⟩ := own_out (X83.virtualBack hx (y := mn16) (z := mn16) hown (mvT hZ (ow43 hw)) (mvT hZ (ow44 hw)) (notFace_of_selects (args := #[]) (mvT hZ (ow46 hw))) (mvT hZ (ow46 hw)) (mvT hZ (ow45 hw)) (by decide) (backOf (W := 5) (rm7a189 l Z a0 hw [] b2 a83 cs b11a k11b (nar .byte ((48 : Int32) + y0)) b83 kc83 h83 n0 Zs14 ((own_sta_keep G81 K80 (own_wsE (((A2.keep K5).ext E8).keep K11) (own_wsV g11_3 own_ws0))).ext E83) (((((A2.keep K5).ext E8).keep K11).keep K80).ext E83) (g80_0.ext E83) (g80_1.ext E83) (g80_2.ext E83) (g80_3.ext E83) gE83 gC83 gV83 gA83 hcs q79 (Ne.symm q79) n_b2 n_b11a) hZ (ow47 hw) (ow17 hw) (by decide) (by decide)) q23a q23c (g := (mkF m 106 #[.val (.int y0), .val (.int y1), oU] [vR a83, vR b2, (.long (y1.toInt64)), (.int y0), vR b1, vR b1])) rfl (by rw [hml]; rfl) (Steps.refl _) (argsL := [(.ref a83)]) (rest := [(.long (y1.toInt64)), (.int y0), (.ref b1), (.ref b1)]) (lenOf pd23 rfl) rfl (by show 2 * 0 + _ ≤ _; exact Nat.le_of_eq rfl) (hb hby d3_106) (fun _ _ => ⟨rfl, e83, (by decide : 8 + 0 ≤ _), (by decide : 153 + 0 ≤ _)⟩))
  obtain ⟨rfl, N23q, K23, g23_0, g23_1, g23_2, g23_3⟩ := hQ23
  have N23 := Fr.app N80 N23q
  have eK23 : T23.heap = T23.heap := rfl
  have KK23 : Keep h0 T23.heap [] := Keep.trans K83 K23 (allS (Or.inr sz_b2) (allS (Or.inr sz_b11a) all0))
  obtain ⟨_, X23, N23⟩ := own_hide X23 N23
  refine own_goW (T' := T23) (f' := (mkF m 110 #[.val (.int y0), .val (.int y1), oU] [(.int y1), vR b2, (.long (y1.toInt64)), (.int y0), vR b1, vR b1])) (fun _ k => st23.trans (own_e X23 tt 109 1 k rfl)) ?_
  have e24 := mt own_ltI.mpr hd66
  have hd25 : ¬ (y1 < (0 : Int32)) := by exact mt own_ltI.mp (by omega)
  have e26 := mt own_ltI.mpr hd25
  have e27 : (-y1).toInt = -(y1).toInt := own_negI (by omega)
  have hd28 : (-10 : Int32) < (-y1) := by exact own_ltI.mpr (by omega)
  have e29 := own_ltI.mp hd28
  have hd33 : (-100 : Int32) < (-y1) := by exact own_ltI.mpr (by omega)
  have e34 := own_ltI.mp hd33
  have e35 : (-(-y1)).toInt = -((-y1)).toInt := own_negI (by omega)
  have hd36 : ¬ ((-(-y1)) < (0 : Int32)) := by exact mt own_ltI.mp (by omega)
  have e37 := mt own_ltI.mpr hd36
  have hd38 : (-(-y1)) < (100 : Int32) := by exact own_ltI.mpr (by omega)
  have e42 := own_ltI.mp hd38
  have hd43 : ¬ ((-y1) < (-9 : Int32)) := by exact mt own_ltI.mp (by omega)
  have G44 := (own_sta_keep ((own_sta_keep G81 K80 (own_wsE (((A2.keep K5).ext E8).keep K11) (own_wsV g11_3 own_ws0))).ext E83) K23 (own_wsE (((((A2.keep K5).ext E8).keep K11).keep K80).ext E83) (own_wsV (g80_3.ext E83) own_ws0)))
  have G45 := (own_sta_keep ((own_sta_keep G82 K80 (own_wsE (((A2.keep K5).ext E8).keep K11) (own_wsV g11_3 own_ws0))).ext E83) K23 (own_wsE (((((A2.keep K5).ext E8).keep K11).keep K80).ext E83) (own_wsV (g80_3.ext E83) own_ws0)))
  have G46 := ((((((((V_do.ext E1).ext E2).keep K5 (ninS (oL V_do.lt sz_b2) nin0)).ext E8).keep K11 (ninS (oL V_do.lt sz_b2) nin0)).keep K80 (ninS (oL V_do.lt sz_b2) (ninS (oL V_do.lt sz_b11a) nin0))).ext E83).keep K23 (ninS (oL V_do.lt sz_b2) (ninS (oL V_do.lt sz_b11a) nin0)))
  obtain ⟨cq47, kq47, q47a, q47b, q47c⟩ := isOf hZ eK23 ((((((A2.keep K5).ext E8).keep K11).keep K80).ext E83).keep K23)
  obtain ⟨_, T47, Lc47, X47, hQ47, st47⟩ := own_out (X23.virtualBack hx (y := mn20) (z := mn20) hown (mvT hZ (ow111 hw)) (mvT hZ (ow112 hw)) (notFace_of_selects (args := #[]) (mvT hZ (ow114 hw))) (mvT hZ (ow114 hw)) (mvT hZ (ow113 hw)) (by decide) (backOf (W := 5) (rm18a213 l Z a0 hw [] b2 y1 cs wd kd vd b11a k11b (nar .byte ((48 : Int32) + y0)) T23.heap n0 (oT Zs14 K23.1) G44 G45 G46 ((((((A2.keep K5).ext E8).keep K11).keep K80).ext E83).keep K23) g23_0 g23_1 g23_2 g23_3 hcs hhi hd25 hd28 hd33 hd36 hd38 hd43 q79 (Ne.symm q79) n_b2 n_b11a hd10) hZ (ow115 hw) (ow17 hw) (by decide) (by decide)) q47a q47c (g := (mkF m 110 #[.val (.int y0), .val (.int y1), oU] [(.int y1), vR b2, (.long (y1.toInt64)), (.int y0), vR b1, vR b1])) rfl (by rw [hml]; rfl) (Steps.refl _) (argsL := [(.int y1)]) (rest := [(.long (y1.toInt64)), (.int y0), (.ref b1), (.ref b1)]) (lenOf pd10 rfl) rfl (by show 2 * 0 + _ ≤ _; exact Nat.le_of_eq rfl) (hb hby d3_110) (fun _ _ => ⟨rfl, eK23, (by decide : 8 + 0 ≤ _), (by decide : 153 + 0 ≤ _)⟩))
  obtain ⟨rfl, N47q, K47, g47_0, g47_1, g47_2, g47_3⟩ := hQ47
  have N47 := Fr.app N23 N47q
  have eK47 : T47.heap = T47.heap := rfl
  have KK47 : Keep h0 T47.heap [] := Keep.trans KK23 K47 (allS (Or.inr sz_b2) (allS (Or.inr sz_b11a) all0))
  obtain ⟨_, X47, N47⟩ := own_hide X47 N47
  refine own_goW (T' := T47) (f' := (mkF m 113 #[.val (.int y0), .val (.int y1), oU] [vR b2, (.long (y1.toInt64)), (.int y0), vR b1, vR b1])) (fun _ k => st47.trans k) ?_
  have G51 := (own_sta_keep G44 K47 (own_wsE ((((((A2.keep K5).ext E8).keep K11).keep K80).ext E83).keep K23) (own_wsV g23_3 own_ws0)))
  obtain ⟨cq52, kq52, q52a, q52b, q52c⟩ := isOf hZ eK47 (((((((A2.keep K5).ext E8).keep K11).keep K80).ext E83).keep K23).keep K47)
  obtain ⟨_, T52, Lc52, X52, hQ52, st52⟩ := own_out (X47.virtualBack hx (y := mn29) (z := mn29) hown (mvT hZ (ow134 hw)) (mvT hZ (ow135 hw)) (notFace_of_selects (args := #[]) (mvT hZ (ow137 hw))) (mvT hZ (ow137 hw)) (mvT hZ (ow136 hw)) (by decide) (backOf (W := 5) (rm23a216 l Z a0 hw [] b2 cs b11a k11b (nar .byte ((48 : Int32) + y0)) (nar .byte ((48 : Int32) + y1)) T47.heap n0 (oT (oT Zs14 K23.1) K47.1) G51 (((((((A2.keep K5).ext E8).keep K11).keep K80).ext E83).keep K23).keep K47) g47_0 g47_1 g47_2 g47_3 hcs) hZ (ow138 hw) (ow17 hw) (by decide) (by decide)) q52a q52c (g := (mkF m 113 #[.val (.int y0), .val (.int y1), oU] [vR b2, (.long (y1.toInt64)), (.int y0), vR b1, vR b1])) rfl (by rw [hml]; rfl) (Steps.refl _) (argsL := []) (rest := [(.long (y1.toInt64)), (.int y0), (.ref b1), (.ref b1)]) (lenOf pd4 rfl) rfl (by show 2 * 0 + _ ≤ _; exact Nat.le_of_eq rfl) (hb hby d3_113) (fun _ _ => ⟨rfl, eK47, (by decide : 8 + 2 ≤ _), (by decide : 153 + 28 ≤ _)⟩))
  obtain ⟨b52a, b52b, k52c, rfl, N52q, K52, n_b52a, sg_b52a, n_b52b, sg_b52b, ne52_0, g52_0, g52_1, g52_2, g52_3, g52_4⟩ := hQ52
  have N52 := Fr.app N47 N52q
  have sz_b52a := oT KK47.1 sg_b52a
  have sz_b52b := oT KK47.1 sg_b52b
  have u53 := (oW (oW (oW (oW g11_3.lt K80.1) E83.1) K23.1) K47.1)
  have m54 : h8.size ≤ T47.heap.size := (oT (oT (oT (oT (oT (Nat.le_refl _) K11.1) K80.1) E83.1) K23.1) K47.1)
  have eK52 : T52.heap = T52.heap := rfl
  have KK52 : Keep h0 T52.heap [] := Keep.trans KK47 K52 all0
  obtain ⟨_, X52, N52⟩ := own_hide X52 N52
  refine own_goW (T' := T52) (f' := (mkF m 116 #[.val (.int y0), .val (.int y1), oU] [vR b52a, (.long (y1.toInt64)), (.int y0), vR b1, vR b1])) (fun _ k => st52.trans k) ?_
  have c55 := oT m7 m13
  have q56 := oL u3 (oT c55 sg_b11a)
  have G59 := (((((((((F_min_b1.ext E2).keep K5 (ninS (oL u3 sg_b2) nin0)).ext E8).keep K11 (ninS (oL u3 sg_b2) nin0)).keep K80 (ninS (oL u3 sg_b2) (ninS q56 nin0))).ext E83).keep K23 (ninS (oL u3 sg_b2) (ninS q56 nin0))).keep K47 (ninS (oL u3 sg_b2) (ninS q56 nin0))).keep K52 nin0)
  have G60 := (((((((((F_max_b1.ext E2).keep K5 (ninS (oL u3 sg_b2) nin0)).ext E8).keep K11 (ninS (oL u3 sg_b2) nin0)).keep K80 (ninS (oL u3 sg_b2) (ninS q56 nin0))).ext E83).keep K23 (ninS (oL u3 sg_b2) (ninS q56 nin0))).keep K47 (ninS (oL u3 sg_b2) (ninS q56 nin0))).keep K52 nin0)
  have G61 := (((((((((F_phrase_b1.ext E2).keep K5 (ninS (oL u3 sg_b2) nin0)).ext E8).keep K11 (ninS (oL u3 sg_b2) nin0)).keep K80 (ninS (oL u3 sg_b2) (ninS q56 nin0))).ext E83).keep K23 (ninS (oL u3 sg_b2) (ninS q56 nin0))).keep K47 (ninS (oL u3 sg_b2) (ninS q56 nin0))).keep K52 nin0)
  obtain ⟨_, T62, Lc62, X62, hQ62, st62⟩ := own_out (X52.specialBack hx (y := mn30) rfl hown (mvT hZ (ow171 hw)) (mvT hZ (ow172 hw)) (mvT hZ (ow173 hw)) (by decide) (backOf (W := 1) (rm32a113 l Z a0 hw [] b1 y0 (y1.toInt64) b52a T52.heap n0 (oT (oT (oT Zs14 K23.1) K47.1) K52.1) (((((((((A1.ext E2).keep K5).ext E8).keep K11).keep K80).ext E83).keep K23).keep K47).keep K52) G59 G60 G61 n_b1) hZ (ow173 hw) (ow14 hw) (by decide) (by decide)) (g := (mkF m 116 #[.val (.int y0), .val (.int y1), oU] [vR b52a, (.long (y1.toInt64)), (.int y0), vR b1, vR b1])) rfl (by rw [hml]; rfl) (Steps.refl _) (a := b1) (argsL := [(.int y0), (.long (y1.toInt64)), (.ref b52a)]) (rest := [(.ref b1)]) (lenOf pd17 rfl) rfl (by show 2 * 0 + _ ≤ _; exact Nat.le_of_eq rfl) (hb hby d3_116) (fun _ _ => ⟨rfl, eK52, (by decide : 10 + 0 ≤ _), (by decide : 181 + 0 ≤ _)⟩))
  obtain ⟨rfl, N62q, K62, g62_0, g62_1, g62_2⟩ := hQ62
  have N62 := Fr.app N52 N62q
  have eK62 : T62.heap = T62.heap := rfl
  have KK62 : Keep h0 T62.heap [] := Keep.trans KK52 K62 (allS (Or.inr sz_b1) all0)
  obtain ⟨_, X62, N62⟩ := own_hide X62 N62
  refine own_goW (T' := T62) (f' := (mkF m 119 #[.val (.int y0), .val (.int y1), oU] [vR b1])) (fun _ k => st62.trans k) ?_
  refine own_retW X62 hS (by rw [eK62]; exact (oT (oT (oT (oT (Nat.le_refl _) K23.1) K47.1) K52.1) K62.1)) (v := some (.ref b1)) (oN Bd.returns) Bd.notSynchronized (fun fs hr => own_retA X62 hx Bd.returns rfl rfl (hb hby d3_119) hr) ?_ (by decide) (by decide)
  show Q3s Z B y0 y1 cs wd kd vd wt kt vt h0 n0 _ T62.heap T62.vm _
  have c63 := oT c55 m54
  have q64 := oM u3 (oT c63 sg_b52a)
  have q65 := oM u3 (oT c63 sg_b52b)
  rw [eK62]
  exact ⟨b1, b52a, b52b, _, rfl, N62, KK62, n_b1, sz_b1, ((((((((((A1.ext E2).keep K5).ext E8).keep K11).keep K80).ext E83).keep K23).keep K47).keep K52).keep K62), g62_0, g62_1, g62_2, (g52_0.keep K62), (g52_2.keep K62 (ninS q64 nin0)), (g52_1.keep K62 (ninS q64 nin0)), (g52_3.keep K62 (ninS q65 nin0))⟩
theorem pd13 : parseMethodDescriptor "(II)Lcom/example/tally_of_calls/tallyofcalls/Count;" = some ⟨[.int, .int], some (.object "com/example/tally_of_calls/tallyofcalls/Count")⟩ := by decide +kernel
def own_t33 (pc : Nat) : Option (Instr × Nat) := bif Nat.beq pc 0 then some (.aload_n 0, 1) else none
theorem own_ok33 : ∀ pc q, own_fetch 5 own_t33 pc = some q → decode prog_4_method_2_code pc = .ok q := own_tab (by decide +kernel)
theorem d33_1 : decode prog_4_method_2_code 1 = .ok (.getfield 9, 3) := by decide +kernel
theorem d33_4 : decode prog_4_method_2_code 4 = .ok (.ireturn, 1) := by decide +kernel
def Q33a221 (Z : State) (zl : Int32) (h0 : Heap) (n0 : Nat) (v : Option Value) (h : Heap) (L : List Loc) : Prop := v = some (.int zl) ∧ Fr n0 L ∧ h = h0
set_option maxRecDepth 65536 in
set_option maxHeartbeats 40000000 in
theorem rm33a221 (l : Launch) (Z : State) (a0 : Array Value) (hw : HW a0 Z) (ws : List Jvm.Cond) (c4 : Addr) (zl : Int32) (h0 : Heap) (n0 : Nat) (Z0 : n0 ≤ h0.size) (PF6 : oF5 Z h0 c4 (.int zl)) :
    own_Met l mn32 prog_4_method_2_code 1 (some .int) ws (oRm 0 0 0 0) #[(.ref c4)] Z h0 (Q33a221 Z zl h0 n0) := by
  refine own_met (own := "com/example/tally_of_calls/tallyofcalls/Count") rfl (plainFor_of_name pn_0) ?_
  intro p e s m below meth c s₁ hx hby hml hZ hown hnm X0 e0 Br Bs
  have N0 := Fr.nil n0
  have tt := own_tt hx hby own_ok33
  show own_Ends p e below s _ _ _ s₁ (mkF m 0 #[oR c4] [])
  refine own_go (T' := s₁) (f' := (mkF m 1 #[oR c4] [vR c4])) (fun _ k => own_e X0 tt 0 1 k rfl) ?_
  obtain ⟨T7, X7, e7, st7⟩ := getF X0 hx hZ hown (host := "") (Or.inl (ow175 hw)) Via.refl e0 PF6 (g := (mkF m 1 #[oR c4] [vR c4])) rfl rfl (hb hby d33_1)
  refine own_go (T' := T7) (f' := (mkF m 4 #[oR c4] [(.int zl)])) (fun _ k => st7 _ k) ?_
  refine own_ret X7 (v := some (.int zl)) (oN Br) Bs (fun fs hr => retI X7 hx Br (hb hby d33_4) hr) ?_ (by decide) (by decide)
  unfold Q33a221
  exact ⟨rfl, N0, e7⟩
def own_t34 (pc : Nat) : Option (Instr × Nat) := bif Nat.beq pc 0 then some (.aload_n 0, 1) else none
theorem own_ok34 : ∀ pc q, own_fetch 5 own_t34 pc = some q → decode prog_4_method_3_code pc = .ok q := own_tab (by decide +kernel)
theorem d34_1 : decode prog_4_method_3_code 1 = .ok (.getfield 15, 3) := by decide +kernel
theorem d34_4 : decode prog_4_method_3_code 4 = .ok (.lreturn, 1) := by decide +kernel
def Q34a222 (Z : State) (j9 : Int64) (h0 : Heap) (n0 : Nat) (v : Option Value) (h : Heap) (L : List Loc) : Prop := v = some (.long j9) ∧ Fr n0 L ∧ h = h0
set_option maxRecDepth 65536 in
set_option maxHeartbeats 40000000 in
theorem rm34a222 (l : Launch) (Z : State) (a0 : Array Value) (hw : HW a0 Z) (ws : List Jvm.Cond) (c4 : Addr) (j9 : Int64) (h0 : Heap) (n0 : Nat) (Z0 : n0 ≤ h0.size) (PF7 : oF6 Z h0 c4 (.long j9)) :
    own_Met l mn33 prog_4_method_3_code 1 (some .long) ws (oRm 0 0 0 0) #[(.ref c4)] Z h0 (Q34a222 Z j9 h0 n0) := by
  refine own_met (own := "com/example/tally_of_calls/tallyofcalls/Count") rfl (plainFor_of_name pn_0) ?_
  intro p e s m below meth c s₁ hx hby hml hZ hown hnm X0 e0 Br Bs
  have N0 := Fr.nil n0
  have tt := own_tt hx hby own_ok34
  show own_Ends p e below s _ _ _ s₁ (mkF m 0 #[oR c4] [])
  refine own_go (T' := s₁) (f' := (mkF m 1 #[oR c4] [vR c4])) (fun _ k => own_e X0 tt 0 1 k rfl) ?_
  obtain ⟨T11, X11, e11, st11⟩ := getF X0 hx hZ hown (host := "") (Or.inl (ow177 hw)) Via.refl e0 PF7 (g := (mkF m 1 #[oR c4] [vR c4])) rfl rfl (hb hby d34_1)
  refine own_go (T' := T11) (f' := (mkF m 4 #[oR c4] [(.long j9)])) (fun _ k => st11 _ k) ?_
  refine own_ret X11 (v := some (.long j9)) (oN Br) Bs (fun fs hr => own_retL X11 hx Br (hb hby d34_4) hr) ?_ (by decide) (by decide)
  unfold Q34a222
  exact ⟨rfl, N0, e11⟩
theorem pd2 : parseMethodDescriptor "()J" = some ⟨[], some .long⟩ := by decide +kernel
def own_t35 (pc : Nat) : Option (Instr × Nat) := bif Nat.beq pc 0 then some (.aload_n 0, 1) else none
theorem own_ok35 : ∀ pc q, own_fetch 5 own_t35 pc = some q → decode prog_4_method_4_code pc = .ok q := own_tab (by decide +kernel)
theorem d35_1 : decode prog_4_method_4_code 1 = .ok (.getfield 19, 3) := by decide +kernel
theorem d35_4 : decode prog_4_method_4_code 4 = .ok (.areturn, 1) := by decide +kernel
def Q35a223 (Z : State) (a4 : Addr) (h0 : Heap) (n0 : Nat) (v : Option Value) (h : Heap) (L : List Loc) : Prop := v = some (.ref a4) ∧ Fr n0 L ∧ h = h0
set_option maxRecDepth 65536 in
set_option maxHeartbeats 40000000 in
theorem rm35a223 (l : Launch) (Z : State) (a0 : Array Value) (hw : HW a0 Z) (ws : List Jvm.Cond) (c4 : Addr) (a4 : Addr) (h0 : Heap) (n0 : Nat) (Z0 : n0 ≤ h0.size) (PF8 : oF7 Z h0 c4 (.ref a4)) :
    own_Met l mn34 prog_4_method_4_code 1 (some (.object "java/lang/String")) ws (oRm 0 0 0 0) #[(.ref c4)] Z h0 (Q35a223 Z a4 h0 n0) := by
  refine own_met (own := "com/example/tally_of_calls/tallyofcalls/Count") rfl (plainFor_of_name pn_0) ?_
  intro p e s m below meth c s₁ hx hby hml hZ hown hnm X0 e0 Br Bs
  have N0 := Fr.nil n0
  have tt := own_tt hx hby own_ok35
  show own_Ends p e below s _ _ _ s₁ (mkF m 0 #[oR c4] [])
  refine own_go (T' := s₁) (f' := (mkF m 1 #[oR c4] [vR c4])) (fun _ k => own_e X0 tt 0 1 k rfl) ?_
  obtain ⟨T15, X15, e15, st15⟩ := getF X0 hx hZ hown (host := "") (Or.inl (ow179 hw)) Via.refl e0 PF8 (g := (mkF m 1 #[oR c4] [vR c4])) rfl rfl (hb hby d35_1)
  refine own_go (T' := T15) (f' := (mkF m 4 #[oR c4] [vR a4])) (fun _ k => st15 _ k) ?_
  refine own_ret X15 (v := some (.ref a4)) (oN Br) Bs (fun fs hr => own_retA X15 hx Br rfl rfl (hb hby d35_4) hr) ?_ (by decide) (by decide)
  unfold Q35a223
  exact ⟨rfl, N0, e15⟩
def Q9a224 (Z : State) (i18 : Int32) (h0 : Heap) (n0 : Nat) (v : Option Value) (h : Heap) (L : List Loc) : Prop := v = some (.int (i18 >>> ((0 : Int32) &&& 31))) ∧ Fr n0 L ∧ h = h0
set_option maxRecDepth 65536 in
set_option maxHeartbeats 40000000 in
theorem rm9a224 (l : Launch) (Z : State) (a0 : Array Value) (hw : HW a0 Z) (ws : List Jvm.Cond) (a4 : Addr) (cs : Int32) (b4 : Addr) (k4 : ClassId) (i18 : Int32) (us4 : List Value) (h0 : Heap) (n0 : Nat) (Z0 : n0 ≤ h0.size) (PS0 : Sta Z h0 "java/lang/String" "COMPACT_STRINGS" "Z" (.int cs)) (PE9 : Exa Z h0 a4 "java/lang/String") (PF10 : oF3 Z h0 a4 (.int (0 : Int32))) (PF11 : oF4 Z h0 a4 (.ref b4)) (PV12 : Arv Z h0 b4 k4 .byte i18 us4 (.int (0 : Int32))) (PP0 : ¬ (cs = (0 : Int32))) :
    own_Met l mn7 jdk_42_method_54_code 1 (some .int) ws (oRm 1 0 0 13) #[(.ref a4)] Z h0 (Q9a224 Z i18 h0 n0) := by
  refine own_met (own := "java/lang/String") rfl (plainFor_of_name pn_7) ?_
  intro p e s m below meth c s₁ hx hby hml hZ hown hnm X0 e0 Br Bs
  have N0 := Fr.nil n0
  have tt := own_tt hx hby own_ok9
  show own_Ends p e below s _ _ _ s₁ (mkF m 0 #[oR a4] [])
  refine own_go (T' := s₁) (f' := (mkF m 1 #[oR a4] [vR a4])) (fun _ k => own_e X0 tt 0 1 k rfl) ?_
  obtain ⟨T19, X19, e19, st19⟩ := getF X0 hx hZ hown (host := "") (Or.inl (ow58 hw)) Via.refl e0 PF11 (g := (mkF m 1 #[oR a4] [vR a4])) rfl rfl (hb hby d9_1)
  refine own_go (T' := T19) (f' := (mkF m 6 #[oR a4] [vR a4, (.int i18)])) (fun _ k => st19 _ (own_alen X19 hx hZ e19 PV12 rfl rfl (hb hby d9_4) (own_e X19 tt 5 1 k rfl))) ?_
  obtain ⟨cq20, kq20, q20a, q20b, q20c⟩ := isOf hZ e19 PE9
  obtain ⟨_, T20, Lc20, X20, hQ20, st20⟩ := own_out (X19.virtualBack hx (y := mn6) (z := mn6) hown (mvT hZ (ow59 hw)) (mvT hZ (ow60 hw)) (notFace_of_selects (args := #[]) (mvT hZ (ow62 hw))) (mvT hZ (ow62 hw)) (mvT hZ (ow61 hw)) (by decide) (backOf (W := 1) (rm10a6 l Z a0 hw [] a4 cs h0 n0 Z0 PS0 PF10 PP0) hZ (ow63 hw) (ow31 hw) (by decide) (by decide)) q20a q20c (g := (mkF m 6 #[oR a4] [vR a4, (.int i18)])) rfl (by rw [hml]; rfl) (Steps.refl _) (argsL := []) (rest := [(.int i18)]) (lenOf pd0 rfl) rfl (by show 2 * 0 + _ ≤ _; exact Nat.le_of_eq rfl) (hb hby d9_6) (fun _ _ => ⟨rfl, e19, (by decide : 0 + 0 ≤ _), (by decide : 0 + 0 ≤ _)⟩))
  obtain ⟨rfl, N20q, hh20⟩ := hQ20
  have N20 := Fr.app N0 N20q
  obtain ⟨_, X20, N20⟩ := own_hide X20 N20
  refine own_go (T' := T20) (f' := (mkF m 10 #[oR a4] [(.int (i18 >>> ((0 : Int32) &&& 31)))])) (fun _ k => st20.trans (own_e X20 tt 9 1 k rfl)) ?_
  refine own_ret X20 (v := some (.int (i18 >>> ((0 : Int32) &&& 31)))) (oN Br) Bs (fun fs hr => retI X20 hx Br (hb hby d9_10) hr) ?_ (by decide) (by decide)
  unfold Q9a224
  exact ⟨rfl, N20, hh20⟩
def Q9a225 (Z : State)  (h0 : Heap) (n0 : Nat) (v : Option Value) (h : Heap) (L : List Loc) : Prop := v = some (.int (24 : Int32)) ∧ Fr n0 L ∧ h = h0
set_option maxRecDepth 65536 in
set_option maxHeartbeats 40000000 in
theorem rm9a225 (l : Launch) (Z : State) (a0 : Array Value) (hw : HW a0 Z) (ws : List Jvm.Cond) (a26 : Addr) (cs : Int32) (b26 : Addr) (k26 : ClassId) (i31 : Int32) (i32 : Int32) (h0 : Heap) (n0 : Nat) (Z0 : n0 ≤ h0.size) (PS0 : Sta Z h0 "java/lang/String" "COMPACT_STRINGS" "Z" (.int cs)) (PE9 : Exa Z h0 a26 "java/lang/String") (PF10 : oF3 Z h0 a26 (.int (0 : Int32))) (PF11 : oF4 Z h0 a26 (.ref b26)) (PV12 : Arv Z h0 b26 k26 .byte (24 : Int32) [(.int (101 : Int32)), (.int (120 : Int32)), (.int (112 : Int32)), (.int (101 : Int32)), (.int (99 : Int32)), (.int (116 : Int32)), (.int (101 : Int32)), (.int (100 : Int32)), (.int (32 : Int32)), (.int (98 : Int32)), (.int (101 : Int32)), (.int (116 : Int32)), (.int (119 : Int32)), (.int (101 : Int32)), (.int (101 : Int32)), (.int (110 : Int32)), (.int (32 : Int32)), (.int i31), (.int (32 : Int32)), (.int (97 : Int32)), (.int (110 : Int32)), (.int (100 : Int32)), (.int (32 : Int32)), (.int i32)] (.int (0 : Int32))) (PP0 : ¬ (cs = (0 : Int32))) :
    own_Met l mn7 jdk_42_method_54_code 1 (some .int) ws (oRm 1 0 0 13) #[(.ref a26)] Z h0 (Q9a225 Z  h0 n0) := by
  refine own_met (own := "java/lang/String") rfl (plainFor_of_name pn_7) ?_
  intro p e s m below meth c s₁ hx hby hml hZ hown hnm X0 e0 Br Bs
  have N0 := Fr.nil n0
  have tt := own_tt hx hby own_ok9
  show own_Ends p e below s _ _ _ s₁ (mkF m 0 #[oR a26] [])
  refine own_go (T' := s₁) (f' := (mkF m 1 #[oR a26] [vR a26])) (fun _ k => own_e X0 tt 0 1 k rfl) ?_
  obtain ⟨T33, X33, e33, st33⟩ := getF X0 hx hZ hown (host := "") (Or.inl (ow58 hw)) Via.refl e0 PF11 (g := (mkF m 1 #[oR a26] [vR a26])) rfl rfl (hb hby d9_1)
  refine own_go (T' := T33) (f' := (mkF m 6 #[oR a26] [vR a26, vI 24])) (fun _ k => st33 _ (own_alen X33 hx hZ e33 PV12 rfl rfl (hb hby d9_4) (own_e X33 tt 5 1 k rfl))) ?_
  obtain ⟨cq34, kq34, q34a, q34b, q34c⟩ := isOf hZ e33 PE9
  obtain ⟨_, T34, Lc34, X34, hQ34, st34⟩ := own_out (X33.virtualBack hx (y := mn6) (z := mn6) hown (mvT hZ (ow59 hw)) (mvT hZ (ow60 hw)) (notFace_of_selects (args := #[]) (mvT hZ (ow62 hw))) (mvT hZ (ow62 hw)) (mvT hZ (ow61 hw)) (by decide) (backOf (W := 1) (rm10a6 l Z a0 hw [] a26 cs h0 n0 Z0 PS0 PF10 PP0) hZ (ow63 hw) (ow31 hw) (by decide) (by decide)) q34a q34c (g := (mkF m 6 #[oR a26] [vR a26, vI 24])) rfl (by rw [hml]; rfl) (Steps.refl _) (argsL := []) (rest := [(.int (24 : Int32))]) (lenOf pd0 rfl) rfl (by show 2 * 0 + _ ≤ _; exact Nat.le_of_eq rfl) (hb hby d9_6) (fun _ _ => ⟨rfl, e33, (by decide : 0 + 0 ≤ _), (by decide : 0 + 0 ≤ _)⟩))
  obtain ⟨rfl, N34q, hh34⟩ := hQ34
  have N34 := Fr.app N0 N34q
  obtain ⟨_, X34, N34⟩ := own_hide X34 N34
  refine own_go (T' := T34) (f' := (mkF m 10 #[oR a26] [vI 24])) (fun _ k => st34.trans (own_e X34 tt 9 1 k rfl)) ?_
  refine own_ret X34 (v := some (.int (24 : Int32))) (oN Br) Bs (fun fs hr => retI X34 hx Br (hb hby d9_10) hr) ?_ (by decide) (by decide)
  unfold Q9a225
  exact ⟨rfl, N34, hh34⟩
def own_t40 (pc : Nat) : Option (Instr × Nat) := bif Nat.ble pc 17 then (bif Nat.ble pc 7 then (bif Nat.ble pc 1 then (bif Nat.ble pc 0 then (bif Nat.beq pc 0 then some (.iconst 0, 1) else none) else (bif Nat.beq pc 1 then some (.istore 5, 2) else none)) else (bif Nat.ble pc 3 then (bif Nat.beq pc 3 then some (.iload 5, 2) else none) else (bif Nat.ble pc 5 then (bif Nat.beq pc 5 then some (.iload 4, 2) else none) else (bif Nat.beq pc 7 then some (.if_icmp .ge 37, 3) else none)))) else (bif Nat.ble pc 11 then (bif Nat.ble pc 10 then (bif Nat.beq pc 10 then some (.aload_n 0, 1) else none) else (bif Nat.beq pc 11 then some (.iload_n 1, 1) else none)) else (bif Nat.ble pc 13 then (bif Nat.beq pc 13 then some (.istore 6, 2) else none) else (bif Nat.ble pc 15 then (bif Nat.beq pc 15 then some (.iload 6, 2) else none) else (bif Nat.beq pc 17 then some (.sipush 255, 3) else none))))) else (bif Nat.ble pc 30 then (bif Nat.ble pc 26 then (bif Nat.ble pc 20 then (bif Nat.beq pc 20 then some (.if_icmp .le 6, 3) else none) else (bif Nat.beq pc 26 then some (.aload_n 2, 1) else none)) else (bif Nat.ble pc 27 then (bif Nat.beq pc 27 then some (.iload_n 3, 1) else none) else (bif Nat.ble pc 28 then (bif Nat.beq pc 28 then some (.iload 6, 2) else none) else (bif Nat.beq pc 30 then some (.i2b, 1) else none)))) else (bif Nat.ble pc 35 then (bif Nat.ble pc 32 then (bif Nat.beq pc 32 then some (.iinc 1 1, 3) else none) else (bif Nat.beq pc 35 then some (.iinc 3 1, 3) else none)) else (bif Nat.ble pc 38 then (bif Nat.beq pc 38 then some (.iinc 5 1, 3) else none) else (bif Nat.ble pc 41 then (bif Nat.beq pc 41 then some (.goto (-38), 3) else none) else (bif Nat.beq pc 44 then some (.iload 4, 2) else none)))))
theorem own_ok40 : ∀ pc q, own_fetch 47 own_t40 pc = some q → decode jdk_52_method_21_code pc = .ok q := own_tab (by decide +kernel)
theorem d40_12 : decode jdk_52_method_21_code 12 = .ok (.caload, 1) := by decide +kernel
theorem d40_20 : decode jdk_52_method_21_code 20 = .ok (.if_icmp .le 6, 3) := by decide +kernel
theorem d40_31 : decode jdk_52_method_21_code 31 = .ok (.bastore, 1) := by decide +kernel
theorem d40_46 : decode jdk_52_method_21_code 46 = .ok (.ireturn, 1) := by decide +kernel
theorem pn_10 : plainName "java/lang/StringUTF16" = true := by first | (simp [plainName, overriddenIn]; done) | decide +kernel
def Q40a237 (Z : State) (b3 : Addr) (i4 : Int32) (i5 : Int32) (k3 : ClassId) (h0 : Heap) (n0 : Nat) (v : Option Value) (h : Heap) (L : List Loc) : Prop := v = some (.int (24 : Int32)) ∧ Fr n0 L ∧ Keep h0 h [b3] ∧ Arv Z h b3 k3 .byte (24 : Int32) [(.int (101 : Int32)), (.int (120 : Int32)), (.int (112 : Int32)), (.int (101 : Int32)), (.int (99 : Int32)), (.int (116 : Int32)), (.int (101 : Int32)), (.int (100 : Int32)), (.int (32 : Int32)), (.int (98 : Int32)), (.int (101 : Int32)), (.int (116 : Int32)), (.int (119 : Int32)), (.int (101 : Int32)), (.int (101 : Int32)), (.int (110 : Int32)), (.int (32 : Int32)), (.int (nar .byte (i4.toInt8.toInt32))), (.int (32 : Int32)), (.int (97 : Int32)), (.int (110 : Int32)), (.int (100 : Int32)), (.int (32 : Int32)), (.int (nar .byte (i5.toInt8.toInt32)))] (.int (0 : Int32))
set_option maxRecDepth 65536 in
set_option maxHeartbeats 40000000 in
theorem rm40a237 (l : Launch) (Z : State) (a0 : Array Value) (hw : HW a0 Z) (ws : List Jvm.Cond) (b38 : Addr) (b4 : Addr) (k38 : ClassId) (i5 : Int32) (i6 : Int32) (k4 : ClassId) (h0 : Heap) (n0 : Nat) (Z0 : n0 ≤ h0.size) (PV13 : Arv Z h0 b38 k38 .char (24 : Int32) [(.int (101 : Int32)), (.int (120 : Int32)), (.int (112 : Int32)), (.int (101 : Int32)), (.int (99 : Int32)), (.int (116 : Int32)), (.int (101 : Int32)), (.int (100 : Int32)), (.int (32 : Int32)), (.int (98 : Int32)), (.int (101 : Int32)), (.int (116 : Int32)), (.int (119 : Int32)), (.int (101 : Int32)), (.int (101 : Int32)), (.int (110 : Int32)), (.int (32 : Int32)), (.int i5), (.int (32 : Int32)), (.int (97 : Int32)), (.int (110 : Int32)), (.int (100 : Int32)), (.int (32 : Int32)), (.int i6)] (.int (0 : Int32))) (PV18 : Arv Z h0 b4 k4 .byte (24 : Int32) own_ls5 (.int (0 : Int32))) (PP2 : ¬ ((255 : Int32) < i5)) (PP3 : ¬ ((255 : Int32) < i6)) (ne_b38_b4 : b38 ≠ b4) (n_b4 : n0 ≤ b4) :
    own_Met l mn35 jdk_52_method_21_code 7 (some .int) ws (oRm 0 0 0 0) #[(.ref b38), (.int (0 : Int32)), (.ref b4), (.int (0 : Int32)), (.int (24 : Int32))] Z h0 (Q40a237 Z b4 i5 i6 k4 h0 n0) := by
  refine own_met (own := "java/lang/StringUTF16") rfl (plainFor_of_name pn_10) ?_
  intro p e s m below meth c s₁ hx hby hml hZ hown hnm X0 e0 Br Bs
  have N0 := Fr.nil n0
  have tt := own_tt hx hby own_ok40
  show own_Ends p e below s _ _ _ s₁ (mkF m 0 #[oR b38, oI 0, oR b4, oI 0, oI 24, oU, oU] [])
  refine own_go (T' := s₁) (f' := (mkF m 12 #[oR b38, oI 0, oR b4, oI 0, oI 24, oI 0, oU] [vI 0, vR b38])) (fun _ k => own_e X0 tt 0 7 k rfl) ?_
  refine own_go (T' := s₁) (f' := (mkF m 31 #[oR b38, oI 0, oR b4, oI 0, oI 24, oI 0, oI 101] [vI 101, vI 0, vR b4])) (fun _ k => own_ldC X0 hx hZ e0 PV13 (j := (0 : Int32)) (x := (101 : Int32)) ⟨by decide, by decide⟩ rfl rfl rfl (hb hby d40_12) (own_e X0 tt 13 8 k rfl)) ?_
  obtain ⟨T7, h7, X7, e7, W7, V7, st7⟩ := own_stB X0 hx hZ e0 PV18 (j := (0 : Int32)) ⟨by decide, by decide⟩ 0 rfl (Nat.le_of_ble_eq_true rfl) (g := (mkF m 31 #[oR b38, oI 0, oR b4, oI 0, oI 24, oI 0, oI 101] [vI 101, vI 0, vR b4])) rfl rfl (hb hby d40_31)
  have K7 : Keep h0 h7 [b4] := (Keep.refl h0 [b4]).wr W7 (Or.inl (List.mem_of_getElem? (i := 0) rfl))
  have V7s : Arv Z h7 b4 k4 .byte (24 : Int32) own_ls6 (.int (0 : Int32)) := V7
  have N7 := Fr.snoc X7 N0 n_b4
  refine own_go (T' := T7) (f' := (mkF m 12 #[oR b38, oI 1, oR b4, oI 1, oI 24, oI 1, oI 101] [vI 1, vR b38])) (fun _ k => st7 _ (own_e X7 tt 32 9 k rfl)) ?_
  refine own_go (T' := T7) (f' := (mkF m 31 #[oR b38, oI 1, oR b4, oI 1, oI 24, oI 1, oI 120] [vI 120, vI 1, vR b4])) (fun _ k => own_ldC X7 hx hZ e7 (PV13.other W7 ne_b38_b4) (j := (1 : Int32)) (x := (120 : Int32)) ⟨by decide, by decide⟩ rfl rfl rfl (hb hby d40_12) (own_e X7 tt 13 8 k rfl)) ?_
  obtain ⟨T8, h8, X8, e8, W8, V8, st8⟩ := own_stB X7 hx hZ e7 V7s (j := (1 : Int32)) ⟨by decide, by decide⟩ 1 rfl (Nat.le_of_ble_eq_true rfl) (g := (mkF m 31 #[oR b38, oI 1, oR b4, oI 1, oI 24, oI 1, oI 120] [vI 120, vI 1, vR b4])) rfl rfl (hb hby d40_31)
  have K8 : Keep h0 h8 [b4] := K7.wr W8 (Or.inl (List.mem_of_getElem? (i := 0) rfl))
  have V8s : Arv Z h8 b4 k4 .byte (24 : Int32) own_ls7 (.int (0 : Int32)) := V8
  have N8 := Fr.snoc X8 N7 n_b4
  refine own_go (T' := T8) (f' := (mkF m 12 #[oR b38, oI 2, oR b4, oI 2, oI 24, oI 2, oI 120] [vI 2, vR b38])) (fun _ k => st8 _ (own_e X8 tt 32 9 k rfl)) ?_
  refine own_go (T' := T8) (f' := (mkF m 31 #[oR b38, oI 2, oR b4, oI 2, oI 24, oI 2, oI 112] [vI 112, vI 2, vR b4])) (fun _ k => own_ldC X8 hx hZ e8 ((PV13.other W7 ne_b38_b4).other W8 ne_b38_b4) (j := (2 : Int32)) (x := (112 : Int32)) ⟨by decide, by decide⟩ rfl rfl rfl (hb hby d40_12) (own_e X8 tt 13 8 k rfl)) ?_
  obtain ⟨T9, h9, X9, e9, W9, V9, st9⟩ := own_stB X8 hx hZ e8 V8s (j := (2 : Int32)) ⟨by decide, by decide⟩ 2 rfl (Nat.le_of_ble_eq_true rfl) (g := (mkF m 31 #[oR b38, oI 2, oR b4, oI 2, oI 24, oI 2, oI 112] [vI 112, vI 2, vR b4])) rfl rfl (hb hby d40_31)
  have K9 : Keep h0 h9 [b4] := K8.wr W9 (Or.inl (List.mem_of_getElem? (i := 0) rfl))
  have V9s : Arv Z h9 b4 k4 .byte (24 : Int32) own_ls8 (.int (0 : Int32)) := V9
  have N9 := Fr.snoc X9 N8 n_b4
  refine own_go (T' := T9) (f' := (mkF m 12 #[oR b38, oI 3, oR b4, oI 3, oI 24, oI 3, oI 112] [vI 3, vR b38])) (fun _ k => st9 _ (own_e X9 tt 32 9 k rfl)) ?_
  refine own_go (T' := T9) (f' := (mkF m 31 #[oR b38, oI 3, oR b4, oI 3, oI 24, oI 3, oI 101] [vI 101, vI 3, vR b4])) (fun _ k => own_ldC X9 hx hZ e9 (((PV13.other W7 ne_b38_b4).other W8 ne_b38_b4).other W9 ne_b38_b4) (j := (3 : Int32)) (x := (101 : Int32)) ⟨by decide, by decide⟩ rfl rfl rfl (hb hby d40_12) (own_e X9 tt 13 8 k rfl)) ?_
  obtain ⟨T10, h10, X10, e10, W10, V10, st10⟩ := own_stB X9 hx hZ e9 V9s (j := (3 : Int32)) ⟨by decide, by decide⟩ 3 rfl (Nat.le_of_ble_eq_true rfl) (g := (mkF m 31 #[oR b38, oI 3, oR b4, oI 3, oI 24, oI 3, oI 101] [vI 101, vI 3, vR b4])) rfl rfl (hb hby d40_31)
  have K10 : Keep h0 h10 [b4] := K9.wr W10 (Or.inl (List.mem_of_getElem? (i := 0) rfl))
  have V10s : Arv Z h10 b4 k4 .byte (24 : Int32) own_ls9 (.int (0 : Int32)) := V10
  have N10 := Fr.snoc X10 N9 n_b4
  refine own_go (T' := T10) (f' := (mkF m 12 #[oR b38, oI 4, oR b4, oI 4, oI 24, oI 4, oI 101] [vI 4, vR b38])) (fun _ k => st10 _ (own_e X10 tt 32 9 k rfl)) ?_
  refine own_go (T' := T10) (f' := (mkF m 31 #[oR b38, oI 4, oR b4, oI 4, oI 24, oI 4, oI 99] [vI 99, vI 4, vR b4])) (fun _ k => own_ldC X10 hx hZ e10 ((((PV13.other W7 ne_b38_b4).other W8 ne_b38_b4).other W9 ne_b38_b4).other W10 ne_b38_b4) (j := (4 : Int32)) (x := (99 : Int32)) ⟨by decide, by decide⟩ rfl rfl rfl (hb hby d40_12) (own_e X10 tt 13 8 k rfl)) ?_
  obtain ⟨T11, h11, X11, e11, W11, V11, st11⟩ := own_stB X10 hx hZ e10 V10s (j := (4 : Int32)) ⟨by decide, by decide⟩ 4 rfl (Nat.le_of_ble_eq_true rfl) (g := (mkF m 31 #[oR b38, oI 4, oR b4, oI 4, oI 24, oI 4, oI 99] [vI 99, vI 4, vR b4])) rfl rfl (hb hby d40_31)
  have K11 : Keep h0 h11 [b4] := K10.wr W11 (Or.inl (List.mem_of_getElem? (i := 0) rfl))
  have V11s : Arv Z h11 b4 k4 .byte (24 : Int32) own_ls10 (.int (0 : Int32)) := V11
  have N11 := Fr.snoc X11 N10 n_b4
  refine own_go (T' := T11) (f' := (mkF m 12 #[oR b38, oI 5, oR b4, oI 5, oI 24, oI 5, oI 99] [vI 5, vR b38])) (fun _ k => st11 _ (own_e X11 tt 32 9 k rfl)) ?_
  have G12 := (((((PV13.other W7 ne_b38_b4).other W8 ne_b38_b4).other W9 ne_b38_b4).other W10 ne_b38_b4).other W11 ne_b38_b4)
  refine own_go (T' := T11) (f' := (mkF m 31 #[oR b38, oI 5, oR b4, oI 5, oI 24, oI 5, oI 116] [vI 116, vI 5, vR b4])) (fun _ k => own_ldC X11 hx hZ e11 G12 (j := (5 : Int32)) (x := (116 : Int32)) ⟨by decide, by decide⟩ rfl rfl rfl (hb hby d40_12) (own_e X11 tt 13 8 k rfl)) ?_
  obtain ⟨T14, h14, X14, e14, W14, V14, st14⟩ := own_stB X11 hx hZ e11 V11s (j := (5 : Int32)) ⟨by decide, by decide⟩ 5 rfl (Nat.le_of_ble_eq_true rfl) (g := (mkF m 31 #[oR b38, oI 5, oR b4, oI 5, oI 24, oI 5, oI 116] [vI 116, vI 5, vR b4])) rfl rfl (hb hby d40_31)
  have K14 : Keep h0 h14 [b4] := K11.wr W14 (Or.inl (List.mem_of_getElem? (i := 0) rfl))
  have V14s : Arv Z h14 b4 k4 .byte (24 : Int32) own_ls11 (.int (0 : Int32)) := V14
  have N14 := Fr.snoc X14 N11 n_b4
  refine own_go (T' := T14) (f' := (mkF m 12 #[oR b38, oI 6, oR b4, oI 6, oI 24, oI 6, oI 116] [vI 6, vR b38])) (fun _ k => st14 _ (own_e X14 tt 32 9 k rfl)) ?_
  refine own_go (T' := T14) (f' := (mkF m 31 #[oR b38, oI 6, oR b4, oI 6, oI 24, oI 6, oI 101] [vI 101, vI 6, vR b4])) (fun _ k => own_ldC X14 hx hZ e14 (G12.other W14 ne_b38_b4) (j := (6 : Int32)) (x := (101 : Int32)) ⟨by decide, by decide⟩ rfl rfl rfl (hb hby d40_12) (own_e X14 tt 13 8 k rfl)) ?_
  obtain ⟨T15, h15, X15, e15, W15, V15, st15⟩ := own_stB X14 hx hZ e14 V14s (j := (6 : Int32)) ⟨by decide, by decide⟩ 6 rfl (Nat.le_of_ble_eq_true rfl) (g := (mkF m 31 #[oR b38, oI 6, oR b4, oI 6, oI 24, oI 6, oI 101] [vI 101, vI 6, vR b4])) rfl rfl (hb hby d40_31)
  have K15 : Keep h0 h15 [b4] := K14.wr W15 (Or.inl (List.mem_of_getElem? (i := 0) rfl))
  have V15s : Arv Z h15 b4 k4 .byte (24 : Int32) own_ls12 (.int (0 : Int32)) := V15
  have N15 := Fr.snoc X15 N14 n_b4
  refine own_go (T' := T15) (f' := (mkF m 12 #[oR b38, oI 7, oR b4, oI 7, oI 24, oI 7, oI 101] [vI 7, vR b38])) (fun _ k => st15 _ (own_e X15 tt 32 9 k rfl)) ?_
  refine own_go (T' := T15) (f' := (mkF m 31 #[oR b38, oI 7, oR b4, oI 7, oI 24, oI 7, oI 100] [vI 100, vI 7, vR b4])) (fun _ k => own_ldC X15 hx hZ e15 ((G12.other W14 ne_b38_b4).other W15 ne_b38_b4) (j := (7 : Int32)) (x := (100 : Int32)) ⟨by decide, by decide⟩ rfl rfl rfl (hb hby d40_12) (own_e X15 tt 13 8 k rfl)) ?_
  obtain ⟨T16, h16, X16, e16, W16, V16, st16⟩ := own_stB X15 hx hZ e15 V15s (j := (7 : Int32)) ⟨by decide, by decide⟩ 7 rfl (Nat.le_of_ble_eq_true rfl) (g := (mkF m 31 #[oR b38, oI 7, oR b4, oI 7, oI 24, oI 7, oI 100] [vI 100, vI 7, vR b4])) rfl rfl (hb hby d40_31)
  have K16 : Keep h0 h16 [b4] := K15.wr W16 (Or.inl (List.mem_of_getElem? (i := 0) rfl))
  have V16s : Arv Z h16 b4 k4 .byte (24 : Int32) own_ls13 (.int (0 : Int32)) := V16
  have N16 := Fr.snoc X16 N15 n_b4
  refine own_go (T' := T16) (f' := (mkF m 12 #[oR b38, oI 8, oR b4, oI 8, oI 24, oI 8, oI 100] [vI 8, vR b38])) (fun _ k => st16 _ (own_e X16 tt 32 9 k rfl)) ?_
  refine own_go (T' := T16) (f' := (mkF m 31 #[oR b38, oI 8, oR b4, oI 8, oI 24, oI 8, oI 32] [vI 32, vI 8, vR b4])) (fun _ k => own_ldC X16 hx hZ e16 (((G12.other W14 ne_b38_b4).other W15 ne_b38_b4).other W16 ne_b38_b4) (j := (8 : Int32)) (x := (32 : Int32)) ⟨by decide, by decide⟩ rfl rfl rfl (hb hby d40_12) (own_e X16 tt 13 8 k rfl)) ?_
  obtain ⟨T17, h17, X17, e17, W17, V17, st17⟩ := own_stB X16 hx hZ e16 V16s (j := (8 : Int32)) ⟨by decide, by decide⟩ 8 rfl (Nat.le_of_ble_eq_true rfl) (g := (mkF m 31 #[oR b38, oI 8, oR b4, oI 8, oI 24, oI 8, oI 32] [vI 32, vI 8, vR b4])) rfl rfl (hb hby d40_31)
  have K17 : Keep h0 h17 [b4] := K16.wr W17 (Or.inl (List.mem_of_getElem? (i := 0) rfl))
  have V17s : Arv Z h17 b4 k4 .byte (24 : Int32) own_ls14 (.int (0 : Int32)) := V17
  have N17 := Fr.snoc X17 N16 n_b4
  refine own_go (T' := T17) (f' := (mkF m 12 #[oR b38, oI 9, oR b4, oI 9, oI 24, oI 9, oI 32] [vI 9, vR b38])) (fun _ k => st17 _ (own_e X17 tt 32 9 k rfl)) ?_
  refine own_go (T' := T17) (f' := (mkF m 31 #[oR b38, oI 9, oR b4, oI 9, oI 24, oI 9, oI 98] [vI 98, vI 9, vR b4])) (fun _ k => own_ldC X17 hx hZ e17 ((((G12.other W14 ne_b38_b4).other W15 ne_b38_b4).other W16 ne_b38_b4).other W17 ne_b38_b4) (j := (9 : Int32)) (x := (98 : Int32)) ⟨by decide, by decide⟩ rfl rfl rfl (hb hby d40_12) (own_e X17 tt 13 8 k rfl)) ?_
  obtain ⟨T19, h19, X19, e19, W19, V19, st19⟩ := own_stB X17 hx hZ e17 V17s (j := (9 : Int32)) ⟨by decide, by decide⟩ 9 rfl (Nat.le_of_ble_eq_true rfl) (g := (mkF m 31 #[oR b38, oI 9, oR b4, oI 9, oI 24, oI 9, oI 98] [vI 98, vI 9, vR b4])) rfl rfl (hb hby d40_31)
  have K19 : Keep h0 h19 [b4] := K17.wr W19 (Or.inl (List.mem_of_getElem? (i := 0) rfl))
  have V19s : Arv Z h19 b4 k4 .byte (24 : Int32) own_ls15 (.int (0 : Int32)) := V19
  have N19 := Fr.snoc X19 N17 n_b4
  refine own_go (T' := T19) (f' := (mkF m 12 #[oR b38, oI 10, oR b4, oI 10, oI 24, oI 10, oI 98] [vI 10, vR b38])) (fun _ k => st19 _ (own_e X19 tt 32 9 k rfl)) ?_
  have G20 := (((((G12.other W14 ne_b38_b4).other W15 ne_b38_b4).other W16 ne_b38_b4).other W17 ne_b38_b4).other W19 ne_b38_b4)
  refine own_go (T' := T19) (f' := (mkF m 31 #[oR b38, oI 10, oR b4, oI 10, oI 24, oI 10, oI 101] [vI 101, vI 10, vR b4])) (fun _ k => own_ldC X19 hx hZ e19 G20 (j := (10 : Int32)) (x := (101 : Int32)) ⟨by decide, by decide⟩ rfl rfl rfl (hb hby d40_12) (own_e X19 tt 13 8 k rfl)) ?_
  obtain ⟨T21, h21, X21, e21, W21, V21, st21⟩ := own_stB X19 hx hZ e19 V19s (j := (10 : Int32)) ⟨by decide, by decide⟩ 10 rfl (Nat.le_of_ble_eq_true rfl) (g := (mkF m 31 #[oR b38, oI 10, oR b4, oI 10, oI 24, oI 10, oI 101] [vI 101, vI 10, vR b4])) rfl rfl (hb hby d40_31)
  have K21 : Keep h0 h21 [b4] := K19.wr W21 (Or.inl (List.mem_of_getElem? (i := 0) rfl))
  have V21s : Arv Z h21 b4 k4 .byte (24 : Int32) own_ls16 (.int (0 : Int32)) := V21
  have N21 := Fr.snoc X21 N19 n_b4
  refine own_go (T' := T21) (f' := (mkF m 12 #[oR b38, oI 11, oR b4, oI 11, oI 24, oI 11, oI 101] [vI 11, vR b38])) (fun _ k => st21 _ (own_e X21 tt 32 9 k rfl)) ?_
  refine own_go (T' := T21) (f' := (mkF m 31 #[oR b38, oI 11, oR b4, oI 11, oI 24, oI 11, oI 116] [vI 116, vI 11, vR b4])) (fun _ k => own_ldC X21 hx hZ e21 (G20.other W21 ne_b38_b4) (j := (11 : Int32)) (x := (116 : Int32)) ⟨by decide, by decide⟩ rfl rfl rfl (hb hby d40_12) (own_e X21 tt 13 8 k rfl)) ?_
  obtain ⟨T22, h22, X22, e22, W22, V22, st22⟩ := own_stB X21 hx hZ e21 V21s (j := (11 : Int32)) ⟨by decide, by decide⟩ 11 rfl (Nat.le_of_ble_eq_true rfl) (g := (mkF m 31 #[oR b38, oI 11, oR b4, oI 11, oI 24, oI 11, oI 116] [vI 116, vI 11, vR b4])) rfl rfl (hb hby d40_31)
  have K22 : Keep h0 h22 [b4] := K21.wr W22 (Or.inl (List.mem_of_getElem? (i := 0) rfl))
  have V22s : Arv Z h22 b4 k4 .byte (24 : Int32) own_ls17 (.int (0 : Int32)) := V22
  have N22 := Fr.snoc X22 N21 n_b4
  refine own_go (T' := T22) (f' := (mkF m 12 #[oR b38, oI 12, oR b4, oI 12, oI 24, oI 12, oI 116] [vI 12, vR b38])) (fun _ k => st22 _ (own_e X22 tt 32 9 k rfl)) ?_
  refine own_go (T' := T22) (f' := (mkF m 31 #[oR b38, oI 12, oR b4, oI 12, oI 24, oI 12, oI 119] [vI 119, vI 12, vR b4])) (fun _ k => own_ldC X22 hx hZ e22 ((G20.other W21 ne_b38_b4).other W22 ne_b38_b4) (j := (12 : Int32)) (x := (119 : Int32)) ⟨by decide, by decide⟩ rfl rfl rfl (hb hby d40_12) (own_e X22 tt 13 8 k rfl)) ?_
  obtain ⟨T23, h23, X23, e23, W23, V23, st23⟩ := own_stB X22 hx hZ e22 V22s (j := (12 : Int32)) ⟨by decide, by decide⟩ 12 rfl (Nat.le_of_ble_eq_true rfl) (g := (mkF m 31 #[oR b38, oI 12, oR b4, oI 12, oI 24, oI 12, oI 119] [vI 119, vI 12, vR b4])) rfl rfl (hb hby d40_31)
  have K23 : Keep h0 h23 [b4] := K22.wr W23 (Or.inl (List.mem_of_getElem? (i := 0) rfl))
  have V23s : Arv Z h23 b4 k4 .byte (24 : Int32) own_ls18 (.int (0 : Int32)) := V23
  have N23 := Fr.snoc X23 N22 n_b4
  refine own_go (T' := T23) (f' := (mkF m 12 #[oR b38, oI 13, oR b4, oI 13, oI 24, oI 13, oI 119] [vI 13, vR b38])) (fun _ k => st23 _ (own_e X23 tt 32 9 k rfl)) ?_
  refine own_go (T' := T23) (f' := (mkF m 31 #[oR b38, oI 13, oR b4, oI 13, oI 24, oI 13, oI 101] [vI 101, vI 13, vR b4])) (fun _ k => own_ldC X23 hx hZ e23 (((G20.other W21 ne_b38_b4).other W22 ne_b38_b4).other W23 ne_b38_b4) (j := (13 : Int32)) (x := (101 : Int32)) ⟨by decide, by decide⟩ rfl rfl rfl (hb hby d40_12) (own_e X23 tt 13 8 k rfl)) ?_
  obtain ⟨T24, h24, X24, e24, W24, V24, st24⟩ := own_stB X23 hx hZ e23 V23s (j := (13 : Int32)) ⟨by decide, by decide⟩ 13 rfl (Nat.le_of_ble_eq_true rfl) (g := (mkF m 31 #[oR b38, oI 13, oR b4, oI 13, oI 24, oI 13, oI 101] [vI 101, vI 13, vR b4])) rfl rfl (hb hby d40_31)
  have K24 : Keep h0 h24 [b4] := K23.wr W24 (Or.inl (List.mem_of_getElem? (i := 0) rfl))
  have V24s : Arv Z h24 b4 k4 .byte (24 : Int32) own_ls19 (.int (0 : Int32)) := V24
  have N24 := Fr.snoc X24 N23 n_b4
  refine own_go (T' := T24) (f' := (mkF m 12 #[oR b38, oI 14, oR b4, oI 14, oI 24, oI 14, oI 101] [vI 14, vR b38])) (fun _ k => st24 _ (own_e X24 tt 32 9 k rfl)) ?_
  refine own_go (T' := T24) (f' := (mkF m 31 #[oR b38, oI 14, oR b4, oI 14, oI 24, oI 14, oI 101] [vI 101, vI 14, vR b4])) (fun _ k => own_ldC X24 hx hZ e24 ((((G20.other W21 ne_b38_b4).other W22 ne_b38_b4).other W23 ne_b38_b4).other W24 ne_b38_b4) (j := (14 : Int32)) (x := (101 : Int32)) ⟨by decide, by decide⟩ rfl rfl rfl (hb hby d40_12) (own_e X24 tt 13 8 k rfl)) ?_
  obtain ⟨T25, h25, X25, e25, W25, V25, st25⟩ := own_stB X24 hx hZ e24 V24s (j := (14 : Int32)) ⟨by decide, by decide⟩ 14 rfl (Nat.le_of_ble_eq_true rfl) (g := (mkF m 31 #[oR b38, oI 14, oR b4, oI 14, oI 24, oI 14, oI 101] [vI 101, vI 14, vR b4])) rfl rfl (hb hby d40_31)
  have K25 : Keep h0 h25 [b4] := K24.wr W25 (Or.inl (List.mem_of_getElem? (i := 0) rfl))
  have V25s : Arv Z h25 b4 k4 .byte (24 : Int32) own_ls20 (.int (0 : Int32)) := V25
  have N25 := Fr.snoc X25 N24 n_b4
  refine own_go (T' := T25) (f' := (mkF m 12 #[oR b38, oI 15, oR b4, oI 15, oI 24, oI 15, oI 101] [vI 15, vR b38])) (fun _ k => st25 _ (own_e X25 tt 32 9 k rfl)) ?_
  have G26 := (((((G20.other W21 ne_b38_b4).other W22 ne_b38_b4).other W23 ne_b38_b4).other W24 ne_b38_b4).other W25 ne_b38_b4)
  refine own_go (T' := T25) (f' := (mkF m 31 #[oR b38, oI 15, oR b4, oI 15, oI 24, oI 15, oI 110] [vI 110, vI 15, vR b4])) (fun _ k => own_ldC X25 hx hZ e25 G26 (j := (15 : Int32)) (x := (110 : Int32)) ⟨by decide, by decide⟩ rfl rfl rfl (hb hby d40_12) (own_e X25 tt 13 8 k rfl)) ?_
  obtain ⟨T27, h27, X27, e27, W27, V27, st27⟩ := own_stB X25 hx hZ e25 V25s (j := (15 : Int32)) ⟨by decide, by decide⟩ 15 rfl (Nat.le_of_ble_eq_true rfl) (g := (mkF m 31 #[oR b38, oI 15, oR b4, oI 15, oI 24, oI 15, oI 110] [vI 110, vI 15, vR b4])) rfl rfl (hb hby d40_31)
  have K27 : Keep h0 h27 [b4] := K25.wr W27 (Or.inl (List.mem_of_getElem? (i := 0) rfl))
  have V27s : Arv Z h27 b4 k4 .byte (24 : Int32) own_ls21 (.int (0 : Int32)) := V27
  have N27 := Fr.snoc X27 N25 n_b4
  refine own_go (T' := T27) (f' := (mkF m 12 #[oR b38, oI 16, oR b4, oI 16, oI 24, oI 16, oI 110] [vI 16, vR b38])) (fun _ k => st27 _ (own_e X27 tt 32 9 k rfl)) ?_
  refine own_go (T' := T27) (f' := (mkF m 31 #[oR b38, oI 16, oR b4, oI 16, oI 24, oI 16, oI 32] [vI 32, vI 16, vR b4])) (fun _ k => own_ldC X27 hx hZ e27 (G26.other W27 ne_b38_b4) (j := (16 : Int32)) (x := (32 : Int32)) ⟨by decide, by decide⟩ rfl rfl rfl (hb hby d40_12) (own_e X27 tt 13 8 k rfl)) ?_
  obtain ⟨T28, h28, X28, e28, W28, V28, st28⟩ := own_stB X27 hx hZ e27 V27s (j := (16 : Int32)) ⟨by decide, by decide⟩ 16 rfl (Nat.le_of_ble_eq_true rfl) (g := (mkF m 31 #[oR b38, oI 16, oR b4, oI 16, oI 24, oI 16, oI 32] [vI 32, vI 16, vR b4])) rfl rfl (hb hby d40_31)
  have K28 : Keep h0 h28 [b4] := K27.wr W28 (Or.inl (List.mem_of_getElem? (i := 0) rfl))
  have V28s : Arv Z h28 b4 k4 .byte (24 : Int32) own_ls22 (.int (0 : Int32)) := V28
  have N28 := Fr.snoc X28 N27 n_b4
  refine own_go (T' := T28) (f' := (mkF m 12 #[oR b38, oI 17, oR b4, oI 17, oI 24, oI 17, oI 32] [vI 17, vR b38])) (fun _ k => st28 _ (own_e X28 tt 32 9 k rfl)) ?_
  refine own_go (T' := T28) (f' := (mkF m 20 #[oR b38, oI 17, oR b4, oI 17, oI 24, oI 17, .val (.int i5)] [vI 255, (.int i5)])) (fun _ k => own_ldC X28 hx hZ e28 ((G26.other W27 ne_b38_b4).other W28 ne_b38_b4) (j := (17 : Int32)) (x := i5) ⟨by decide, by decide⟩ rfl rfl rfl (hb hby d40_12) (own_e X28 tt 13 3 k rfl)) ?_
  refine own_go (T' := T28) (f' := (mkF m 31 #[oR b38, oI 17, oR b4, oI 17, oI 24, oI 17, .val (.int i5)] [(.int (i5.toInt8.toInt32)), vI 17, vR b4])) (fun _ k => XS.icmpYes X28.here hx rfl (pc0 := 20) (pc' := 26) rfl (hb hby d40_20) rfl (flt PP2).2.2.2 (by decide) (by decide) (own_e X28 tt 26 4 k rfl)) ?_
  obtain ⟨T29, h29, X29, e29, W29, V29, st29⟩ := own_stB X28 hx hZ e28 V28s (j := (17 : Int32)) ⟨by decide, by decide⟩ 17 rfl (Nat.le_of_ble_eq_true rfl) (g := (mkF m 31 #[oR b38, oI 17, oR b4, oI 17, oI 24, oI 17, .val (.int i5)] [(.int (i5.toInt8.toInt32)), vI 17, vR b4])) rfl rfl (hb hby d40_31)
  have K29 : Keep h0 h29 [b4] := K28.wr W29 (Or.inl (List.mem_of_getElem? (i := 0) rfl))
  have V29s : Arv Z h29 b4 k4 .byte (24 : Int32) [(.int (101 : Int32)), (.int (120 : Int32)), (.int (112 : Int32)), (.int (101 : Int32)), (.int (99 : Int32)), (.int (116 : Int32)), (.int (101 : Int32)), (.int (100 : Int32)), (.int (32 : Int32)), (.int (98 : Int32)), (.int (101 : Int32)), (.int (116 : Int32)), (.int (119 : Int32)), (.int (101 : Int32)), (.int (101 : Int32)), (.int (110 : Int32)), (.int (32 : Int32)), (.int (nar .byte (i5.toInt8.toInt32))), (.int (0 : Int32)), (.int (0 : Int32)), (.int (0 : Int32)), (.int (0 : Int32)), (.int (0 : Int32)), (.int (0 : Int32))] (.int (0 : Int32)) := V29
  have N29 := Fr.snoc X29 N28 n_b4
  refine own_go (T' := T29) (f' := (mkF m 12 #[oR b38, oI 18, oR b4, oI 18, oI 24, oI 18, .val (.int i5)] [vI 18, vR b38])) (fun _ k => st29 _ (own_e X29 tt 32 9 k rfl)) ?_
  refine own_go (T' := T29) (f' := (mkF m 31 #[oR b38, oI 18, oR b4, oI 18, oI 24, oI 18, oI 32] [vI 32, vI 18, vR b4])) (fun _ k => own_ldC X29 hx hZ e29 (((G26.other W27 ne_b38_b4).other W28 ne_b38_b4).other W29 ne_b38_b4) (j := (18 : Int32)) (x := (32 : Int32)) ⟨by decide, by decide⟩ rfl rfl rfl (hb hby d40_12) (own_e X29 tt 13 8 k rfl)) ?_
  obtain ⟨T30, h30, X30, e30, W30, V30, st30⟩ := own_stB X29 hx hZ e29 V29s (j := (18 : Int32)) ⟨by decide, by decide⟩ 18 rfl (Nat.le_of_ble_eq_true rfl) (g := (mkF m 31 #[oR b38, oI 18, oR b4, oI 18, oI 24, oI 18, oI 32] [vI 32, vI 18, vR b4])) rfl rfl (hb hby d40_31)
  have K30 : Keep h0 h30 [b4] := K29.wr W30 (Or.inl (List.mem_of_getElem? (i := 0) rfl))
  have V30s : Arv Z h30 b4 k4 .byte (24 : Int32) [(.int (101 : Int32)), (.int (120 : Int32)), (.int (112 : Int32)), (.int (101 : Int32)), (.int (99 : Int32)), (.int (116 : Int32)), (.int (101 : Int32)), (.int (100 : Int32)), (.int (32 : Int32)), (.int (98 : Int32)), (.int (101 : Int32)), (.int (116 : Int32)), (.int (119 : Int32)), (.int (101 : Int32)), (.int (101 : Int32)), (.int (110 : Int32)), (.int (32 : Int32)), (.int (nar .byte (i5.toInt8.toInt32))), (.int (32 : Int32)), (.int (0 : Int32)), (.int (0 : Int32)), (.int (0 : Int32)), (.int (0 : Int32)), (.int (0 : Int32))] (.int (0 : Int32)) := V30
  have N30 := Fr.snoc X30 N29 n_b4
  refine own_go (T' := T30) (f' := (mkF m 12 #[oR b38, oI 19, oR b4, oI 19, oI 24, oI 19, oI 32] [vI 19, vR b38])) (fun _ k => st30 _ (own_e X30 tt 32 9 k rfl)) ?_
  refine own_go (T' := T30) (f' := (mkF m 31 #[oR b38, oI 19, oR b4, oI 19, oI 24, oI 19, oI 97] [vI 97, vI 19, vR b4])) (fun _ k => own_ldC X30 hx hZ e30 ((((G26.other W27 ne_b38_b4).other W28 ne_b38_b4).other W29 ne_b38_b4).other W30 ne_b38_b4) (j := (19 : Int32)) (x := (97 : Int32)) ⟨by decide, by decide⟩ rfl rfl rfl (hb hby d40_12) (own_e X30 tt 13 8 k rfl)) ?_
  obtain ⟨T31, h31, X31, e31, W31, V31, st31⟩ := own_stB X30 hx hZ e30 V30s (j := (19 : Int32)) ⟨by decide, by decide⟩ 19 rfl (Nat.le_of_ble_eq_true rfl) (g := (mkF m 31 #[oR b38, oI 19, oR b4, oI 19, oI 24, oI 19, oI 97] [vI 97, vI 19, vR b4])) rfl rfl (hb hby d40_31)
  have K31 : Keep h0 h31 [b4] := K30.wr W31 (Or.inl (List.mem_of_getElem? (i := 0) rfl))
  have V31s : Arv Z h31 b4 k4 .byte (24 : Int32) [(.int (101 : Int32)), (.int (120 : Int32)), (.int (112 : Int32)), (.int (101 : Int32)), (.int (99 : Int32)), (.int (116 : Int32)), (.int (101 : Int32)), (.int (100 : Int32)), (.int (32 : Int32)), (.int (98 : Int32)), (.int (101 : Int32)), (.int (116 : Int32)), (.int (119 : Int32)), (.int (101 : Int32)), (.int (101 : Int32)), (.int (110 : Int32)), (.int (32 : Int32)), (.int (nar .byte (i5.toInt8.toInt32))), (.int (32 : Int32)), (.int (97 : Int32)), (.int (0 : Int32)), (.int (0 : Int32)), (.int (0 : Int32)), (.int (0 : Int32))] (.int (0 : Int32)) := V31
  have N31 := Fr.snoc X31 N30 n_b4
  refine own_go (T' := T31) (f' := (mkF m 12 #[oR b38, oI 20, oR b4, oI 20, oI 24, oI 20, oI 97] [vI 20, vR b38])) (fun _ k => st31 _ (own_e X31 tt 32 9 k rfl)) ?_
  have G32 := (((((G26.other W27 ne_b38_b4).other W28 ne_b38_b4).other W29 ne_b38_b4).other W30 ne_b38_b4).other W31 ne_b38_b4)
  refine own_go (T' := T31) (f' := (mkF m 31 #[oR b38, oI 20, oR b4, oI 20, oI 24, oI 20, oI 110] [vI 110, vI 20, vR b4])) (fun _ k => own_ldC X31 hx hZ e31 G32 (j := (20 : Int32)) (x := (110 : Int32)) ⟨by decide, by decide⟩ rfl rfl rfl (hb hby d40_12) (own_e X31 tt 13 8 k rfl)) ?_
  obtain ⟨T33, h33, X33, e33, W33, V33, st33⟩ := own_stB X31 hx hZ e31 V31s (j := (20 : Int32)) ⟨by decide, by decide⟩ 20 rfl (Nat.le_of_ble_eq_true rfl) (g := (mkF m 31 #[oR b38, oI 20, oR b4, oI 20, oI 24, oI 20, oI 110] [vI 110, vI 20, vR b4])) rfl rfl (hb hby d40_31)
  have K33 : Keep h0 h33 [b4] := K31.wr W33 (Or.inl (List.mem_of_getElem? (i := 0) rfl))
  have V33s : Arv Z h33 b4 k4 .byte (24 : Int32) [(.int (101 : Int32)), (.int (120 : Int32)), (.int (112 : Int32)), (.int (101 : Int32)), (.int (99 : Int32)), (.int (116 : Int32)), (.int (101 : Int32)), (.int (100 : Int32)), (.int (32 : Int32)), (.int (98 : Int32)), (.int (101 : Int32)), (.int (116 : Int32)), (.int (119 : Int32)), (.int (101 : Int32)), (.int (101 : Int32)), (.int (110 : Int32)), (.int (32 : Int32)), (.int (nar .byte (i5.toInt8.toInt32))), (.int (32 : Int32)), (.int (97 : Int32)), (.int (110 : Int32)), (.int (0 : Int32)), (.int (0 : Int32)), (.int (0 : Int32))] (.int (0 : Int32)) := V33
  have N33 := Fr.snoc X33 N31 n_b4
  refine own_go (T' := T33) (f' := (mkF m 12 #[oR b38, oI 21, oR b4, oI 21, oI 24, oI 21, oI 110] [vI 21, vR b38])) (fun _ k => st33 _ (own_e X33 tt 32 9 k rfl)) ?_
  refine own_go (T' := T33) (f' := (mkF m 31 #[oR b38, oI 21, oR b4, oI 21, oI 24, oI 21, oI 100] [vI 100, vI 21, vR b4])) (fun _ k => own_ldC X33 hx hZ e33 (G32.other W33 ne_b38_b4) (j := (21 : Int32)) (x := (100 : Int32)) ⟨by decide, by decide⟩ rfl rfl rfl (hb hby d40_12) (own_e X33 tt 13 8 k rfl)) ?_
  obtain ⟨T34, h34, X34, e34, W34, V34, st34⟩ := own_stB X33 hx hZ e33 V33s (j := (21 : Int32)) ⟨by decide, by decide⟩ 21 rfl (Nat.le_of_ble_eq_true rfl) (g := (mkF m 31 #[oR b38, oI 21, oR b4, oI 21, oI 24, oI 21, oI 100] [vI 100, vI 21, vR b4])) rfl rfl (hb hby d40_31)
  have K34 : Keep h0 h34 [b4] := K33.wr W34 (Or.inl (List.mem_of_getElem? (i := 0) rfl))
  have V34s : Arv Z h34 b4 k4 .byte (24 : Int32) [(.int (101 : Int32)), (.int (120 : Int32)), (.int (112 : Int32)), (.int (101 : Int32)), (.int (99 : Int32)), (.int (116 : Int32)), (.int (101 : Int32)), (.int (100 : Int32)), (.int (32 : Int32)), (.int (98 : Int32)), (.int (101 : Int32)), (.int (116 : Int32)), (.int (119 : Int32)), (.int (101 : Int32)), (.int (101 : Int32)), (.int (110 : Int32)), (.int (32 : Int32)), (.int (nar .byte (i5.toInt8.toInt32))), (.int (32 : Int32)), (.int (97 : Int32)), (.int (110 : Int32)), (.int (100 : Int32)), (.int (0 : Int32)), (.int (0 : Int32))] (.int (0 : Int32)) := V34
  have N34 := Fr.snoc X34 N33 n_b4
  refine own_go (T' := T34) (f' := (mkF m 12 #[oR b38, oI 22, oR b4, oI 22, oI 24, oI 22, oI 100] [vI 22, vR b38])) (fun _ k => st34 _ (own_e X34 tt 32 9 k rfl)) ?_
  refine own_go (T' := T34) (f' := (mkF m 31 #[oR b38, oI 22, oR b4, oI 22, oI 24, oI 22, oI 32] [vI 32, vI 22, vR b4])) (fun _ k => own_ldC X34 hx hZ e34 ((G32.other W33 ne_b38_b4).other W34 ne_b38_b4) (j := (22 : Int32)) (x := (32 : Int32)) ⟨by decide, by decide⟩ rfl rfl rfl (hb hby d40_12) (own_e X34 tt 13 8 k rfl)) ?_
  obtain ⟨T35, h35, X35, e35, W35, V35, st35⟩ := own_stB X34 hx hZ e34 V34s (j := (22 : Int32)) ⟨by decide, by decide⟩ 22 rfl (Nat.le_of_ble_eq_true rfl) (g := (mkF m 31 #[oR b38, oI 22, oR b4, oI 22, oI 24, oI 22, oI 32] [vI 32, vI 22, vR b4])) rfl rfl (hb hby d40_31)
  have K35 : Keep h0 h35 [b4] := K34.wr W35 (Or.inl (List.mem_of_getElem? (i := 0) rfl))
  have V35s : Arv Z h35 b4 k4 .byte (24 : Int32) [(.int (101 : Int32)), (.int (120 : Int32)), (.int (112 : Int32)), (.int (101 : Int32)), (.int (99 : Int32)), (.int (116 : Int32)), (.int (101 : Int32)), (.int (100 : Int32)), (.int (32 : Int32)), (.int (98 : Int32)), (.int (101 : Int32)), (.int (116 : Int32)), (.int (119 : Int32)), (.int (101 : Int32)), (.int (101 : Int32)), (.int (110 : Int32)), (.int (32 : Int32)), (.int (nar .byte (i5.toInt8.toInt32))), (.int (32 : Int32)), (.int (97 : Int32)), (.int (110 : Int32)), (.int (100 : Int32)), (.int (32 : Int32)), (.int (0 : Int32))] (.int (0 : Int32)) := V35
  have N35 := Fr.snoc X35 N34 n_b4
  refine own_go (T' := T35) (f' := (mkF m 12 #[oR b38, oI 23, oR b4, oI 23, oI 24, oI 23, oI 32] [vI 23, vR b38])) (fun _ k => st35 _ (own_e X35 tt 32 9 k rfl)) ?_
  refine own_go (T' := T35) (f' := (mkF m 20 #[oR b38, oI 23, oR b4, oI 23, oI 24, oI 23, .val (.int i6)] [vI 255, (.int i6)])) (fun _ k => own_ldC X35 hx hZ e35 (((G32.other W33 ne_b38_b4).other W34 ne_b38_b4).other W35 ne_b38_b4) (j := (23 : Int32)) (x := i6) ⟨by decide, by decide⟩ rfl rfl rfl (hb hby d40_12) (own_e X35 tt 13 3 k rfl)) ?_
  refine own_go (T' := T35) (f' := (mkF m 31 #[oR b38, oI 23, oR b4, oI 23, oI 24, oI 23, .val (.int i6)] [(.int (i6.toInt8.toInt32)), vI 23, vR b4])) (fun _ k => XS.icmpYes X35.here hx rfl (pc0 := 20) (pc' := 26) rfl (hb hby d40_20) rfl (flt PP3).2.2.2 (by decide) (by decide) (own_e X35 tt 26 4 k rfl)) ?_
  obtain ⟨T36, h36, X36, e36, W36, V36, st36⟩ := own_stB X35 hx hZ e35 V35s (j := (23 : Int32)) ⟨by decide, by decide⟩ 23 rfl (Nat.le_of_ble_eq_true rfl) (g := (mkF m 31 #[oR b38, oI 23, oR b4, oI 23, oI 24, oI 23, .val (.int i6)] [(.int (i6.toInt8.toInt32)), vI 23, vR b4])) rfl rfl (hb hby d40_31)
  have K36 : Keep h0 h36 [b4] := K35.wr W36 (Or.inl (List.mem_of_getElem? (i := 0) rfl))
  have V36s : Arv Z h36 b4 k4 .byte (24 : Int32) [(.int (101 : Int32)), (.int (120 : Int32)), (.int (112 : Int32)), (.int (101 : Int32)), (.int (99 : Int32)), (.int (116 : Int32)), (.int (101 : Int32)), (.int (100 : Int32)), (.int (32 : Int32)), (.int (98 : Int32)), (.int (101 : Int32)), (.int (116 : Int32)), (.int (119 : Int32)), (.int (101 : Int32)), (.int (101 : Int32)), (.int (110 : Int32)), (.int (32 : Int32)), (.int (nar .byte (i5.toInt8.toInt32))), (.int (32 : Int32)), (.int (97 : Int32)), (.int (110 : Int32)), (.int (100 : Int32)), (.int (32 : Int32)), (.int (nar .byte (i6.toInt8.toInt32)))] (.int (0 : Int32)) := V36
  have N36 := Fr.snoc X36 N35 n_b4
  refine own_go (T' := T36) (f' := (mkF m 46 #[oR b38, oI 24, oR b4, oI 24, oI 24, oI 24, .val (.int i6)] [vI 24])) (fun _ k => st36 _ (own_e X36 tt 32 8 k rfl)) ?_
  refine own_ret X36 (v := some (.int (24 : Int32))) (oN Br) Bs (fun fs hr => retI X36 hx Br (hb hby d40_46) hr) ?_ (by decide) (by decide)
  unfold Q40a237
  rw [e36]
  exact ⟨rfl, N36, K36, V36s⟩
theorem pd34 : parseMethodDescriptor "([CI[BII)I" = some ⟨[(.array .char), .int, (.array .byte), .int, .int], some .int⟩ := by decide +kernel
def own_t39 (pc : Nat) : Option (Instr × Nat) := bif Nat.ble pc 7 then (bif Nat.ble pc 4 then (bif Nat.ble pc 0 then (bif Nat.beq pc 0 then some (.iload_n 2, 1) else none) else (bif Nat.ble pc 3 then (bif Nat.beq pc 3 then some (.astore_n 3, 1) else none) else (bif Nat.beq pc 4 then some (.aload_n 0, 1) else none))) else (bif Nat.ble pc 5 then (bif Nat.beq pc 5 then some (.iload_n 1, 1) else none) else (bif Nat.ble pc 6 then (bif Nat.beq pc 6 then some (.aload_n 3, 1) else none) else (bif Nat.beq pc 7 then some (.iconst 0, 1) else none)))) else (bif Nat.ble pc 14 then (bif Nat.ble pc 8 then (bif Nat.beq pc 8 then some (.iload_n 2, 1) else none) else (bif Nat.ble pc 12 then (bif Nat.beq pc 12 then some (.istore 4, 2) else none) else (bif Nat.beq pc 14 then some (.iload 4, 2) else none))) else (bif Nat.ble pc 16 then (bif Nat.beq pc 16 then some (.iload_n 2, 1) else none) else (bif Nat.ble pc 17 then (bif Nat.beq pc 17 then some (.if_icmp .eq 40, 3) else none) else (bif Nat.beq pc 57 then some (.aload_n 3, 1) else none))))
theorem own_ok39 : ∀ pc q, own_fetch 59 own_t39 pc = some q → decode jdk_52_method_16_code pc = .ok q := own_tab (by decide +kernel)
theorem d39_1 : decode jdk_52_method_16_code 1 = .ok (.newarray .byte, 2) := by decide +kernel
theorem d39_9 : decode jdk_52_method_16_code 9 = .ok (.invokestatic 115, 3) := by decide +kernel
theorem d39_58 : decode jdk_52_method_16_code 58 = .ok (.areturn, 1) := by decide +kernel
def Q39a236 (Z : State) (i3 : Int32) (i4 : Int32) (h0 : Heap) (n0 : Nat) (v : Option Value) (h : Heap) (L : List Loc) : Prop := ∃ (b5 : Addr) (k5 : ClassId), v = some (.ref b5) ∧ Fr n0 L ∧ Keep h0 h [] ∧ n0 ≤ b5 ∧ h0.size ≤ b5 ∧ Arv Z h b5 k5 .byte (24 : Int32) [(.int (101 : Int32)), (.int (120 : Int32)), (.int (112 : Int32)), (.int (101 : Int32)), (.int (99 : Int32)), (.int (116 : Int32)), (.int (101 : Int32)), (.int (100 : Int32)), (.int (32 : Int32)), (.int (98 : Int32)), (.int (101 : Int32)), (.int (116 : Int32)), (.int (119 : Int32)), (.int (101 : Int32)), (.int (101 : Int32)), (.int (110 : Int32)), (.int (32 : Int32)), (.int (nar .byte (i3.toInt8.toInt32))), (.int (32 : Int32)), (.int (97 : Int32)), (.int (110 : Int32)), (.int (100 : Int32)), (.int (32 : Int32)), (.int (nar .byte (i4.toInt8.toInt32)))] (.int (0 : Int32)) ∧ Exa Z h b5 "[B"
set_option maxRecDepth 65536 in
set_option maxHeartbeats 40000000 in
theorem rm39a236 (l : Launch) (Z : State) (a0 : Array Value) (hw : HW a0 Z) (ws : List Jvm.Cond) (b38 : Addr) (k38 : ClassId) (i4 : Int32) (i5 : Int32) (h0 : Heap) (n0 : Nat) (Z0 : n0 ≤ h0.size) (PV13 : Arv Z h0 b38 k38 .char (24 : Int32) [(.int (101 : Int32)), (.int (120 : Int32)), (.int (112 : Int32)), (.int (101 : Int32)), (.int (99 : Int32)), (.int (116 : Int32)), (.int (101 : Int32)), (.int (100 : Int32)), (.int (32 : Int32)), (.int (98 : Int32)), (.int (101 : Int32)), (.int (116 : Int32)), (.int (119 : Int32)), (.int (101 : Int32)), (.int (101 : Int32)), (.int (110 : Int32)), (.int (32 : Int32)), (.int i4), (.int (32 : Int32)), (.int (97 : Int32)), (.int (110 : Int32)), (.int (100 : Int32)), (.int (32 : Int32)), (.int i5)] (.int (0 : Int32))) (PP2 : ¬ ((255 : Int32) < i4)) (PP3 : ¬ ((255 : Int32) < i5)) :
    own_Met l mn36 jdk_52_method_16_code 6 (some (.array .byte)) ws (oRm 1 1 24 18) #[(.ref b38), (.int (0 : Int32)), (.int (24 : Int32))] Z h0 (Q39a236 Z i4 i5 h0 n0) := by
  refine own_met (own := "java/lang/StringUTF16") rfl (plainFor_of_name pn_10) ?_
  intro p e s m below meth c s₁ hx hby hml hZ hown hnm X0 e0 Br Bs
  have N0 := Fr.nil n0
  have tt := own_tt hx hby own_ok39
  show own_Ends p e below s _ _ _ s₁ (mkF m 0 #[oR b38, oI 0, oI 24, oU, oU, oU] [])
  refine own_go (T' := s₁) (f' := (mkF m 1 #[oR b38, oI 0, oI 24, oU, oU, oU] [vI 24])) (fun _ k => own_e X0 tt 0 1 k rfl) ?_
  obtain ⟨T6, h6, k6, X6, e6, E6, A6, EA6, st6⟩ := newPE (aty := .byte) X0 hx hZ (ow32 hw) e0 (g := (mkF m 1 #[oR b38, oI 0, oI 24, oU, oU, oU] [vI 24])) rfl (hb hby d39_1) rfl (by decide) (cap := 24) (by decide) (by decide) (by decide) (by decide) (ad := "[B") (by decide +kernel)
  obtain ⟨b6, g_b6⟩ : ∃ z, z = h0.size := ⟨_, rfl⟩
  have sg_b6 : h0.size ≤ b6 := Nat.le_of_eq g_b6.symm
  rw [← g_b6] at A6 EA6 st6
  have n_b6 := oT Z0 sg_b6
  have sz_b6 := oT (Keep.refl h0 []).1 sg_b6
  have K6 : Keep h0 h6 [] := (Keep.refl h0 []).ext E6
  have V_b6 : Arv Z h6 b6 k6 .byte (24 : Int32) own_ls5 (.int (0 : Int32)) := (Arv.new A6 (by decide)).pad (pad_rep [] (.int (0 : Int32)) 24)
  refine own_go (T' := T6) (f' := (mkF m 9 #[oR b38, oI 0, oI 24, oR b6, oU, oU] [vI 24, vI 0, vR b6, vI 0, vR b38])) (fun _ k => st6 _ (own_e X6 tt 3 6 k rfl)) ?_
  obtain ⟨_, T7, Lc7, X7, hQ7, st7⟩ := own_outC (Jvm.LawKit.callS X6 hx (y := mn35) hown (mvT hZ (ow213 hw)) (mvT hZ (ow214 hw)) (mvT hZ (ow211 hw)) (mvT hZ (ow215 hw)) (by decide) (backOf (W := 0) (rm40a237 l Z a0 hw [] b38 b6 k38 i4 i5 k6 h6 n0 (oT Z0 E6.1) (PV13.ext E6) V_b6 PP2 PP3 (oL PV13.lt sz_b6) n_b6) hZ (ow215 hw) (ow211 hw) (by decide) (by decide)) (g := (mkF m 9 #[oR b38, oI 0, oI 24, oR b6, oU, oU] [vI 24, vI 0, vR b6, vI 0, vR b38])) rfl (by rw [hml]; rfl) (argsL := [(.ref b38), (.int (0 : Int32)), (.ref b6), (.int (0 : Int32)), (.int (24 : Int32))]) (rest := []) (lenOf pd34 rfl) rfl (by show 2 * 0 + _ ≤ _; exact Nat.le_of_eq rfl) (hb hby d39_9) (fun _ _ => ⟨rfl, e6, (by decide : 1 + 0 ≤ _), (by decide : 24 + 0 ≤ _)⟩))
  obtain ⟨rfl, N7q, K7, g7_0⟩ := hQ7
  have N7 := Fr.app N0 N7q
  have eK7 : T7.heap = T7.heap := rfl
  have KK7 : Keep h0 T7.heap [] := Keep.trans K6 K7 (allS (Or.inr sz_b6) all0)
  obtain ⟨_, X7, N7⟩ := own_hide X7 N7
  refine own_go (T' := T7) (f' := (mkF m 58 #[oR b38, oI 0, oI 24, oR b6, oI 24, oU] [vR b6])) (fun _ k => st7 _ (own_e X7 tt 12 5 k rfl)) ?_
  refine own_ret X7 (v := some (.ref b6)) (oN Br) Bs (fun fs hr => own_retA X7 hx Br rfl rfl (hb hby d39_58) hr) ?_ (by decide) (by decide)
  unfold Q39a236
  rw [eK7]
  exact ⟨b6, k6, rfl, N7, KK7, n_b6, sz_b6, g7_0, (EA6.keep K7)⟩
theorem pd32 : parseMethodDescriptor "([CII)[B" = some ⟨[(.array .char), .int, .int], some (.array .byte)⟩ := by decide +kernel
def own_t41 (pc : Nat) : Option (Instr × Nat) := bif Nat.ble pc 3 then (bif Nat.ble pc 0 then (bif Nat.beq pc 0 then some (.iload_n 1, 1) else none) else (bif Nat.ble pc 1 then (bif Nat.beq pc 1 then some (.aload_n 0, 1) else none) else (bif Nat.beq pc 3 then some (.isub, 1) else none))) else (bif Nat.ble pc 4 then (bif Nat.beq pc 4 then some (.bipush 31, 2) else none) else (bif Nat.ble pc 6 then (bif Nat.beq pc 6 then some (.iushr, 1) else none) else (bif Nat.beq pc 7 then some (.i2b, 1) else none)))
theorem own_ok41 : ∀ pc q, own_fetch 9 own_t41 pc = some q → decode jdk_52_method_15_code pc = .ok q := own_tab (by decide +kernel)
theorem d41_2 : decode jdk_52_method_15_code 2 = .ok (.arraylength, 1) := by decide +kernel
theorem d41_8 : decode jdk_52_method_15_code 8 = .ok (.ireturn, 1) := by decide +kernel
def Q41a238 (Z : State)  (h0 : Heap) (n0 : Nat) (v : Option Value) (h : Heap) (L : List Loc) : Prop := v = some (.int (0 : Int32)) ∧ Fr n0 L ∧ h = h0
set_option maxRecDepth 65536 in
set_option maxHeartbeats 40000000 in
theorem rm41a238 (l : Launch) (Z : State) (a0 : Array Value) (hw : HW a0 Z) (ws : List Jvm.Cond) (b3a : Addr) (k3b : ClassId) (i4 : Int32) (i5 : Int32) (h0 : Heap) (n0 : Nat) (Z0 : n0 ≤ h0.size) (PV18 : Arv Z h0 b3a k3b .byte (24 : Int32) [(.int (101 : Int32)), (.int (120 : Int32)), (.int (112 : Int32)), (.int (101 : Int32)), (.int (99 : Int32)), (.int (116 : Int32)), (.int (101 : Int32)), (.int (100 : Int32)), (.int (32 : Int32)), (.int (98 : Int32)), (.int (101 : Int32)), (.int (116 : Int32)), (.int (119 : Int32)), (.int (101 : Int32)), (.int (101 : Int32)), (.int (110 : Int32)), (.int (32 : Int32)), (.int i4), (.int (32 : Int32)), (.int (97 : Int32)), (.int (110 : Int32)), (.int (100 : Int32)), (.int (32 : Int32)), (.int i5)] (.int (0 : Int32))) :
    own_Met l mn37 jdk_52_method_15_code 2 (some .byte) ws (oRm 0 0 0 0) #[(.ref b3a), (.int (24 : Int32))] Z h0 (Q41a238 Z  h0 n0) := by
  refine own_met (own := "java/lang/StringUTF16") rfl (plainFor_of_name pn_10) ?_
  intro p e s m below meth c s₁ hx hby hml hZ hown hnm X0 e0 Br Bs
  have N0 := Fr.nil n0
  have tt := own_tt hx hby own_ok41
  show own_Ends p e below s _ _ _ s₁ (mkF m 0 #[oR b3a, oI 24] [])
  refine own_go (T' := s₁) (f' := (mkF m 2 #[oR b3a, oI 24] [vR b3a, vI 24])) (fun _ k => own_e X0 tt 0 2 k rfl) ?_
  refine own_go (T' := s₁) (f' := (mkF m 8 #[oR b3a, oI 24] [vI 0])) (fun _ k => own_alen X0 hx hZ e0 PV18 rfl rfl (hb hby d41_2) (own_e X0 tt 3 4 k rfl)) ?_
  refine own_ret X0 (v := some (.int (nar .byte (0 : Int32)))) (oN Br) Bs (fun fs hr => retN X0 hx (t := .byte) Br (by simp) (hb hby d41_8) hr) ?_ (by decide) (by decide)
  unfold Q41a238
  exact ⟨rfl, N0, e0⟩
theorem pd26 : parseMethodDescriptor "([BI)B" = some ⟨[(.array .byte), .int], some .byte⟩ := by decide +kernel
def own_t38 (pc : Nat) : Option (Instr × Nat) := bif Nat.ble pc 34 then (bif Nat.ble pc 5 then (bif Nat.ble pc 0 then (bif Nat.beq pc 0 then some (.aload_n 0, 1) else none) else (bif Nat.ble pc 4 then (bif Nat.beq pc 4 then some (.iload_n 3, 1) else none) else (bif Nat.beq pc 5 then some (.ifCond .ne 22, 3) else none))) else (bif Nat.ble pc 30 then (bif Nat.beq pc 30 then some (.ifCond .eq 28, 3) else none) else (bif Nat.ble pc 33 then (bif Nat.beq pc 33 then some (.aload_n 1, 1) else none) else (bif Nat.beq pc 34 then some (.iload_n 2, 1) else none)))) else (bif Nat.ble pc 41 then (bif Nat.ble pc 35 then (bif Nat.beq pc 35 then some (.iload_n 3, 1) else none) else (bif Nat.ble pc 39 then (bif Nat.beq pc 39 then some (.astore 5, 2) else none) else (bif Nat.beq pc 41 then some (.aload_n 0, 1) else none))) else (bif Nat.ble pc 44 then (bif Nat.ble pc 42 then (bif Nat.beq pc 42 then some (.aload 5, 2) else none) else (bif Nat.beq pc 44 then some (.iload_n 3, 1) else none)) else (bif Nat.ble pc 51 then (bif Nat.beq pc 51 then some (.aload_n 0, 1) else none) else (bif Nat.beq pc 52 then some (.aload 5, 2) else none))))
theorem own_ok38 : ∀ pc q, own_fetch 74 own_t38 pc = some q → decode jdk_42_method_149_code pc = .ok q := own_tab (by decide +kernel)
theorem d38_1 : decode jdk_42_method_149_code 1 = .ok (.invokespecial 1, 3) := by decide +kernel
theorem d38_27 : decode jdk_42_method_149_code 27 = .ok (.getstatic 38, 3) := by decide +kernel
theorem d38_30 : decode jdk_42_method_149_code 30 = .ok (.ifCond .eq 28, 3) := by decide +kernel
theorem d38_36 : decode jdk_42_method_149_code 36 = .ok (.invokestatic 177, 3) := by decide +kernel
theorem d38_45 : decode jdk_42_method_149_code 45 = .ok (.invokestatic 47, 3) := by decide +kernel
theorem d38_48 : decode jdk_42_method_149_code 48 = .ok (.putfield 15, 3) := by decide +kernel
theorem d38_54 : decode jdk_42_method_149_code 54 = .ok (.putfield 9, 3) := by decide +kernel
theorem d38_57 : decode jdk_42_method_149_code 57 = .ok (.return_, 1) := by decide +kernel
def Q38a235 (Z : State) (b63 : Addr) (i3 : Int32) (i4 : Int32) (h0 : Heap) (n0 : Nat) (v : Option Value) (h : Heap) (L : List Loc) : Prop := ∃ (b5a : Addr) (k5b : ClassId), v = none ∧ Fr n0 L ∧ Keep h0 h [b63] ∧ n0 ≤ b5a ∧ h0.size ≤ b5a ∧ oF4 Z h b63 (.ref b5a) ∧ oF3 Z h b63 (.int (0 : Int32)) ∧ Arv Z h b5a k5b .byte (24 : Int32) [(.int (101 : Int32)), (.int (120 : Int32)), (.int (112 : Int32)), (.int (101 : Int32)), (.int (99 : Int32)), (.int (116 : Int32)), (.int (101 : Int32)), (.int (100 : Int32)), (.int (32 : Int32)), (.int (98 : Int32)), (.int (101 : Int32)), (.int (116 : Int32)), (.int (119 : Int32)), (.int (101 : Int32)), (.int (101 : Int32)), (.int (110 : Int32)), (.int (32 : Int32)), (.int (nar .byte (i3.toInt8.toInt32))), (.int (32 : Int32)), (.int (97 : Int32)), (.int (110 : Int32)), (.int (100 : Int32)), (.int (32 : Int32)), (.int (nar .byte (i4.toInt8.toInt32)))] (.int (0 : Int32)) ∧ Exa Z h b5a "[B"
set_option maxRecDepth 65536 in
set_option maxHeartbeats 40000000 in
theorem rm38a235 (l : Launch) (Z : State) (a0 : Array Value) (hw : HW a0 Z) (ws : List Jvm.Cond) (b63 : Addr) (b38 : Addr) (cs : Int32) (k38 : ClassId) (i4 : Int32) (i5 : Int32) (h0 : Heap) (n0 : Nat) (Z0 : n0 ≤ h0.size) (PS0 : Sta Z h0 "java/lang/String" "COMPACT_STRINGS" "Z" (.int cs)) (PV13 : Arv Z h0 b38 k38 .char (24 : Int32) [(.int (101 : Int32)), (.int (120 : Int32)), (.int (112 : Int32)), (.int (101 : Int32)), (.int (99 : Int32)), (.int (116 : Int32)), (.int (101 : Int32)), (.int (100 : Int32)), (.int (32 : Int32)), (.int (98 : Int32)), (.int (101 : Int32)), (.int (116 : Int32)), (.int (119 : Int32)), (.int (101 : Int32)), (.int (101 : Int32)), (.int (110 : Int32)), (.int (32 : Int32)), (.int i4), (.int (32 : Int32)), (.int (97 : Int32)), (.int (110 : Int32)), (.int (100 : Int32)), (.int (32 : Int32)), (.int i5)] (.int (0 : Int32))) (PE15 : Exa Z h0 b63 "java/lang/String") (PF16 : oF4 Z h0 b63 .null) (PF17 : oF3 Z h0 b63 (.int (0 : Int32))) (PP0 : ¬ (cs = (0 : Int32))) (PP2 : ¬ ((255 : Int32) < i4)) (PP3 : ¬ ((255 : Int32) < i5)) (n_b63 : n0 ≤ b63) :
    own_Met l mn38 jdk_42_method_149_code 6 none ws (oRm 2 1 24 35) #[(.ref b63), (.ref b38), (.int (0 : Int32)), (.int (24 : Int32)), .null] Z h0 (Q38a235 Z b63 i4 i5 h0 n0) := by
  refine own_met (own := "java/lang/String") rfl (plainFor_of_name pn_7) ?_
  intro p e s m below meth c s₁ hx hby hml hZ hown hnm X0 e0 Br Bs
  have N0 := Fr.nil n0
  have tt := own_tt hx hby own_ok38
  show own_Ends p e below s _ _ _ s₁ (mkF m 0 #[oR b63, oR b38, oI 0, oI 24, .val .null, oU] [])
  refine own_go (T' := s₁) (f' := (mkF m 1 #[oR b63, oR b38, oI 0, oI 24, .val .null, oU] [vR b63])) (fun _ k => own_e X0 tt 0 1 k rfl) ?_
  obtain ⟨T6, X6, e6, st6⟩ := initO X0 hx hZ hown (ow147 hw) (ow28 hw) (ow29 hw) e0 (g := (mkF m 1 #[oR b63, oR b38, oI 0, oI 24, .val .null, oU] [vR b63])) rfl (by rw [hml]; rfl) rfl (hb hby d38_1) (by decide) (W := 0) (by show 2 * 0 + _ ≤ _; exact Nat.le_of_eq rfl) (by decide)
  refine own_go (T' := T6) (f' := (mkF m 27 #[oR b63, oR b38, oI 0, oI 24, .val .null, oU] [])) (fun _ k => st6 _ (own_e X6 tt 4 2 k rfl)) ?_
  obtain ⟨T7, X7, e7, st7⟩ := getS2 X6 hx hZ hown (host := "") (Or.inl (ow64 hw)) Via.refl e6 PS0 (g := (mkF m 27 #[oR b63, oR b38, oI 0, oI 24, .val .null, oU] [])) rfl (hb hby d38_27)
  refine own_go (T' := T7) (f' := (mkF m 36 #[oR b63, oR b38, oI 0, oI 24, .val .null, oU] [vI 24, vI 0, vR b38])) (fun _ k => st7 _ (XS.ifNo X7.here hx rfl (hb hby d38_30) rfl ((if0 _ _).trans (feq PP0).1) (own_e X7 tt 33 3 k rfl))) ?_
  obtain ⟨_, T8, Lc8, X8, hQ8, st8⟩ := own_outC (Jvm.LawKit.callS X7 hx (y := mn36) hown (mvT hZ (ow209 hw)) (mvT hZ (ow210 hw)) (mvT hZ (ow211 hw)) (mvT hZ (ow212 hw)) (by decide) (backOf (W := 0) (rm39a236 l Z a0 hw [] b38 k38 i4 i5 h0 n0 Z0 PV13 PP2 PP3) hZ (ow212 hw) (ow211 hw) (by decide) (by decide)) (g := (mkF m 36 #[oR b63, oR b38, oI 0, oI 24, .val .null, oU] [vI 24, vI 0, vR b38])) rfl (by rw [hml]; rfl) (argsL := [(.ref b38), (.int (0 : Int32)), (.int (24 : Int32))]) (rest := []) (lenOf pd32 rfl) rfl (by show 2 * 0 + _ ≤ _; exact Nat.le_of_eq rfl) (hb hby d38_36) (fun _ _ => ⟨rfl, e7, (by decide : 0 + 1 ≤ _), (by decide : 0 + 24 ≤ _)⟩))
  obtain ⟨b8a, k8b, rfl, N8q, K8, n_b8a, sg_b8a, g8_0, g8_1⟩ := hQ8
  have N8 := Fr.app N0 N8q
  have sz_b8a := oT (Keep.refl h0 [b63]).1 sg_b8a
  have eK8 : T8.heap = T8.heap := rfl
  have KK8 : Keep h0 T8.heap [b63] := Keep.trans (Keep.refl h0 [b63]) K8 all0
  obtain ⟨_, X8, N8⟩ := own_hide X8 N8
  refine own_go (T' := T8) (f' := (mkF m 45 #[oR b63, oR b38, oI 0, oI 24, .val .null, oR b8a] [vI 24, vR b8a, vR b63])) (fun _ k => st8 _ (own_e X8 tt 39 4 k rfl)) ?_
  obtain ⟨_, T9, Lc9, X9, hQ9, st9⟩ := own_outC (Jvm.LawKit.callS X8 hx (y := mn37) hown (mvT hZ (ow216 hw)) (mvT hZ (ow217 hw)) (mvT hZ (ow211 hw)) (mvT hZ (ow218 hw)) (by decide) (backOf (W := 1) (rm41a238 l Z a0 hw [] b8a k8b (nar .byte (i4.toInt8.toInt32)) (nar .byte (i5.toInt8.toInt32)) T8.heap n0 (oT Z0 K8.1) g8_0) hZ (ow218 hw) (ow211 hw) (by decide) (by decide)) (g := (mkF m 45 #[oR b63, oR b38, oI 0, oI 24, .val .null, oR b8a] [vI 24, vR b8a, vR b63])) rfl (by rw [hml]; rfl) (argsL := [(.ref b8a), (.int (24 : Int32))]) (rest := [(.ref b63)]) (lenOf pd26 rfl) rfl (by show 2 * 0 + _ ≤ _; exact Nat.le_of_eq rfl) (hb hby d38_45) (fun _ _ => ⟨rfl, eK8, (by decide : 1 + 0 ≤ _), (by decide : 24 + 0 ≤ _)⟩))
  obtain ⟨rfl, N9q, hh9⟩ := hQ9
  have N9 := Fr.app N8 N9q
  obtain ⟨_, X9, N9⟩ := own_hide X9 N9
  refine own_go (T' := T9) (f' := (mkF m 48 #[oR b63, oR b38, oI 0, oI 24, .val .null, oR b8a] [vI 0, vR b63])) (fun _ k => st9 _ k) ?_
  obtain ⟨T10, h10, X10, e10, W10, st10⟩ := putFN X9 hx hZ hown (ow65 hw) Via.refl hh9 (PF17.keep K8 nin0) (PE15.keep K8) (Or.inr ⟨(ow40 hw), rfl, hnm⟩) (ow38 hw) (ty := .byte) (v' := (.int (0 : Int32))) (by decide) rfl (fits_nar_byte (0 : Int32)) (g := (mkF m 48 #[oR b63, oR b38, oI 0, oI 24, .val .null, oR b8a] [vI 0, vR b63])) rfl rfl (hb hby d38_48)
  have Fw10 := Fld.same W10 (PF17.keep K8 nin0)
  have K10 : Keep h0 h10 [b63] := KK8.wr W10 (Or.inl (List.mem_of_getElem? (i := 0) rfl))
  have N10 := Fr.snoc X10 N9 n_b63
  refine own_go (T' := T10) (f' := (mkF m 54 #[oR b63, oR b38, oI 0, oI 24, .val .null, oR b8a] [vR b8a, vR b63])) (fun _ k => st10 _ (own_e X10 tt 51 2 k rfl)) ?_
  obtain ⟨T11, h11, X11, e11, W11, st11⟩ := putF X10 hx hZ hown (host := "") (Or.inl (ow58 hw)) Via.refl e10 ((PF16.keep K8 nin0).other W10 (Or.inr (sn_39_40 hw))) ((PE15.keep K8).wr W10) (Or.inr ⟨(ow39 hw), rfl, hnm⟩) (ow38 hw) (ty := (.array .byte)) (by decide) rfl rfl (g := (mkF m 54 #[oR b63, oR b38, oI 0, oI 24, .val .null, oR b8a] [vR b8a, vR b63])) rfl rfl (hb hby d38_54)
  have Fw11 := Fld.same W11 ((PF16.keep K8 nin0).other W10 (Or.inr (sn_39_40 hw)))
  have K11 : Keep h0 h11 [b63] := K10.wr W11 (Or.inl (List.mem_of_getElem? (i := 0) rfl))
  have N11 := Fr.snoc X11 N10 n_b63
  refine own_go (T' := T11) (f' := (mkF m 57 #[oR b63, oR b38, oI 0, oI 24, .val .null, oR b8a] [])) (fun _ k => st11 _ k) ?_
  refine own_ret X11 (v := none) (fun _ => rfl) Bs (fun fs hr => X11.returnOut hx Br (hb hby d38_57) hr) ?_ (by decide) (by decide)
  unfold Q38a235
  rw [e11]
  exact ⟨b8a, k8b, rfl, N11, K11, n_b8a, sz_b8a, Fw11, (Fw10.other W11 (Or.inr (sn_40_39 hw))), ((g8_0.other W10 (oM PE15.lt sz_b8a)).other W11 (oM PE15.lt sz_b8a)), ((g8_1.wr W10).wr W11)⟩
theorem pd33 : parseMethodDescriptor "([CIILjava/lang/Void;)V" = some ⟨[(.array .char), .int, .int, (.object "java/lang/Void")], none⟩ := by decide +kernel
def own_t37 (pc : Nat) : Option (Instr × Nat) := bif Nat.ble pc 1 then (bif Nat.ble pc 0 then (bif Nat.beq pc 0 then some (.aload_n 0, 1) else none) else (bif Nat.beq pc 1 then some (.aload_n 1, 1) else none)) else (bif Nat.ble pc 2 then (bif Nat.beq pc 2 then some (.iconst 0, 1) else none) else (bif Nat.ble pc 3 then (bif Nat.beq pc 3 then some (.aload_n 1, 1) else none) else (bif Nat.beq pc 5 then some (.aconst_null, 1) else none)))
theorem own_ok37 : ∀ pc q, own_fetch 10 own_t37 pc = some q → decode jdk_42_method_3_code pc = .ok q := own_tab (by decide +kernel)
theorem d37_4 : decode jdk_42_method_3_code 4 = .ok (.arraylength, 1) := by decide +kernel
theorem d37_6 : decode jdk_42_method_3_code 6 = .ok (.invokespecial 27, 3) := by decide +kernel
theorem d37_9 : decode jdk_42_method_3_code 9 = .ok (.return_, 1) := by decide +kernel
def Q37a234 (Z : State) (b63 : Addr) (i3 : Int32) (i4 : Int32) (h0 : Heap) (n0 : Nat) (v : Option Value) (h : Heap) (L : List Loc) : Prop := ∃ (b5a : Addr) (k5b : ClassId), v = none ∧ Fr n0 L ∧ Keep h0 h [b63] ∧ n0 ≤ b5a ∧ h0.size ≤ b5a ∧ oF4 Z h b63 (.ref b5a) ∧ oF3 Z h b63 (.int (0 : Int32)) ∧ Arv Z h b5a k5b .byte (24 : Int32) [(.int (101 : Int32)), (.int (120 : Int32)), (.int (112 : Int32)), (.int (101 : Int32)), (.int (99 : Int32)), (.int (116 : Int32)), (.int (101 : Int32)), (.int (100 : Int32)), (.int (32 : Int32)), (.int (98 : Int32)), (.int (101 : Int32)), (.int (116 : Int32)), (.int (119 : Int32)), (.int (101 : Int32)), (.int (101 : Int32)), (.int (110 : Int32)), (.int (32 : Int32)), (.int (nar .byte (i3.toInt8.toInt32))), (.int (32 : Int32)), (.int (97 : Int32)), (.int (110 : Int32)), (.int (100 : Int32)), (.int (32 : Int32)), (.int (nar .byte (i4.toInt8.toInt32)))] (.int (0 : Int32)) ∧ Exa Z h b5a "[B"
set_option maxRecDepth 65536 in
set_option maxHeartbeats 40000000 in
theorem rm37a234 (l : Launch) (Z : State) (a0 : Array Value) (hw : HW a0 Z) (ws : List Jvm.Cond) (b63 : Addr) (b38 : Addr) (cs : Int32) (k38 : ClassId) (i4 : Int32) (i5 : Int32) (h0 : Heap) (n0 : Nat) (Z0 : n0 ≤ h0.size) (PS0 : Sta Z h0 "java/lang/String" "COMPACT_STRINGS" "Z" (.int cs)) (PV13 : Arv Z h0 b38 k38 .char (24 : Int32) [(.int (101 : Int32)), (.int (120 : Int32)), (.int (112 : Int32)), (.int (101 : Int32)), (.int (99 : Int32)), (.int (116 : Int32)), (.int (101 : Int32)), (.int (100 : Int32)), (.int (32 : Int32)), (.int (98 : Int32)), (.int (101 : Int32)), (.int (116 : Int32)), (.int (119 : Int32)), (.int (101 : Int32)), (.int (101 : Int32)), (.int (110 : Int32)), (.int (32 : Int32)), (.int i4), (.int (32 : Int32)), (.int (97 : Int32)), (.int (110 : Int32)), (.int (100 : Int32)), (.int (32 : Int32)), (.int i5)] (.int (0 : Int32))) (PE15 : Exa Z h0 b63 "java/lang/String") (PF16 : oF4 Z h0 b63 .null) (PF17 : oF3 Z h0 b63 (.int (0 : Int32))) (PP0 : ¬ (cs = (0 : Int32))) (PP2 : ¬ ((255 : Int32) < i4)) (PP3 : ¬ ((255 : Int32) < i5)) (n_b63 : n0 ≤ b63) :
    own_Met l mn39 jdk_42_method_3_code 2 none ws (oRm 3 1 24 52) #[(.ref b63), (.ref b38)] Z h0 (Q37a234 Z b63 i4 i5 h0 n0) := by
  refine own_met (own := "java/lang/String") rfl (plainFor_of_name pn_7) ?_
  intro p e s m below meth c s₁ hx hby hml hZ hown hnm X0 e0 Br Bs
  have N0 := Fr.nil n0
  have tt := own_tt hx hby own_ok37
  show own_Ends p e below s _ _ _ s₁ (mkF m 0 #[oR b63, oR b38] [])
  refine own_go (T' := s₁) (f' := (mkF m 4 #[oR b63, oR b38] [vR b38, vI 0, vR b38, vR b63])) (fun _ k => own_e X0 tt 0 4 k rfl) ?_
  refine own_go (T' := s₁) (f' := (mkF m 6 #[oR b63, oR b38] [.null, vI 24, vI 0, vR b38, vR b63])) (fun _ k => own_alen X0 hx hZ e0 PV13 rfl rfl (hb hby d37_4) (own_e X0 tt 5 1 k rfl)) ?_
  obtain ⟨_, T6, Lc6, X6, hQ6, st6⟩ := own_out (X0.specialBack hx (y := mn38) rfl hown (mvT hZ (ow206 hw)) (mvT hZ (ow207 hw)) (mvT hZ (ow208 hw)) (by decide) (backOf (W := 0) (rm38a235 l Z a0 hw [] b63 b38 cs k38 i4 i5 h0 n0 Z0 PS0 PV13 PE15 PF16 PF17 PP0 PP2 PP3 n_b63) hZ (ow208 hw) (ow31 hw) (by decide) (by decide)) (g := (mkF m 6 #[oR b63, oR b38] [.null, vI 24, vI 0, vR b38, vR b63])) rfl (by rw [hml]; rfl) (Steps.refl _) (a := b63) (argsL := [(.ref b38), (.int (0 : Int32)), (.int (24 : Int32)), .null]) (rest := []) (lenOf pd33 rfl) rfl (by show 2 * 0 + _ ≤ _; exact Nat.le_of_eq rfl) (hb hby d37_6) (fun _ _ => ⟨rfl, e0, (by decide : 0 + 1 ≤ _), (by decide : 0 + 24 ≤ _)⟩))
  obtain ⟨b6a, k6b, rfl, N6q, K6, n_b6a, sg_b6a, g6_0, g6_1, g6_2, g6_3⟩ := hQ6
  have N6 := Fr.app N0 N6q
  have sz_b6a := oT (Keep.refl h0 [b63]).1 sg_b6a
  have eK6 : T6.heap = T6.heap := rfl
  have KK6 : Keep h0 T6.heap [b63] := Keep.trans (Keep.refl h0 [b63]) K6 (allS (Or.inl (List.mem_of_getElem? (i := 0) rfl)) all0)
  obtain ⟨_, X6, N6⟩ := own_hide X6 N6
  refine own_go (T' := T6) (f' := (mkF m 9 #[oR b63, oR b38] [])) (fun _ k => st6.trans k) ?_
  refine own_ret X6 (v := none) (fun _ => rfl) Bs (fun fs hr => X6.returnOut hx Br (hb hby d37_9) hr) ?_ (by decide) (by decide)
  unfold Q37a234
  rw [eK6]
  exact ⟨b6a, k6b, rfl, N6, KK6, n_b6a, sz_b6a, g6_0, g6_1, g6_2, g6_3⟩
theorem pd31 : parseMethodDescriptor "([C)V" = some ⟨[(.array .char)], none⟩ := by decide +kernel
def own_t43 (pc : Nat) : Option (Instr × Nat) := bif Nat.ble pc 12 then (bif Nat.ble pc 7 then (bif Nat.ble pc 2 then (bif Nat.ble pc 0 then (bif Nat.beq pc 0 then some (.aload_n 0, 1) else none) else (bif Nat.beq pc 2 then some (.aload_n 1, 1) else none)) else (bif Nat.ble pc 4 then (bif Nat.beq pc 4 then some (.if_icmp .ne 30, 3) else none) else (bif Nat.beq pc 7 then some (.iconst 0, 1) else none))) else (bif Nat.ble pc 9 then (bif Nat.ble pc 8 then (bif Nat.beq pc 8 then some (.istore_n 2, 1) else none) else (bif Nat.beq pc 9 then some (.iload_n 2, 1) else none)) else (bif Nat.ble pc 10 then (bif Nat.beq pc 10 then some (.aload_n 0, 1) else none) else (bif Nat.beq pc 12 then some (.if_icmp .ge 20, 3) else none)))) else (bif Nat.ble pc 19 then (bif Nat.ble pc 16 then (bif Nat.ble pc 15 then (bif Nat.beq pc 15 then some (.aload_n 0, 1) else none) else (bif Nat.beq pc 16 then some (.iload_n 2, 1) else none)) else (bif Nat.ble pc 18 then (bif Nat.beq pc 18 then some (.aload_n 1, 1) else none) else (bif Nat.beq pc 19 then some (.iload_n 2, 1) else none))) else (bif Nat.ble pc 26 then (bif Nat.ble pc 21 then (bif Nat.beq pc 21 then some (.if_icmp .eq 5, 3) else none) else (bif Nat.beq pc 26 then some (.iinc 2 1, 3) else none)) else (bif Nat.ble pc 29 then (bif Nat.beq pc 29 then some (.goto (-20), 3) else none) else (bif Nat.beq pc 32 then some (.iconst 1, 1) else none))))
theorem own_ok43 : ∀ pc q, own_fetch 36 own_t43 pc = some q → decode jdk_43_method_13_code pc = .ok q := own_tab (by decide +kernel)
theorem d43_1 : decode jdk_43_method_13_code 1 = .ok (.arraylength, 1) := by decide +kernel
theorem d43_3 : decode jdk_43_method_13_code 3 = .ok (.arraylength, 1) := by decide +kernel
theorem d43_11 : decode jdk_43_method_13_code 11 = .ok (.arraylength, 1) := by decide +kernel
theorem d43_17 : decode jdk_43_method_13_code 17 = .ok (.baload, 1) := by decide +kernel
theorem d43_20 : decode jdk_43_method_13_code 20 = .ok (.baload, 1) := by decide +kernel
theorem d43_21 : decode jdk_43_method_13_code 21 = .ok (.if_icmp .eq 5, 3) := by decide +kernel
theorem d43_33 : decode jdk_43_method_13_code 33 = .ok (.ireturn, 1) := by decide +kernel
theorem pn_9 : plainName "java/lang/StringLatin1" = true := by first | (simp [plainName, overriddenIn]; done) | decide +kernel
def Q43a245 (Z : State)  (h0 : Heap) (n0 : Nat) (v : Option Value) (h : Heap) (L : List Loc) : Prop := v = some (.int (1 : Int32)) ∧ Fr n0 L ∧ h = h0
set_option maxRecDepth 65536 in
set_option maxHeartbeats 40000000 in
theorem rm43a245 (l : Launch) (Z : State) (a0 : Array Value) (hw : HW a0 Z) (ws : List Jvm.Cond) (b26 : Addr) (b3a : Addr) (k26 : ClassId) (i4 : Int32) (i7 : Int32) (k3b : ClassId) (i8 : Int32) (i9 : Int32) (h0 : Heap) (n0 : Nat) (Z0 : n0 ≤ h0.size) (PV12 : Arv Z h0 b26 k26 .byte (24 : Int32) [(.int (101 : Int32)), (.int (120 : Int32)), (.int (112 : Int32)), (.int (101 : Int32)), (.int (99 : Int32)), (.int (116 : Int32)), (.int (101 : Int32)), (.int (100 : Int32)), (.int (32 : Int32)), (.int (98 : Int32)), (.int (101 : Int32)), (.int (116 : Int32)), (.int (119 : Int32)), (.int (101 : Int32)), (.int (101 : Int32)), (.int (110 : Int32)), (.int (32 : Int32)), (.int i4), (.int (32 : Int32)), (.int (97 : Int32)), (.int (110 : Int32)), (.int (100 : Int32)), (.int (32 : Int32)), (.int i7)] (.int (0 : Int32))) (PV18 : Arv Z h0 b3a k3b .byte (24 : Int32) [(.int (101 : Int32)), (.int (120 : Int32)), (.int (112 : Int32)), (.int (101 : Int32)), (.int (99 : Int32)), (.int (116 : Int32)), (.int (101 : Int32)), (.int (100 : Int32)), (.int (32 : Int32)), (.int (98 : Int32)), (.int (101 : Int32)), (.int (116 : Int32)), (.int (119 : Int32)), (.int (101 : Int32)), (.int (101 : Int32)), (.int (110 : Int32)), (.int (32 : Int32)), (.int i8), (.int (32 : Int32)), (.int (97 : Int32)), (.int (110 : Int32)), (.int (100 : Int32)), (.int (32 : Int32)), (.int i9)] (.int (0 : Int32))) (PP5 : i4 = i8) (PP6 : i7 = i9) :
    own_Met l mn40 jdk_43_method_13_code 3 (some .boolean) ws (oRm 0 0 0 0) #[(.ref b26), (.ref b3a)] Z h0 (Q43a245 Z  h0 n0) := by
  refine own_met (own := "java/lang/StringLatin1") rfl (plainFor_of_name pn_9) ?_
  intro p e s m below meth c s₁ hx hby hml hZ hown hnm X0 e0 Br Bs
  have N0 := Fr.nil n0
  have tt := own_tt hx hby own_ok43
  show own_Ends p e below s _ _ _ s₁ (mkF m 0 #[oR b26, oR b3a, oU] [])
  refine own_go (T' := s₁) (f' := (mkF m 1 #[oR b26, oR b3a, oU] [vR b26])) (fun _ k => own_e X0 tt 0 1 k rfl) ?_
  refine own_go (T' := s₁) (f' := (mkF m 3 #[oR b26, oR b3a, oU] [vR b3a, vI 24])) (fun _ k => own_alen X0 hx hZ e0 PV12 rfl rfl (hb hby d43_1) (own_e X0 tt 2 1 k rfl)) ?_
  refine own_go (T' := s₁) (f' := (mkF m 11 #[oR b26, oR b3a, oI 0] [vR b26, vI 0])) (fun _ k => own_alen X0 hx hZ e0 PV18 rfl rfl (hb hby d43_3) (own_e X0 tt 4 5 k rfl)) ?_
  refine own_go (T' := s₁) (f' := (mkF m 17 #[oR b26, oR b3a, oI 0] [vI 0, vR b26])) (fun _ k => own_alen X0 hx hZ e0 PV12 rfl rfl (hb hby d43_11) (own_e X0 tt 12 3 k rfl)) ?_
  refine own_go (T' := s₁) (f' := (mkF m 20 #[oR b26, oR b3a, oI 0] [vI 0, vR b3a, vI 101])) (fun _ k => own_ldB X0 hx hZ e0 PV12 (j := (0 : Int32)) (x := (101 : Int32)) ⟨by decide, by decide⟩ rfl rfl rfl (hb hby d43_17) (own_e X0 tt 18 2 k rfl)) ?_
  refine own_go (T' := s₁) (f' := (mkF m 11 #[oR b26, oR b3a, oI 1] [vR b26, vI 1])) (fun _ k => own_ldB X0 hx hZ e0 PV18 (j := (0 : Int32)) (x := (101 : Int32)) ⟨by decide, by decide⟩ rfl rfl rfl (hb hby d43_20) (own_e X0 tt 21 5 k rfl)) ?_
  refine own_go (T' := s₁) (f' := (mkF m 17 #[oR b26, oR b3a, oI 1] [vI 1, vR b26])) (fun _ k => own_alen X0 hx hZ e0 PV12 rfl rfl (hb hby d43_11) (own_e X0 tt 12 3 k rfl)) ?_
  refine own_go (T' := s₁) (f' := (mkF m 20 #[oR b26, oR b3a, oI 1] [vI 1, vR b3a, vI 120])) (fun _ k => own_ldB X0 hx hZ e0 PV12 (j := (1 : Int32)) (x := (120 : Int32)) ⟨by decide, by decide⟩ rfl rfl rfl (hb hby d43_17) (own_e X0 tt 18 2 k rfl)) ?_
  refine own_go (T' := s₁) (f' := (mkF m 11 #[oR b26, oR b3a, oI 2] [vR b26, vI 2])) (fun _ k => own_ldB X0 hx hZ e0 PV18 (j := (1 : Int32)) (x := (120 : Int32)) ⟨by decide, by decide⟩ rfl rfl rfl (hb hby d43_20) (own_e X0 tt 21 5 k rfl)) ?_
  refine own_go (T' := s₁) (f' := (mkF m 17 #[oR b26, oR b3a, oI 2] [vI 2, vR b26])) (fun _ k => own_alen X0 hx hZ e0 PV12 rfl rfl (hb hby d43_11) (own_e X0 tt 12 3 k rfl)) ?_
  refine own_go (T' := s₁) (f' := (mkF m 20 #[oR b26, oR b3a, oI 2] [vI 2, vR b3a, vI 112])) (fun _ k => own_ldB X0 hx hZ e0 PV12 (j := (2 : Int32)) (x := (112 : Int32)) ⟨by decide, by decide⟩ rfl rfl rfl (hb hby d43_17) (own_e X0 tt 18 2 k rfl)) ?_
  refine own_go (T' := s₁) (f' := (mkF m 11 #[oR b26, oR b3a, oI 3] [vR b26, vI 3])) (fun _ k => own_ldB X0 hx hZ e0 PV18 (j := (2 : Int32)) (x := (112 : Int32)) ⟨by decide, by decide⟩ rfl rfl rfl (hb hby d43_20) (own_e X0 tt 21 5 k rfl)) ?_
  refine own_go (T' := s₁) (f' := (mkF m 17 #[oR b26, oR b3a, oI 3] [vI 3, vR b26])) (fun _ k => own_alen X0 hx hZ e0 PV12 rfl rfl (hb hby d43_11) (own_e X0 tt 12 3 k rfl)) ?_
  refine own_go (T' := s₁) (f' := (mkF m 20 #[oR b26, oR b3a, oI 3] [vI 3, vR b3a, vI 101])) (fun _ k => own_ldB X0 hx hZ e0 PV12 (j := (3 : Int32)) (x := (101 : Int32)) ⟨by decide, by decide⟩ rfl rfl rfl (hb hby d43_17) (own_e X0 tt 18 2 k rfl)) ?_
  refine own_go (T' := s₁) (f' := (mkF m 11 #[oR b26, oR b3a, oI 4] [vR b26, vI 4])) (fun _ k => own_ldB X0 hx hZ e0 PV18 (j := (3 : Int32)) (x := (101 : Int32)) ⟨by decide, by decide⟩ rfl rfl rfl (hb hby d43_20) (own_e X0 tt 21 5 k rfl)) ?_
  refine own_go (T' := s₁) (f' := (mkF m 17 #[oR b26, oR b3a, oI 4] [vI 4, vR b26])) (fun _ k => own_alen X0 hx hZ e0 PV12 rfl rfl (hb hby d43_11) (own_e X0 tt 12 3 k rfl)) ?_
  refine own_go (T' := s₁) (f' := (mkF m 20 #[oR b26, oR b3a, oI 4] [vI 4, vR b3a, vI 99])) (fun _ k => own_ldB X0 hx hZ e0 PV12 (j := (4 : Int32)) (x := (99 : Int32)) ⟨by decide, by decide⟩ rfl rfl rfl (hb hby d43_17) (own_e X0 tt 18 2 k rfl)) ?_
  refine own_go (T' := s₁) (f' := (mkF m 11 #[oR b26, oR b3a, oI 5] [vR b26, vI 5])) (fun _ k => own_ldB X0 hx hZ e0 PV18 (j := (4 : Int32)) (x := (99 : Int32)) ⟨by decide, by decide⟩ rfl rfl rfl (hb hby d43_20) (own_e X0 tt 21 5 k rfl)) ?_
  refine own_go (T' := s₁) (f' := (mkF m 17 #[oR b26, oR b3a, oI 5] [vI 5, vR b26])) (fun _ k => own_alen X0 hx hZ e0 PV12 rfl rfl (hb hby d43_11) (own_e X0 tt 12 3 k rfl)) ?_
  refine own_go (T' := s₁) (f' := (mkF m 20 #[oR b26, oR b3a, oI 5] [vI 5, vR b3a, vI 116])) (fun _ k => own_ldB X0 hx hZ e0 PV12 (j := (5 : Int32)) (x := (116 : Int32)) ⟨by decide, by decide⟩ rfl rfl rfl (hb hby d43_17) (own_e X0 tt 18 2 k rfl)) ?_
  refine own_go (T' := s₁) (f' := (mkF m 11 #[oR b26, oR b3a, oI 6] [vR b26, vI 6])) (fun _ k => own_ldB X0 hx hZ e0 PV18 (j := (5 : Int32)) (x := (116 : Int32)) ⟨by decide, by decide⟩ rfl rfl rfl (hb hby d43_20) (own_e X0 tt 21 5 k rfl)) ?_
  refine own_go (T' := s₁) (f' := (mkF m 17 #[oR b26, oR b3a, oI 6] [vI 6, vR b26])) (fun _ k => own_alen X0 hx hZ e0 PV12 rfl rfl (hb hby d43_11) (own_e X0 tt 12 3 k rfl)) ?_
  refine own_go (T' := s₁) (f' := (mkF m 20 #[oR b26, oR b3a, oI 6] [vI 6, vR b3a, vI 101])) (fun _ k => own_ldB X0 hx hZ e0 PV12 (j := (6 : Int32)) (x := (101 : Int32)) ⟨by decide, by decide⟩ rfl rfl rfl (hb hby d43_17) (own_e X0 tt 18 2 k rfl)) ?_
  refine own_go (T' := s₁) (f' := (mkF m 11 #[oR b26, oR b3a, oI 7] [vR b26, vI 7])) (fun _ k => own_ldB X0 hx hZ e0 PV18 (j := (6 : Int32)) (x := (101 : Int32)) ⟨by decide, by decide⟩ rfl rfl rfl (hb hby d43_20) (own_e X0 tt 21 5 k rfl)) ?_
  refine own_go (T' := s₁) (f' := (mkF m 17 #[oR b26, oR b3a, oI 7] [vI 7, vR b26])) (fun _ k => own_alen X0 hx hZ e0 PV12 rfl rfl (hb hby d43_11) (own_e X0 tt 12 3 k rfl)) ?_
  refine own_go (T' := s₁) (f' := (mkF m 20 #[oR b26, oR b3a, oI 7] [vI 7, vR b3a, vI 100])) (fun _ k => own_ldB X0 hx hZ e0 PV12 (j := (7 : Int32)) (x := (100 : Int32)) ⟨by decide, by decide⟩ rfl rfl rfl (hb hby d43_17) (own_e X0 tt 18 2 k rfl)) ?_
  refine own_go (T' := s₁) (f' := (mkF m 11 #[oR b26, oR b3a, oI 8] [vR b26, vI 8])) (fun _ k => own_ldB X0 hx hZ e0 PV18 (j := (7 : Int32)) (x := (100 : Int32)) ⟨by decide, by decide⟩ rfl rfl rfl (hb hby d43_20) (own_e X0 tt 21 5 k rfl)) ?_
  refine own_go (T' := s₁) (f' := (mkF m 17 #[oR b26, oR b3a, oI 8] [vI 8, vR b26])) (fun _ k => own_alen X0 hx hZ e0 PV12 rfl rfl (hb hby d43_11) (own_e X0 tt 12 3 k rfl)) ?_
  refine own_go (T' := s₁) (f' := (mkF m 20 #[oR b26, oR b3a, oI 8] [vI 8, vR b3a, vI 32])) (fun _ k => own_ldB X0 hx hZ e0 PV12 (j := (8 : Int32)) (x := (32 : Int32)) ⟨by decide, by decide⟩ rfl rfl rfl (hb hby d43_17) (own_e X0 tt 18 2 k rfl)) ?_
  refine own_go (T' := s₁) (f' := (mkF m 11 #[oR b26, oR b3a, oI 9] [vR b26, vI 9])) (fun _ k => own_ldB X0 hx hZ e0 PV18 (j := (8 : Int32)) (x := (32 : Int32)) ⟨by decide, by decide⟩ rfl rfl rfl (hb hby d43_20) (own_e X0 tt 21 5 k rfl)) ?_
  refine own_go (T' := s₁) (f' := (mkF m 17 #[oR b26, oR b3a, oI 9] [vI 9, vR b26])) (fun _ k => own_alen X0 hx hZ e0 PV12 rfl rfl (hb hby d43_11) (own_e X0 tt 12 3 k rfl)) ?_
  refine own_go (T' := s₁) (f' := (mkF m 20 #[oR b26, oR b3a, oI 9] [vI 9, vR b3a, vI 98])) (fun _ k => own_ldB X0 hx hZ e0 PV12 (j := (9 : Int32)) (x := (98 : Int32)) ⟨by decide, by decide⟩ rfl rfl rfl (hb hby d43_17) (own_e X0 tt 18 2 k rfl)) ?_
  refine own_go (T' := s₁) (f' := (mkF m 11 #[oR b26, oR b3a, oI 10] [vR b26, vI 10])) (fun _ k => own_ldB X0 hx hZ e0 PV18 (j := (9 : Int32)) (x := (98 : Int32)) ⟨by decide, by decide⟩ rfl rfl rfl (hb hby d43_20) (own_e X0 tt 21 5 k rfl)) ?_
  refine own_go (T' := s₁) (f' := (mkF m 17 #[oR b26, oR b3a, oI 10] [vI 10, vR b26])) (fun _ k => own_alen X0 hx hZ e0 PV12 rfl rfl (hb hby d43_11) (own_e X0 tt 12 3 k rfl)) ?_
  refine own_go (T' := s₁) (f' := (mkF m 20 #[oR b26, oR b3a, oI 10] [vI 10, vR b3a, vI 101])) (fun _ k => own_ldB X0 hx hZ e0 PV12 (j := (10 : Int32)) (x := (101 : Int32)) ⟨by decide, by decide⟩ rfl rfl rfl (hb hby d43_17) (own_e X0 tt 18 2 k rfl)) ?_
  refine own_go (T' := s₁) (f' := (mkF m 11 #[oR b26, oR b3a, oI 11] [vR b26, vI 11])) (fun _ k => own_ldB X0 hx hZ e0 PV18 (j := (10 : Int32)) (x := (101 : Int32)) ⟨by decide, by decide⟩ rfl rfl rfl (hb hby d43_20) (own_e X0 tt 21 5 k rfl)) ?_
  refine own_go (T' := s₁) (f' := (mkF m 17 #[oR b26, oR b3a, oI 11] [vI 11, vR b26])) (fun _ k => own_alen X0 hx hZ e0 PV12 rfl rfl (hb hby d43_11) (own_e X0 tt 12 3 k rfl)) ?_
  refine own_go (T' := s₁) (f' := (mkF m 20 #[oR b26, oR b3a, oI 11] [vI 11, vR b3a, vI 116])) (fun _ k => own_ldB X0 hx hZ e0 PV12 (j := (11 : Int32)) (x := (116 : Int32)) ⟨by decide, by decide⟩ rfl rfl rfl (hb hby d43_17) (own_e X0 tt 18 2 k rfl)) ?_
  refine own_go (T' := s₁) (f' := (mkF m 11 #[oR b26, oR b3a, oI 12] [vR b26, vI 12])) (fun _ k => own_ldB X0 hx hZ e0 PV18 (j := (11 : Int32)) (x := (116 : Int32)) ⟨by decide, by decide⟩ rfl rfl rfl (hb hby d43_20) (own_e X0 tt 21 5 k rfl)) ?_
  refine own_go (T' := s₁) (f' := (mkF m 17 #[oR b26, oR b3a, oI 12] [vI 12, vR b26])) (fun _ k => own_alen X0 hx hZ e0 PV12 rfl rfl (hb hby d43_11) (own_e X0 tt 12 3 k rfl)) ?_
  refine own_go (T' := s₁) (f' := (mkF m 20 #[oR b26, oR b3a, oI 12] [vI 12, vR b3a, vI 119])) (fun _ k => own_ldB X0 hx hZ e0 PV12 (j := (12 : Int32)) (x := (119 : Int32)) ⟨by decide, by decide⟩ rfl rfl rfl (hb hby d43_17) (own_e X0 tt 18 2 k rfl)) ?_
  refine own_go (T' := s₁) (f' := (mkF m 11 #[oR b26, oR b3a, oI 13] [vR b26, vI 13])) (fun _ k => own_ldB X0 hx hZ e0 PV18 (j := (12 : Int32)) (x := (119 : Int32)) ⟨by decide, by decide⟩ rfl rfl rfl (hb hby d43_20) (own_e X0 tt 21 5 k rfl)) ?_
  refine own_go (T' := s₁) (f' := (mkF m 17 #[oR b26, oR b3a, oI 13] [vI 13, vR b26])) (fun _ k => own_alen X0 hx hZ e0 PV12 rfl rfl (hb hby d43_11) (own_e X0 tt 12 3 k rfl)) ?_
  refine own_go (T' := s₁) (f' := (mkF m 20 #[oR b26, oR b3a, oI 13] [vI 13, vR b3a, vI 101])) (fun _ k => own_ldB X0 hx hZ e0 PV12 (j := (13 : Int32)) (x := (101 : Int32)) ⟨by decide, by decide⟩ rfl rfl rfl (hb hby d43_17) (own_e X0 tt 18 2 k rfl)) ?_
  refine own_go (T' := s₁) (f' := (mkF m 11 #[oR b26, oR b3a, oI 14] [vR b26, vI 14])) (fun _ k => own_ldB X0 hx hZ e0 PV18 (j := (13 : Int32)) (x := (101 : Int32)) ⟨by decide, by decide⟩ rfl rfl rfl (hb hby d43_20) (own_e X0 tt 21 5 k rfl)) ?_
  refine own_go (T' := s₁) (f' := (mkF m 17 #[oR b26, oR b3a, oI 14] [vI 14, vR b26])) (fun _ k => own_alen X0 hx hZ e0 PV12 rfl rfl (hb hby d43_11) (own_e X0 tt 12 3 k rfl)) ?_
  refine own_go (T' := s₁) (f' := (mkF m 20 #[oR b26, oR b3a, oI 14] [vI 14, vR b3a, vI 101])) (fun _ k => own_ldB X0 hx hZ e0 PV12 (j := (14 : Int32)) (x := (101 : Int32)) ⟨by decide, by decide⟩ rfl rfl rfl (hb hby d43_17) (own_e X0 tt 18 2 k rfl)) ?_
  refine own_go (T' := s₁) (f' := (mkF m 11 #[oR b26, oR b3a, oI 15] [vR b26, vI 15])) (fun _ k => own_ldB X0 hx hZ e0 PV18 (j := (14 : Int32)) (x := (101 : Int32)) ⟨by decide, by decide⟩ rfl rfl rfl (hb hby d43_20) (own_e X0 tt 21 5 k rfl)) ?_
  refine own_go (T' := s₁) (f' := (mkF m 17 #[oR b26, oR b3a, oI 15] [vI 15, vR b26])) (fun _ k => own_alen X0 hx hZ e0 PV12 rfl rfl (hb hby d43_11) (own_e X0 tt 12 3 k rfl)) ?_
  refine own_go (T' := s₁) (f' := (mkF m 20 #[oR b26, oR b3a, oI 15] [vI 15, vR b3a, vI 110])) (fun _ k => own_ldB X0 hx hZ e0 PV12 (j := (15 : Int32)) (x := (110 : Int32)) ⟨by decide, by decide⟩ rfl rfl rfl (hb hby d43_17) (own_e X0 tt 18 2 k rfl)) ?_
  refine own_go (T' := s₁) (f' := (mkF m 11 #[oR b26, oR b3a, oI 16] [vR b26, vI 16])) (fun _ k => own_ldB X0 hx hZ e0 PV18 (j := (15 : Int32)) (x := (110 : Int32)) ⟨by decide, by decide⟩ rfl rfl rfl (hb hby d43_20) (own_e X0 tt 21 5 k rfl)) ?_
  refine own_go (T' := s₁) (f' := (mkF m 17 #[oR b26, oR b3a, oI 16] [vI 16, vR b26])) (fun _ k => own_alen X0 hx hZ e0 PV12 rfl rfl (hb hby d43_11) (own_e X0 tt 12 3 k rfl)) ?_
  refine own_go (T' := s₁) (f' := (mkF m 20 #[oR b26, oR b3a, oI 16] [vI 16, vR b3a, vI 32])) (fun _ k => own_ldB X0 hx hZ e0 PV12 (j := (16 : Int32)) (x := (32 : Int32)) ⟨by decide, by decide⟩ rfl rfl rfl (hb hby d43_17) (own_e X0 tt 18 2 k rfl)) ?_
  refine own_go (T' := s₁) (f' := (mkF m 11 #[oR b26, oR b3a, oI 17] [vR b26, vI 17])) (fun _ k => own_ldB X0 hx hZ e0 PV18 (j := (16 : Int32)) (x := (32 : Int32)) ⟨by decide, by decide⟩ rfl rfl rfl (hb hby d43_20) (own_e X0 tt 21 5 k rfl)) ?_
  refine own_go (T' := s₁) (f' := (mkF m 17 #[oR b26, oR b3a, oI 17] [vI 17, vR b26])) (fun _ k => own_alen X0 hx hZ e0 PV12 rfl rfl (hb hby d43_11) (own_e X0 tt 12 3 k rfl)) ?_
  refine own_go (T' := s₁) (f' := (mkF m 20 #[oR b26, oR b3a, oI 17] [vI 17, vR b3a, (.int i4)])) (fun _ k => own_ldB X0 hx hZ e0 PV12 (j := (17 : Int32)) (x := i4) ⟨by decide, by decide⟩ rfl rfl rfl (hb hby d43_17) (own_e X0 tt 18 2 k rfl)) ?_
  refine own_go (T' := s₁) (f' := (mkF m 11 #[oR b26, oR b3a, oI 18] [vR b26, vI 18])) (fun _ k => own_ldB X0 hx hZ e0 PV18 (j := (17 : Int32)) (x := i8) ⟨by decide, by decide⟩ rfl rfl rfl (hb hby d43_20) (XS.icmpYes X0.here hx rfl (pc0 := 21) (pc' := 26) rfl (hb hby d43_21) rfl (teq PP5).1 (by decide) (by decide) (own_e X0 tt 26 4 k rfl))) ?_
  refine own_go (T' := s₁) (f' := (mkF m 17 #[oR b26, oR b3a, oI 18] [vI 18, vR b26])) (fun _ k => own_alen X0 hx hZ e0 PV12 rfl rfl (hb hby d43_11) (own_e X0 tt 12 3 k rfl)) ?_
  refine own_go (T' := s₁) (f' := (mkF m 20 #[oR b26, oR b3a, oI 18] [vI 18, vR b3a, vI 32])) (fun _ k => own_ldB X0 hx hZ e0 PV12 (j := (18 : Int32)) (x := (32 : Int32)) ⟨by decide, by decide⟩ rfl rfl rfl (hb hby d43_17) (own_e X0 tt 18 2 k rfl)) ?_
  refine own_go (T' := s₁) (f' := (mkF m 11 #[oR b26, oR b3a, oI 19] [vR b26, vI 19])) (fun _ k => own_ldB X0 hx hZ e0 PV18 (j := (18 : Int32)) (x := (32 : Int32)) ⟨by decide, by decide⟩ rfl rfl rfl (hb hby d43_20) (own_e X0 tt 21 5 k rfl)) ?_
  refine own_go (T' := s₁) (f' := (mkF m 17 #[oR b26, oR b3a, oI 19] [vI 19, vR b26])) (fun _ k => own_alen X0 hx hZ e0 PV12 rfl rfl (hb hby d43_11) (own_e X0 tt 12 3 k rfl)) ?_
  refine own_go (T' := s₁) (f' := (mkF m 20 #[oR b26, oR b3a, oI 19] [vI 19, vR b3a, vI 97])) (fun _ k => own_ldB X0 hx hZ e0 PV12 (j := (19 : Int32)) (x := (97 : Int32)) ⟨by decide, by decide⟩ rfl rfl rfl (hb hby d43_17) (own_e X0 tt 18 2 k rfl)) ?_
  refine own_go (T' := s₁) (f' := (mkF m 11 #[oR b26, oR b3a, oI 20] [vR b26, vI 20])) (fun _ k => own_ldB X0 hx hZ e0 PV18 (j := (19 : Int32)) (x := (97 : Int32)) ⟨by decide, by decide⟩ rfl rfl rfl (hb hby d43_20) (own_e X0 tt 21 5 k rfl)) ?_
  refine own_go (T' := s₁) (f' := (mkF m 17 #[oR b26, oR b3a, oI 20] [vI 20, vR b26])) (fun _ k => own_alen X0 hx hZ e0 PV12 rfl rfl (hb hby d43_11) (own_e X0 tt 12 3 k rfl)) ?_
  refine own_go (T' := s₁) (f' := (mkF m 20 #[oR b26, oR b3a, oI 20] [vI 20, vR b3a, vI 110])) (fun _ k => own_ldB X0 hx hZ e0 PV12 (j := (20 : Int32)) (x := (110 : Int32)) ⟨by decide, by decide⟩ rfl rfl rfl (hb hby d43_17) (own_e X0 tt 18 2 k rfl)) ?_
  refine own_go (T' := s₁) (f' := (mkF m 11 #[oR b26, oR b3a, oI 21] [vR b26, vI 21])) (fun _ k => own_ldB X0 hx hZ e0 PV18 (j := (20 : Int32)) (x := (110 : Int32)) ⟨by decide, by decide⟩ rfl rfl rfl (hb hby d43_20) (own_e X0 tt 21 5 k rfl)) ?_
  refine own_go (T' := s₁) (f' := (mkF m 17 #[oR b26, oR b3a, oI 21] [vI 21, vR b26])) (fun _ k => own_alen X0 hx hZ e0 PV12 rfl rfl (hb hby d43_11) (own_e X0 tt 12 3 k rfl)) ?_
  refine own_go (T' := s₁) (f' := (mkF m 20 #[oR b26, oR b3a, oI 21] [vI 21, vR b3a, vI 100])) (fun _ k => own_ldB X0 hx hZ e0 PV12 (j := (21 : Int32)) (x := (100 : Int32)) ⟨by decide, by decide⟩ rfl rfl rfl (hb hby d43_17) (own_e X0 tt 18 2 k rfl)) ?_
  refine own_go (T' := s₁) (f' := (mkF m 11 #[oR b26, oR b3a, oI 22] [vR b26, vI 22])) (fun _ k => own_ldB X0 hx hZ e0 PV18 (j := (21 : Int32)) (x := (100 : Int32)) ⟨by decide, by decide⟩ rfl rfl rfl (hb hby d43_20) (own_e X0 tt 21 5 k rfl)) ?_
  refine own_go (T' := s₁) (f' := (mkF m 17 #[oR b26, oR b3a, oI 22] [vI 22, vR b26])) (fun _ k => own_alen X0 hx hZ e0 PV12 rfl rfl (hb hby d43_11) (own_e X0 tt 12 3 k rfl)) ?_
  refine own_go (T' := s₁) (f' := (mkF m 20 #[oR b26, oR b3a, oI 22] [vI 22, vR b3a, vI 32])) (fun _ k => own_ldB X0 hx hZ e0 PV12 (j := (22 : Int32)) (x := (32 : Int32)) ⟨by decide, by decide⟩ rfl rfl rfl (hb hby d43_17) (own_e X0 tt 18 2 k rfl)) ?_
  refine own_go (T' := s₁) (f' := (mkF m 11 #[oR b26, oR b3a, oI 23] [vR b26, vI 23])) (fun _ k => own_ldB X0 hx hZ e0 PV18 (j := (22 : Int32)) (x := (32 : Int32)) ⟨by decide, by decide⟩ rfl rfl rfl (hb hby d43_20) (own_e X0 tt 21 5 k rfl)) ?_
  refine own_go (T' := s₁) (f' := (mkF m 17 #[oR b26, oR b3a, oI 23] [vI 23, vR b26])) (fun _ k => own_alen X0 hx hZ e0 PV12 rfl rfl (hb hby d43_11) (own_e X0 tt 12 3 k rfl)) ?_
  refine own_go (T' := s₁) (f' := (mkF m 20 #[oR b26, oR b3a, oI 23] [vI 23, vR b3a, (.int i7)])) (fun _ k => own_ldB X0 hx hZ e0 PV12 (j := (23 : Int32)) (x := i7) ⟨by decide, by decide⟩ rfl rfl rfl (hb hby d43_17) (own_e X0 tt 18 2 k rfl)) ?_
  refine own_go (T' := s₁) (f' := (mkF m 11 #[oR b26, oR b3a, oI 24] [vR b26, vI 24])) (fun _ k => own_ldB X0 hx hZ e0 PV18 (j := (23 : Int32)) (x := i9) ⟨by decide, by decide⟩ rfl rfl rfl (hb hby d43_20) (XS.icmpYes X0.here hx rfl (pc0 := 21) (pc' := 26) rfl (hb hby d43_21) rfl (teq PP6).1 (by decide) (by decide) (own_e X0 tt 26 4 k rfl))) ?_
  refine own_go (T' := s₁) (f' := (mkF m 33 #[oR b26, oR b3a, oI 24] [vI 1])) (fun _ k => own_alen X0 hx hZ e0 PV12 rfl rfl (hb hby d43_11) (own_e X0 tt 12 2 k rfl)) ?_
  refine own_ret X0 (v := some (.int (1 : Int32))) (oN Br) Bs (fun fs hr => retN X0 hx (t := .boolean) Br (by simp) (hb hby d43_33) hr) ?_ (by decide) (by decide)
  unfold Q43a245
  exact ⟨rfl, N0, e0⟩
theorem pd30 : parseMethodDescriptor "([B[B)Z" = some ⟨[(.array .byte), (.array .byte)], some .boolean⟩ := by decide +kernel
def own_t42 (pc : Nat) : Option (Instr × Nat) := bif Nat.ble pc 22 then (bif Nat.ble pc 7 then (bif Nat.ble pc 0 then (bif Nat.beq pc 0 then some (.aload_n 0, 1) else none) else (bif Nat.ble pc 1 then (bif Nat.beq pc 1 then some (.aload_n 1, 1) else none) else (bif Nat.beq pc 7 then some (.aload_n 1, 1) else none))) else (bif Nat.ble pc 14 then (bif Nat.ble pc 11 then (bif Nat.beq pc 11 then some (.ifCond .eq 43, 3) else none) else (bif Nat.beq pc 14 then some (.aload_n 1, 1) else none)) else (bif Nat.ble pc 18 then (bif Nat.beq pc 18 then some (.astore_n 2, 1) else none) else (bif Nat.beq pc 22 then some (.ifCond .eq 14, 3) else none)))) else (bif Nat.ble pc 36 then (bif Nat.ble pc 29 then (bif Nat.ble pc 25 then (bif Nat.beq pc 25 then some (.aload_n 0, 1) else none) else (bif Nat.beq pc 29 then some (.aload_n 2, 1) else none)) else (bif Nat.ble pc 33 then (bif Nat.beq pc 33 then some (.if_icmp .ne 21, 3) else none) else (bif Nat.beq pc 36 then some (.aload_n 0, 1) else none))) else (bif Nat.ble pc 47 then (bif Nat.ble pc 40 then (bif Nat.beq pc 40 then some (.aload_n 2, 1) else none) else (bif Nat.beq pc 47 then some (.ifCond .eq 7, 3) else none)) else (bif Nat.ble pc 50 then (bif Nat.beq pc 50 then some (.iconst 1, 1) else none) else (bif Nat.beq pc 51 then some (.goto 4, 3) else none))))
theorem own_ok42 : ∀ pc q, own_fetch 56 own_t42 pc = some q → decode jdk_42_method_66_code pc = .ok q := own_tab (by decide +kernel)
theorem d42_2 : decode jdk_42_method_66_code 2 = .ok (.if_acmp .ne 5, 3) := by decide +kernel
theorem d42_8 : decode jdk_42_method_66_code 8 = .ok (.instanceof 10, 3) := by decide +kernel
theorem d42_15 : decode jdk_42_method_66_code 15 = .ok (.checkcast 10, 3) := by decide +kernel
theorem d42_19 : decode jdk_42_method_66_code 19 = .ok (.getstatic 38, 3) := by decide +kernel
theorem d42_22 : decode jdk_42_method_66_code 22 = .ok (.ifCond .eq 14, 3) := by decide +kernel
theorem d42_26 : decode jdk_42_method_66_code 26 = .ok (.getfield 15, 3) := by decide +kernel
theorem d42_30 : decode jdk_42_method_66_code 30 = .ok (.getfield 15, 3) := by decide +kernel
theorem d42_37 : decode jdk_42_method_66_code 37 = .ok (.getfield 9, 3) := by decide +kernel
theorem d42_41 : decode jdk_42_method_66_code 41 = .ok (.getfield 9, 3) := by decide +kernel
theorem d42_44 : decode jdk_42_method_66_code 44 = .ok (.invokestatic 541, 3) := by decide +kernel
theorem d42_55 : decode jdk_42_method_66_code 55 = .ok (.ireturn, 1) := by decide +kernel
def Q42a244 (Z : State)  (h0 : Heap) (n0 : Nat) (v : Option Value) (h : Heap) (L : List Loc) : Prop := v = some (.int (1 : Int32)) ∧ Fr n0 L ∧ h = h0
set_option maxRecDepth 65536 in
set_option maxHeartbeats 40000000 in
theorem rm42a244 (l : Launch) (Z : State) (a0 : Array Value) (hw : HW a0 Z) (ws : List Jvm.Cond) (a26 : Addr) (b63 : Addr) (cs : Int32) (b26 : Addr) (k26 : ClassId) (i3 : Int32) (i7 : Int32) (b8a : Addr) (k8b : ClassId) (i9 : Int32) (i13 : Int32) (h0 : Heap) (n0 : Nat) (Z0 : n0 ≤ h0.size) (PS0 : Sta Z h0 "java/lang/String" "COMPACT_STRINGS" "Z" (.int cs)) (PF10 : oF3 Z h0 a26 (.int (0 : Int32))) (PF11 : oF4 Z h0 a26 (.ref b26)) (PV12 : Arv Z h0 b26 k26 .byte (24 : Int32) [(.int (101 : Int32)), (.int (120 : Int32)), (.int (112 : Int32)), (.int (101 : Int32)), (.int (99 : Int32)), (.int (116 : Int32)), (.int (101 : Int32)), (.int (100 : Int32)), (.int (32 : Int32)), (.int (98 : Int32)), (.int (101 : Int32)), (.int (116 : Int32)), (.int (119 : Int32)), (.int (101 : Int32)), (.int (101 : Int32)), (.int (110 : Int32)), (.int (32 : Int32)), (.int i3), (.int (32 : Int32)), (.int (97 : Int32)), (.int (110 : Int32)), (.int (100 : Int32)), (.int (32 : Int32)), (.int i7)] (.int (0 : Int32))) (PE15 : Exa Z h0 b63 "java/lang/String") (PF16 : oF4 Z h0 b63 (.ref b8a)) (PF17 : oF3 Z h0 b63 (.int (0 : Int32))) (PV18 : Arv Z h0 b8a k8b .byte (24 : Int32) [(.int (101 : Int32)), (.int (120 : Int32)), (.int (112 : Int32)), (.int (101 : Int32)), (.int (99 : Int32)), (.int (116 : Int32)), (.int (101 : Int32)), (.int (100 : Int32)), (.int (32 : Int32)), (.int (98 : Int32)), (.int (101 : Int32)), (.int (116 : Int32)), (.int (119 : Int32)), (.int (101 : Int32)), (.int (101 : Int32)), (.int (110 : Int32)), (.int (32 : Int32)), (.int i9), (.int (32 : Int32)), (.int (97 : Int32)), (.int (110 : Int32)), (.int (100 : Int32)), (.int (32 : Int32)), (.int i13)] (.int (0 : Int32))) (PP0 : ¬ (cs = (0 : Int32))) (PP4 : ¬ (a26 = b63)) (PP5 : i3 = i9) (PP6 : i7 = i13) :
    own_Met l mn41 jdk_42_method_66_code 3 (some .boolean) ws (oRm 1 0 0 14) #[(.ref a26), (.ref b63)] Z h0 (Q42a244 Z  h0 n0) := by
  refine own_met (own := "java/lang/String") rfl (plainFor_of_name pn_7) ?_
  intro p e s m below meth c s₁ hx hby hml hZ hown hnm X0 e0 Br Bs
  have N0 := Fr.nil n0
  have tt := own_tt hx hby own_ok42
  show own_Ends p e below s _ _ _ s₁ (mkF m 0 #[oR a26, oR b63, oU] [])
  refine own_go (T' := s₁) (f' := (mkF m 2 #[oR a26, oR b63, oU] [vR b63, vR a26])) (fun _ k => own_e X0 tt 0 2 k rfl) ?_
  refine own_go (T' := s₁) (f' := (mkF m 8 #[oR a26, oR b63, oU] [vR b63])) (fun _ k => Jvm.RoadKit.acmp (g := (mkF m 2 #[oR a26, oR b63, oU] [vR b63, vR a26])) X0 hx rfl rfl rfl (pc0 := 2) (pc' := 7) (same := false) rfl (hb hby d42_2) rfl (decide_eq_false fun q => PP4 (Value.ref.inj q)) (by decide) (by decide) (own_e X0 tt 7 1 k rfl)) ?_
  obtain ⟨T14, X14, e14, st14⟩ := instY X0 hx hZ hown (ow224 hw) e0 (Ins.self PE15) (g := (mkF m 8 #[oR a26, oR b63, oU] [vR b63])) rfl rfl (hb hby d42_8)
  refine own_go (T' := T14) (f' := (mkF m 15 #[oR a26, oR b63, oU] [vR b63])) (fun _ k => st14 _ (own_e X14 tt 11 2 k rfl)) ?_
  obtain ⟨T19, X19, e19, st19⟩ := castY X14 hx hZ hown (ow224 hw) e14 (Ins.self PE15) (g := (mkF m 15 #[oR a26, oR b63, oU] [vR b63])) rfl rfl (hb hby d42_15)
  refine own_go (T' := T19) (f' := (mkF m 19 #[oR a26, oR b63, oR b63] [])) (fun _ k => st19 _ (own_e X19 tt 18 1 k rfl)) ?_
  obtain ⟨T20, X20, e20, st20⟩ := getS2 X19 hx hZ hown (host := "") (Or.inl (ow64 hw)) Via.refl e19 PS0 (g := (mkF m 19 #[oR a26, oR b63, oR b63] [])) rfl (hb hby d42_19)
  refine own_go (T' := T20) (f' := (mkF m 26 #[oR a26, oR b63, oR b63] [vR a26])) (fun _ k => st20 _ (XS.ifNo X20.here hx rfl (hb hby d42_22) rfl ((if0 _ _).trans (feq PP0).1) (own_e X20 tt 25 1 k rfl))) ?_
  obtain ⟨T21, X21, e21, st21⟩ := getF X20 hx hZ hown (host := "") (Or.inl (ow65 hw)) Via.refl e20 PF10 (g := (mkF m 26 #[oR a26, oR b63, oR b63] [vR a26])) rfl rfl (hb hby d42_26)
  refine own_go (T' := T21) (f' := (mkF m 30 #[oR a26, oR b63, oR b63] [vR b63, vI 0])) (fun _ k => st21 _ (own_e X21 tt 29 1 k rfl)) ?_
  obtain ⟨T22, X22, e22, st22⟩ := getF X21 hx hZ hown (host := "") (Or.inl (ow65 hw)) Via.refl e21 PF17 (g := (mkF m 30 #[oR a26, oR b63, oR b63] [vR b63, vI 0])) rfl rfl (hb hby d42_30)
  refine own_go (T' := T22) (f' := (mkF m 37 #[oR a26, oR b63, oR b63] [vR a26])) (fun _ k => st22 _ (own_e X22 tt 33 2 k rfl)) ?_
  obtain ⟨T23, X23, e23, st23⟩ := getF X22 hx hZ hown (host := "") (Or.inl (ow58 hw)) Via.refl e22 PF11 (g := (mkF m 37 #[oR a26, oR b63, oR b63] [vR a26])) rfl rfl (hb hby d42_37)
  refine own_go (T' := T23) (f' := (mkF m 41 #[oR a26, oR b63, oR b63] [vR b63, vR b26])) (fun _ k => st23 _ (own_e X23 tt 40 1 k rfl)) ?_
  obtain ⟨T24, X24, e24, st24⟩ := getF X23 hx hZ hown (host := "") (Or.inl (ow58 hw)) Via.refl e23 PF16 (g := (mkF m 41 #[oR a26, oR b63, oR b63] [vR b63, vR b26])) rfl rfl (hb hby d42_41)
  refine own_go (T' := T24) (f' := (mkF m 44 #[oR a26, oR b63, oR b63] [vR b8a, vR b26])) (fun _ k => st24 _ k) ?_
  obtain ⟨_, T25, Lc25, X25, hQ25, st25⟩ := own_outC (Jvm.LawKit.callS X24 hx (y := mn40) hown (mvT hZ (ow225 hw)) (mvT hZ (ow226 hw)) (mvT hZ (ow227 hw)) (mvT hZ (ow228 hw)) (by decide) (backOf (W := 0) (rm43a245 l Z a0 hw [] b26 b8a k26 i3 i7 k8b i9 i13 h0 n0 Z0 PV12 PV18 PP5 PP6) hZ (ow228 hw) (ow227 hw) (by decide) (by decide)) (g := (mkF m 44 #[oR a26, oR b63, oR b63] [vR b8a, vR b26])) rfl (by rw [hml]; rfl) (argsL := [(.ref b26), (.ref b8a)]) (rest := []) (lenOf pd30 rfl) rfl (by show 2 * 0 + _ ≤ _; exact Nat.le_of_eq rfl) (hb hby d42_44) (fun _ _ => ⟨rfl, e24, (by decide : 0 + 0 ≤ _), (by decide : 0 + 0 ≤ _)⟩))
  obtain ⟨rfl, N25q, hh25⟩ := hQ25
  have N25 := Fr.app N0 N25q
  obtain ⟨_, X25, N25⟩ := own_hide X25 N25
  refine own_go (T' := T25) (f' := (mkF m 55 #[oR a26, oR b63, oR b63] [vI 1])) (fun _ k => st25 _ (own_e X25 tt 47 3 k rfl)) ?_
  refine own_ret X25 (v := some (.int (1 : Int32))) (oN Br) Bs (fun fs hr => retN X25 hx (t := .boolean) Br (by simp) (hb hby d42_55) hr) ?_ (by decide) (by decide)
  unfold Q42a244
  exact ⟨rfl, N25, hh25⟩
theorem pd20 : parseMethodDescriptor "(Ljava/lang/Object;)Z" = some ⟨[(.object "java/lang/Object")], some .boolean⟩ := by decide +kernel
def own_t0 (pc : Nat) : Option (Instr × Nat) := bif Nat.ble pc 172 then (bif Nat.ble pc 84 then (bif Nat.ble pc 30 then (bif Nat.ble pc 12 then (bif Nat.ble pc 3 then (bif Nat.ble pc 1 then (bif Nat.ble pc 0 then (bif Nat.beq pc 0 then some (.iload_n 2, 1) else none) else (bif Nat.beq pc 1 then some (.iconst 1, 1) else none)) else (bif Nat.ble pc 2 then (bif Nat.beq pc 2 then some (.iand, 1) else none) else (bif Nat.beq pc 3 then some (.ifCond .eq 7, 3) else none))) else (bif Nat.ble pc 7 then (bif Nat.ble pc 6 then (bif Nat.beq pc 6 then some (.iconst 1, 1) else none) else (bif Nat.beq pc 7 then some (.goto 4, 3) else none)) else (bif Nat.ble pc 10 then (bif Nat.beq pc 10 then some (.iconst 0, 1) else none) else (bif Nat.ble pc 11 then (bif Nat.beq pc 11 then some (.istore_n 3, 1) else none) else (bif Nat.beq pc 12 then some (.iload_n 0, 1) else none))))) else (bif Nat.ble pc 21 then (bif Nat.ble pc 16 then (bif Nat.ble pc 15 then (bif Nat.beq pc 15 then some (.iand, 1) else none) else (bif Nat.beq pc 16 then some (.istore 4, 2) else none)) else (bif Nat.ble pc 18 then (bif Nat.beq pc 18 then some (.iload_n 1, 1) else none) else (bif Nat.beq pc 21 then some (.iand, 1) else none))) else (bif Nat.ble pc 24 then (bif Nat.ble pc 22 then (bif Nat.beq pc 22 then some (.istore 5, 2) else none) else (bif Nat.beq pc 24 then some (.iload_n 3, 1) else none)) else (bif Nat.ble pc 25 then (bif Nat.beq pc 25 then some (.ifCond .eq 17, 3) else none) else (bif Nat.ble pc 28 then (bif Nat.beq pc 28 then some (.iload 4, 2) else none) else (bif Nat.beq pc 30 then some (.bipush 10, 2) else none)))))) else (bif Nat.ble pc 53 then (bif Nat.ble pc 40 then (bif Nat.ble pc 35 then (bif Nat.ble pc 33 then (bif Nat.beq pc 33 then some (.istore 4, 2) else none) else (bif Nat.beq pc 35 then some (.iload 5, 2) else none)) else (bif Nat.ble pc 37 then (bif Nat.beq pc 37 then some (.bipush 10, 2) else none) else (bif Nat.beq pc 40 then some (.istore 5, 2) else none))) else (bif Nat.ble pc 44 then (bif Nat.ble pc 42 then (bif Nat.beq pc 42 then some (.iload 4, 2) else none) else (bif Nat.beq pc 44 then some (.iload 5, 2) else none)) else (bif Nat.ble pc 49 then (bif Nat.beq pc 49 then some (.istore 6, 2) else none) else (bif Nat.ble pc 51 then (bif Nat.beq pc 51 then some (.iload 4, 2) else none) else (bif Nat.beq pc 53 then some (.iload 5, 2) else none))))) else (bif Nat.ble pc 67 then (bif Nat.ble pc 60 then (bif Nat.ble pc 58 then (bif Nat.beq pc 58 then some (.istore 7, 2) else none) else (bif Nat.beq pc 60 then some (.iload 6, 2) else none)) else (bif Nat.ble pc 62 then (bif Nat.beq pc 62 then some (.iload 7, 2) else none) else (bif Nat.beq pc 67 then some (.astore 8, 2) else none))) else (bif Nat.ble pc 74 then (bif Nat.ble pc 69 then (bif Nat.beq pc 69 then some (.aload 8, 2) else none) else (bif Nat.beq pc 74 then some (.iload 6, 2) else none)) else (bif Nat.ble pc 76 then (bif Nat.beq pc 76 then some (.if_icmp .ne 19, 3) else none) else (bif Nat.ble pc 79 then (bif Nat.beq pc 79 then some (.aload 8, 2) else none) else (bif Nat.beq pc 84 then some (.iload 7, 2) else none))))))) else (bif Nat.ble pc 133 then (bif Nat.ble pc 105 then (bif Nat.ble pc 91 then (bif Nat.ble pc 87 then (bif Nat.ble pc 86 then (bif Nat.beq pc 86 then some (.i2l, 1) else none) else (bif Nat.beq pc 87 then some (.lcmp, 1) else none)) else (bif Nat.ble pc 88 then (bif Nat.beq pc 88 then some (.ifCond .ne 7, 3) else none) else (bif Nat.beq pc 91 then some (.iconst 1, 1) else none))) else (bif Nat.ble pc 96 then (bif Nat.ble pc 92 then (bif Nat.beq pc 92 then some (.goto 4, 3) else none) else (bif Nat.beq pc 96 then some (.istore 9, 2) else none)) else (bif Nat.ble pc 98 then (bif Nat.beq pc 98 then some (.aload 8, 2) else none) else (bif Nat.ble pc 103 then (bif Nat.beq pc 103 then some (.astore 10, 2) else none) else (bif Nat.beq pc 105 then some (.iload 9, 2) else none))))) else (bif Nat.ble pc 115 then (bif Nat.ble pc 110 then (bif Nat.ble pc 107 then (bif Nat.beq pc 107 then some (.ifCond .eq 34, 3) else none) else (bif Nat.beq pc 110 then some (.aload 10, 2) else none)) else (bif Nat.ble pc 112 then (bif Nat.beq pc 112 then some (.ifnull 29, 3) else none) else (bif Nat.beq pc 115 then some (.aload 10, 2) else none))) else (bif Nat.ble pc 122 then (bif Nat.ble pc 120 then (bif Nat.beq pc 120 then some (.bipush 22, 2) else none) else (bif Nat.beq pc 122 then some (.iload 6, 2) else none)) else (bif Nat.ble pc 127 then (bif Nat.beq pc 127 then some (.iadd, 1) else none) else (bif Nat.ble pc 128 then (bif Nat.beq pc 128 then some (.iload 7, 2) else none) else (bif Nat.beq pc 133 then some (.iadd, 1) else none)))))) else (bif Nat.ble pc 153 then (bif Nat.ble pc 142 then (bif Nat.ble pc 137 then (bif Nat.ble pc 134 then (bif Nat.beq pc 134 then some (.if_icmp .ne 7, 3) else none) else (bif Nat.beq pc 137 then some (.iconst 1, 1) else none)) else (bif Nat.ble pc 138 then (bif Nat.beq pc 138 then some (.goto 4, 3) else none) else (bif Nat.beq pc 142 then some (.istore 9, 2) else none))) else (bif Nat.ble pc 146 then (bif Nat.ble pc 144 then (bif Nat.beq pc 144 then some (.iload 9, 2) else none) else (bif Nat.beq pc 146 then some (.ifCond .eq 175, 3) else none)) else (bif Nat.ble pc 149 then (bif Nat.beq pc 149 then some (.iload_n 3, 1) else none) else (bif Nat.ble pc 150 then (bif Nat.beq pc 150 then some (.ifCond .eq 171, 3) else none) else (bif Nat.beq pc 153 then some (.bipush 24, 2) else none))))) else (bif Nat.ble pc 163 then (bif Nat.ble pc 158 then (bif Nat.ble pc 157 then (bif Nat.beq pc 157 then some (.dup, 1) else none) else (bif Nat.beq pc 158 then some (.iconst 0, 1) else none)) else (bif Nat.ble pc 159 then (bif Nat.beq pc 159 then some (.bipush 101, 2) else none) else (bif Nat.ble pc 162 then (bif Nat.beq pc 162 then some (.dup, 1) else none) else (bif Nat.beq pc 163 then some (.iconst 1, 1) else none)))) else (bif Nat.ble pc 167 then (bif Nat.ble pc 164 then (bif Nat.beq pc 164 then some (.bipush 120, 2) else none) else (bif Nat.beq pc 167 then some (.dup, 1) else none)) else (bif Nat.ble pc 168 then (bif Nat.beq pc 168 then some (.iconst 2, 1) else none) else (bif Nat.ble pc 169 then (bif Nat.beq pc 169 then some (.bipush 112, 2) else none) else (bif Nat.beq pc 172 then some (.dup, 1) else none)))))))) else (bif Nat.ble pc 242 then (bif Nat.ble pc 205 then (bif Nat.ble pc 187 then (bif Nat.ble pc 178 then (bif Nat.ble pc 174 then (bif Nat.ble pc 173 then (bif Nat.beq pc 173 then some (.iconst 3, 1) else none) else (bif Nat.beq pc 174 then some (.bipush 101, 2) else none)) else (bif Nat.ble pc 177 then (bif Nat.beq pc 177 then some (.dup, 1) else none) else (bif Nat.beq pc 178 then some (.iconst 4, 1) else none))) else (bif Nat.ble pc 182 then (bif Nat.ble pc 179 then (bif Nat.beq pc 179 then some (.bipush 99, 2) else none) else (bif Nat.beq pc 182 then some (.dup, 1) else none)) else (bif Nat.ble pc 183 then (bif Nat.beq pc 183 then some (.iconst 5, 1) else none) else (bif Nat.ble pc 184 then (bif Nat.beq pc 184 then some (.bipush 116, 2) else none) else (bif Nat.beq pc 187 then some (.dup, 1) else none))))) else (bif Nat.ble pc 194 then (bif Nat.ble pc 190 then (bif Nat.ble pc 188 then (bif Nat.beq pc 188 then some (.bipush 6, 2) else none) else (bif Nat.beq pc 190 then some (.bipush 101, 2) else none)) else (bif Nat.ble pc 193 then (bif Nat.beq pc 193 then some (.dup, 1) else none) else (bif Nat.beq pc 194 then some (.bipush 7, 2) else none))) else (bif Nat.ble pc 199 then (bif Nat.ble pc 196 then (bif Nat.beq pc 196 then some (.bipush 100, 2) else none) else (bif Nat.beq pc 199 then some (.dup, 1) else none)) else (bif Nat.ble pc 200 then (bif Nat.beq pc 200 then some (.bipush 8, 2) else none) else (bif Nat.ble pc 202 then (bif Nat.beq pc 202 then some (.bipush 32, 2) else none) else (bif Nat.beq pc 205 then some (.dup, 1) else none)))))) else (bif Nat.ble pc 223 then (bif Nat.ble pc 212 then (bif Nat.ble pc 208 then (bif Nat.ble pc 206 then (bif Nat.beq pc 206 then some (.bipush 9, 2) else none) else (bif Nat.beq pc 208 then some (.bipush 98, 2) else none)) else (bif Nat.ble pc 211 then (bif Nat.beq pc 211 then some (.dup, 1) else none) else (bif Nat.beq pc 212 then some (.bipush 10, 2) else none))) else (bif Nat.ble pc 217 then (bif Nat.ble pc 214 then (bif Nat.beq pc 214 then some (.bipush 101, 2) else none) else (bif Nat.beq pc 217 then some (.dup, 1) else none)) else (bif Nat.ble pc 218 then (bif Nat.beq pc 218 then some (.bipush 11, 2) else none) else (bif Nat.ble pc 220 then (bif Nat.beq pc 220 then some (.bipush 116, 2) else none) else (bif Nat.beq pc 223 then some (.dup, 1) else none))))) else (bif Nat.ble pc 232 then (bif Nat.ble pc 226 then (bif Nat.ble pc 224 then (bif Nat.beq pc 224 then some (.bipush 12, 2) else none) else (bif Nat.beq pc 226 then some (.bipush 119, 2) else none)) else (bif Nat.ble pc 229 then (bif Nat.beq pc 229 then some (.dup, 1) else none) else (bif Nat.ble pc 230 then (bif Nat.beq pc 230 then some (.bipush 13, 2) else none) else (bif Nat.beq pc 232 then some (.bipush 101, 2) else none)))) else (bif Nat.ble pc 236 then (bif Nat.ble pc 235 then (bif Nat.beq pc 235 then some (.dup, 1) else none) else (bif Nat.beq pc 236 then some (.bipush 14, 2) else none)) else (bif Nat.ble pc 238 then (bif Nat.beq pc 238 then some (.bipush 101, 2) else none) else (bif Nat.ble pc 241 then (bif Nat.beq pc 241 then some (.dup, 1) else none) else (bif Nat.beq pc 242 then some (.bipush 15, 2) else none))))))) else (bif Nat.ble pc 276 then (bif Nat.ble pc 260 then (bif Nat.ble pc 250 then (bif Nat.ble pc 247 then (bif Nat.ble pc 244 then (bif Nat.beq pc 244 then some (.bipush 110, 2) else none) else (bif Nat.beq pc 247 then some (.dup, 1) else none)) else (bif Nat.ble pc 248 then (bif Nat.beq pc 248 then some (.bipush 16, 2) else none) else (bif Nat.beq pc 250 then some (.bipush 32, 2) else none))) else (bif Nat.ble pc 254 then (bif Nat.ble pc 253 then (bif Nat.beq pc 253 then some (.dup, 1) else none) else (bif Nat.beq pc 254 then some (.bipush 17, 2) else none)) else (bif Nat.ble pc 256 then (bif Nat.beq pc 256 then some (.bipush 48, 2) else none) else (bif Nat.ble pc 258 then (bif Nat.beq pc 258 then some (.iload 6, 2) else none) else (bif Nat.beq pc 260 then some (.iadd, 1) else none))))) else (bif Nat.ble pc 266 then (bif Nat.ble pc 263 then (bif Nat.ble pc 261 then (bif Nat.beq pc 261 then some (.i2c, 1) else none) else (bif Nat.beq pc 263 then some (.dup, 1) else none)) else (bif Nat.ble pc 264 then (bif Nat.beq pc 264 then some (.bipush 18, 2) else none) else (bif Nat.beq pc 266 then some (.bipush 32, 2) else none))) else (bif Nat.ble pc 270 then (bif Nat.ble pc 269 then (bif Nat.beq pc 269 then some (.dup, 1) else none) else (bif Nat.beq pc 270 then some (.bipush 19, 2) else none)) else (bif Nat.ble pc 272 then (bif Nat.beq pc 272 then some (.bipush 97, 2) else none) else (bif Nat.ble pc 275 then (bif Nat.beq pc 275 then some (.dup, 1) else none) else (bif Nat.beq pc 276 then some (.bipush 20, 2) else none)))))) else (bif Nat.ble pc 294 then (bif Nat.ble pc 284 then (bif Nat.ble pc 281 then (bif Nat.ble pc 278 then (bif Nat.beq pc 278 then some (.bipush 110, 2) else none) else (bif Nat.beq pc 281 then some (.dup, 1) else none)) else (bif Nat.ble pc 282 then (bif Nat.beq pc 282 then some (.bipush 21, 2) else none) else (bif Nat.beq pc 284 then some (.bipush 100, 2) else none))) else (bif Nat.ble pc 288 then (bif Nat.ble pc 287 then (bif Nat.beq pc 287 then some (.dup, 1) else none) else (bif Nat.beq pc 288 then some (.bipush 22, 2) else none)) else (bif Nat.ble pc 290 then (bif Nat.beq pc 290 then some (.bipush 32, 2) else none) else (bif Nat.ble pc 293 then (bif Nat.beq pc 293 then some (.dup, 1) else none) else (bif Nat.beq pc 294 then some (.bipush 23, 2) else none))))) else (bif Nat.ble pc 303 then (bif Nat.ble pc 298 then (bif Nat.ble pc 296 then (bif Nat.beq pc 296 then some (.bipush 48, 2) else none) else (bif Nat.beq pc 298 then some (.iload 7, 2) else none)) else (bif Nat.ble pc 300 then (bif Nat.beq pc 300 then some (.iadd, 1) else none) else (bif Nat.ble pc 301 then (bif Nat.beq pc 301 then some (.i2c, 1) else none) else (bif Nat.beq pc 303 then some (.astore 11, 2) else none)))) else (bif Nat.ble pc 310 then (bif Nat.ble pc 305 then (bif Nat.beq pc 305 then some (.aload 10, 2) else none) else (bif Nat.beq pc 310 then some (.dup, 1) else none)) else (bif Nat.ble pc 311 then (bif Nat.beq pc 311 then some (.aload 11, 2) else none) else (bif Nat.ble pc 319 then (bif Nat.beq pc 319 then some (.istore 9, 2) else none) else (bif Nat.beq pc 321 then some (.iload 9, 2) else none))))))))
theorem own_ok0 : ∀ pc q, own_fetch 324 own_t0 pc = some q → decode code pc = .ok q := own_tab (by decide +kernel)
theorem ef_rm0 (m : MethodId) (p0 : Int32) (p1 : Int32) (p2 : Int32) : entryFrame m #[(.int p0), (.int p1), (.int p2)] maxLocals = mkF m 0 #[.val (.int p0), .val (.int p1), .val (.int p2), .unset, .unset, .unset, .unset, .unset, .unset, .unset, .unset, .unset] [] := by first | (simp [entryFrame, mkF, argsToLocals, Value.category, maxLocals]; done) | rfl
def Q0 (Z : State) (B : State) (p0 : Int32) (p1 : Int32) (p2 : Int32) (cs : Int32) (wd : Addr) (kd : ClassId) (vd : List Value) (wt : Addr) (kt : ClassId) (vt : List Value) (h0 : Heap) (n0 : Nat) (v : Option Value) (h : Heap) (vm : Vm) (L : List Loc) : Prop := v = some (.int (1 : Int32)) ∧ Fr n0 L
set_option maxRecDepth 65536 in
set_option maxHeartbeats 40000000 in
theorem rm0 (l : Launch) (Z : State) (a0 : Array Value) (hw : HW a0 Z) (ws : List Jvm.Cond) (B : State) (p0 : Int32) (p1 : Int32) (p2 : Int32) (cs : Int32) (wd : Addr) (kd : ClassId) (vd : List Value) (wt : Addr) (kt : ClassId) (vt : List Value) (h0 : Heap) (n0 : Nat) (Z0 : n0 ≤ h0.size) (S_cs : Sta Z h0 "java/lang/String" "COMPACT_STRINGS" "Z" (.int cs)) (hcs : ¬ (cs = (0 : Int32))) (S_do : Sta Z h0 "java/lang/Integer" "DigitOnes" "[B" (.ref wd)) (V_do : Arv Z h0 wd kd .byte (100 : Int32) vd (.int (0 : Int32))) (S_dt : Sta Z h0 "java/lang/Integer" "DigitTens" "[B" (.ref wt)) (V_dt : Arv Z h0 wt kt .byte (100 : Int32) vt (.int (0 : Int32))) (hst : own_SameSt Z) (hd10 : own_D10 vd) (hcw : Jvm.Lit.compactW.before a0 Z = true) (hcA : Jvm.Lit.constHeld Z "com/example/tally_of_calls/tallyofcalls/Counts" 65) (hcB : Jvm.Lit.constHeld Z "com/example/tally_of_calls/tallyofcalls/Counts" 67) (hZB : Z = B) (hZh : h0 = Z.heap) :
    MetFree l x (head1 (Jvm.Cond.code x code maxLocals ret :: ws) room_1) (fun a U => a = #[(.int p0), (.int p1), (.int p2)] ∧ Z.Warmed39 U.vm ∧ B.WarmedH U.vm ∧ U.heap = h0) (fun _ _ _ _ _ => True) (fun _ U o U' => ∃ v L, o = .returned v ∧ Q0 Z B p0 p1 p2 cs wd kd vd wt kt vt h0 n0 v U'.heap U'.vm L ∧ ReturnedEndW U o U' L room_1.cells room_1.slots) := by
  refine MetFree.of_bodySF (plainFor_of_name pn_2) hisR ?_
  intro p e s m args below meth c s₁ Bd hml0 hP hK
  obtain ⟨rfl, hZ, hB, hh⟩ := hP
  have hx := Bd.exec
  have hby := Bd.bytes
  have hml : c.maxLocals = 12 := hml0
  have hown : s.vm.findClass "com/example/tally_of_calls/tallyofcalls/CountsBetweenPinLaw" = some m.cls := findClass_of_methodNamed Bd.named
  have hnm := (name_of_methodNamed Bd.named Bd.method).1
  have X0 : Stand p l e room_1 (s.setVm s.vm) m #[(.int p0), (.int p1), (.int p2)] below meth c s₁ [] 0 0 := Stand.of_body Bd
  have e0 : s₁.heap = h0 := by rw [← hh, Bd.state]; rfl
  have N0 := Fr.nil n0
  have tt := own_tt hx hby own_ok0
  have hS : s.Since s.vm h0.size := (State.WarmedH.refl s).since _
  show own_EndsW p e below s (Q0 Z B p0 p1 p2 cs wd kd vd wt kt vt h0 n0) _ _ s₁ _
  rw [ef_rm0 m p0 p1 p2]
  have I1 : IB Z s.vm [] := own_ib (B := Z) IB.start (hZB.symm ▸ hB)
  refine own_goW (T' := s₁) (f' := (mkF m 3 #[.val (.int p0), .val (.int p1), .val (.int p2), oU, oU, oU, oU, oU, oU, oU, oU, oU] [(.int (p2 &&& (1 : Int32)))])) (fun _ k => own_e X0 tt 0 3 k rfl) ?_
  by_cases hc1 : (p2 &&& (1 : Int32)) = (0 : Int32)
  · refine own_goW (T' := s₁) (f' := (mkF m 13 #[.val (.int p0), .val (.int p1), .val (.int p2), oI 0, oU, oU, oU, oU, oU, oU, oU, oU] [(.int p0)])) (fun _ k => XS.ifYes X0.here hx rfl (pc0 := 3) (pc' := 10) rfl (hb hby at_3) rfl ((if0 _ _).trans (teq hc1).1) (by decide) (by decide) (own_e X0 tt 10 3 k rfl)) ?_
    refine own_goW (T' := s₁) (f' := (mkF m 18 #[.val (.int p0), .val (.int p1), .val (.int p2), oI 0, .val (.int (p0 &&& (2147483647 : Int32))), oU, oU, oU, oU, oU, oU, oU] [])) (fun _ k => X0.ldcInt hx hown (mvT hZ (ow0 hw)) (g := (mkF m 13 #[.val (.int p0), .val (.int p1), .val (.int p2), oI 0, oU, oU, oU, oU, oU, oU, oU, oU] [(.int p0)])) rfl (hb hby at_13) _ (own_e X0 tt 15 2 k rfl)) ?_
    generalize hzx0 : (p0 &&& (2147483647 : Int32)) = zx0
    refine own_goW (T' := s₁) (f' := (mkF m 19 #[.val (.int p0), .val (.int p1), .val (.int p2), oI 0, .val (.int zx0), oU, oU, oU, oU, oU, oU, oU] [(.int p1)])) (fun _ k => own_e X0 tt 18 1 k rfl) ?_
    refine own_goW (T' := s₁) (f' := (mkF m 24 #[.val (.int p0), .val (.int p1), .val (.int p2), oI 0, .val (.int zx0), .val (.int (p1 &&& (2147483647 : Int32))), oU, oU, oU, oU, oU, oU] [])) (fun _ k => X0.ldcInt hx hown (mvT hZ (ow0 hw)) (g := (mkF m 19 #[.val (.int p0), .val (.int p1), .val (.int p2), oI 0, .val (.int zx0), oU, oU, oU, oU, oU, oU, oU] [(.int p1)])) rfl (hb hby at_19) _ (own_e X0 tt 21 2 k rfl)) ?_
    generalize hzy0 : (p1 &&& (2147483647 : Int32)) = zy0
    refine own_goW (T' := s₁) (f' := (mkF m 46 #[.val (.int p0), .val (.int p1), .val (.int p2), oI 0, .val (.int zx0), .val (.int zy0), oU, oU, oU, oU, oU, oU] [(.int zy0), (.int zx0)])) (fun _ k => own_e X0 tt 24 4 k rfl) ?_
    obtain ⟨_, T2, Lc2, X2, hQ2, st2⟩ := own_outC (Jvm.LawKit.callS X0 hx (y := mn0) hown (mvT hZ (ow1 hw)) (mvT hZ (ow2 hw)) (mvT hZ (ow3 hw)) (mvT hZ (ow4 hw)) (by decide) (backOf (W := 0) (rm1 l Z a0 hw [] zx0 zy0 h0 n0 Z0) hZ (ow4 hw) (ow3 hw) (by decide) (by decide)) (g := (mkF m 46 #[.val (.int p0), .val (.int p1), .val (.int p2), oI 0, .val (.int zx0), .val (.int zy0), oU, oU, oU, oU, oU, oU] [(.int zy0), (.int zx0)])) rfl (by rw [hml]; rfl) (argsL := [(.int zx0), (.int zy0)]) (rest := []) (lenOf pd12 rfl) rfl (by show 2 * 0 + _ ≤ _; exact Nat.le_of_eq rfl) (hb hby at_46) (fun _ _ => ⟨rfl, e0, (by decide : 0 + 0 ≤ _), (by decide : 0 + 0 ≤ _)⟩))
    obtain ⟨rfl, N2q, hh2⟩ := hQ2
    have N2 := Fr.app N0 N2q
    obtain ⟨_, X2, N2⟩ := own_hide X2 N2
    refine own_goW (T' := T2) (f' := (mkF m 51 #[.val (.int p0), .val (.int p1), .val (.int p2), oI 0, .val (.int zx0), .val (.int zy0), .val (.int (own_min zx0 zy0)), oU, oU, oU, oU, oU] [])) (fun _ k => st2 _ (own_e X2 tt 49 1 k rfl)) ?_
    generalize hzl : (own_min zx0 zy0) = zl
    refine own_goW (T' := T2) (f' := (mkF m 55 #[.val (.int p0), .val (.int p1), .val (.int p2), oI 0, .val (.int zx0), .val (.int zy0), .val (.int zl), oU, oU, oU, oU, oU] [(.int zy0), (.int zx0)])) (fun _ k => own_e X2 tt 51 2 k rfl) ?_
    obtain ⟨_, T3, Lc3, X3, hQ3, st3⟩ := own_outC (Jvm.LawKit.callS X2 hx (y := mn1) hown (mvT hZ (ow5 hw)) (mvT hZ (ow6 hw)) (mvT hZ (ow3 hw)) (mvT hZ (ow7 hw)) (by decide) (backOf (W := 0) (rm2 l Z a0 hw [] zx0 zy0 h0 n0 Z0) hZ (ow7 hw) (ow3 hw) (by decide) (by decide)) (g := (mkF m 55 #[.val (.int p0), .val (.int p1), .val (.int p2), oI 0, .val (.int zx0), .val (.int zy0), .val (.int zl), oU, oU, oU, oU, oU] [(.int zy0), (.int zx0)])) rfl (by rw [hml]; rfl) (argsL := [(.int zx0), (.int zy0)]) (rest := []) (lenOf pd12 rfl) rfl (by show 2 * 0 + _ ≤ _; exact Nat.le_of_eq rfl) (hb hby at_55) (fun _ _ => ⟨rfl, hh2, (by decide : 0 + 0 ≤ _), (by decide : 0 + 0 ≤ _)⟩))
    obtain ⟨rfl, N3q, hh3⟩ := hQ3
    have N3 := Fr.app N2 N3q
    obtain ⟨_, X3, N3⟩ := own_hide X3 N3
    refine own_goW (T' := T3) (f' := (mkF m 60 #[.val (.int p0), .val (.int p1), .val (.int p2), oI 0, .val (.int zx0), .val (.int zy0), .val (.int zl), .val (.int (own_max zx0 zy0)), oU, oU, oU, oU] [])) (fun _ k => st3 _ (own_e X3 tt 58 1 k rfl)) ?_
    generalize hzh : (own_max zx0 zy0) = zh
    have hx0 : ¬ zx0 < (0 : Int32) := by rw [← hzx0]; exact own_mk p0
    have hy0 : ¬ zy0 < (0 : Int32) := by rw [← hzy0]; exact own_mk p1
    have hmm := own_mm hx0 hy0
    rw [hzl, hzh] at hmm
    obtain ⟨hl0, hle⟩ := hmm
    refine own_goW (T' := T3) (f' := (mkF m 64 #[.val (.int p0), .val (.int p1), .val (.int p2), oI 0, .val (.int zx0), .val (.int zy0), .val (.int zl), .val (.int zh), oU, oU, oU, oU] [(.int zh), (.int zl)])) (fun _ k => own_e X3 tt 60 2 k rfl) ?_
    obtain ⟨_, T4, Lc4, X4, hS4, hgr4, hQ4, st4⟩ := own_outS (callSS X3 hx (y := mn31) hown (mvT hZ (ow8 hw)) (mvT hZ (ow9 hw)) (mvT hZ (ow10 hw)) (mvT hZ (ow11 hw)) (by decide) (own_backS (W := 0) (rm3g l Z a0 hw [] (s.setVm s.vm) zl zh cs wd kd vd wt kt vt h0 h0.size (Nat.le_refl _) S_cs hcs S_do V_do S_dt V_dt hst hd10 I1 (fun b cl q => (Keep.refl h0 []).2.1 b cl (by rw [hZh]; exact q) nin0) hcw hcA hcB rfl hl0 hle) hZ (ow11 hw) (ow10 hw) (by decide) (by decide)) (g := (mkF m 64 #[.val (.int p0), .val (.int p1), .val (.int p2), oI 0, .val (.int zx0), .val (.int zy0), .val (.int zl), .val (.int zh), oU, oU, oU, oU] [(.int zh), (.int zl)])) rfl (by rw [hml]; rfl) (argsL := [(.int zl), (.int zh)]) (rest := []) (lenOf pd13 rfl) rfl (by show 2 * 0 + _ ≤ _; exact Nat.le_of_eq rfl) (hb hby at_64) (fun _ _ => ⟨rfl, hh3, (by decide : 0 + 11 ≤ _), (by decide : 0 + 269 ≤ _)⟩))
    have hM4 := hS4
    obtain ⟨X4, hS, hZ, hown⟩ := rebS hS (by rw [hh3]; exact (Nat.le_refl _) : _ ≤ T3.heap.size) X4 hM4 hgr4 hZ hown
    obtain ⟨c4, a4, b4, k4, us4, rfl, N4q, K4, hn4, sg_c4, g4_0, g4_1, g4_2, g4_3, g4_4, g4_5, g4_6, g4_7⟩ := hQ4
    have n_c4 : n0 ≤ c4 := oT Z0 hn4
    have N4 := Fr.app N3 (own_fr N4q Z0)
    have sz_c4 : h0.size ≤ c4 := oT (Keep.refl h0 []).1 sg_c4
    have eK4 : T4.heap = T4.heap := rfl
    have KK4 : Keep h0 T4.heap [] := Keep.trans (Keep.refl h0 []) K4 all0
    obtain ⟨_, X4, N4⟩ := own_hide X4 N4
    refine own_goW (T' := T4) (f' := (mkF m 71 #[.val (.int p0), .val (.int p1), .val (.int p2), oI 0, .val (.int zx0), .val (.int zy0), .val (.int zl), .val (.int zh), oR c4, oU, oU, oU] [vR c4])) (fun _ k => st4.trans (own_e X4 tt 67 2 k rfl)) ?_
    obtain ⟨cq8, kq8, q8a, q8b, q8c⟩ := isOf hZ eK4 g4_0
    obtain ⟨_, T8, Lc8, X8, hQ8, st8⟩ := own_out (X4.virtualBack hx (y := mn32) (z := mn32) hown (mvT hZ (ow181 hw)) (mvT hZ (ow182 hw)) (notFace_of_selects (args := #[]) (mvT hZ (ow184 hw))) (mvT hZ (ow184 hw)) (mvT hZ (ow183 hw)) (by decide) (backOf (W := 0) (rm33a221 l Z a0 hw [] c4 zl T4.heap n0 (oT Z0 K4.1) g4_1) hZ (ow185 hw) (ow14 hw) (by decide) (by decide)) q8a q8c (g := (mkF m 71 #[.val (.int p0), .val (.int p1), .val (.int p2), oI 0, .val (.int zx0), .val (.int zy0), .val (.int zl), .val (.int zh), oR c4, oU, oU, oU] [vR c4])) rfl (by rw [hml]; rfl) (Steps.refl _) (argsL := []) (rest := []) (lenOf pd1 rfl) rfl (by show 2 * 0 + _ ≤ _; exact Nat.le_of_eq rfl) (hb hby at_71) (fun _ _ => ⟨rfl, eK4, (by decide : 11 + 0 ≤ _), (by decide : 269 + 0 ≤ _)⟩))
    obtain ⟨rfl, N8q, hh8⟩ := hQ8
    have N8 := Fr.app N4 N8q
    obtain ⟨_, X8, N8⟩ := own_hide X8 N8
    refine own_goW (T' := T8) (f' := (mkF m 76 #[.val (.int p0), .val (.int p1), .val (.int p2), oI 0, .val (.int zx0), .val (.int zy0), .val (.int zl), .val (.int zh), oR c4, oU, oU, oU] [(.int zl), (.int zl)])) (fun _ k => st8.trans (own_e X8 tt 74 1 k rfl)) ?_
    refine own_goW (T' := T8) (f' := (mkF m 81 #[.val (.int p0), .val (.int p1), .val (.int p2), oI 0, .val (.int zx0), .val (.int zy0), .val (.int zl), .val (.int zh), oR c4, oU, oU, oU] [vR c4])) (fun _ k => XS.icmpNo X8.here hx rfl (hb hby at_76) rfl (teq (rfl : zl = zl)).2 (own_e X8 tt 79 1 k rfl)) ?_
    obtain ⟨cq12, kq12, q12a, q12b, q12c⟩ := isOf hZ hh8 g4_0
    obtain ⟨_, T12, Lc12, X12, hQ12, st12⟩ := own_out (X8.virtualBack hx (y := mn33) (z := mn33) hown (mvT hZ (ow186 hw)) (mvT hZ (ow187 hw)) (notFace_of_selects (args := #[]) (mvT hZ (ow189 hw))) (mvT hZ (ow189 hw)) (mvT hZ (ow188 hw)) (by decide) (backOf (W := 0) (rm34a222 l Z a0 hw [] c4 (zh.toInt64) T4.heap n0 (oT Z0 K4.1) g4_2) hZ (ow190 hw) (ow14 hw) (by decide) (by decide)) q12a q12c (g := (mkF m 81 #[.val (.int p0), .val (.int p1), .val (.int p2), oI 0, .val (.int zx0), .val (.int zy0), .val (.int zl), .val (.int zh), oR c4, oU, oU, oU] [vR c4])) rfl (by rw [hml]; rfl) (Steps.refl _) (argsL := []) (rest := []) (lenOf pd2 rfl) rfl (by show 2 * 0 + _ ≤ _; exact Nat.le_of_eq rfl) (hb hby at_81) (fun _ _ => ⟨rfl, hh8, (by decide : 11 + 0 ≤ _), (by decide : 269 + 0 ≤ _)⟩))
    obtain ⟨rfl, N12q, hh12⟩ := hQ12
    have N12 := Fr.app N8 N12q
    obtain ⟨_, X12, N12⟩ := own_hide X12 N12
    refine own_goW (T' := T12) (f' := (mkF m 88 #[.val (.int p0), .val (.int p1), .val (.int p2), oI 0, .val (.int zx0), .val (.int zy0), .val (.int zl), .val (.int zh), oR c4, oU, oU, oU] [(.int (lcmpW (zh.toInt64) (zh.toInt64)))])) (fun _ k => st12.trans (own_e X12 tt 84 3 k rfl)) ?_
    refine own_goW (T' := T12) (f' := (mkF m 100 #[.val (.int p0), .val (.int p1), .val (.int p2), oI 0, .val (.int zx0), .val (.int zy0), .val (.int zl), .val (.int zh), oR c4, oI 1, oU, oU] [vR c4])) (fun _ k => XS.ifNo X12.here hx rfl (hb hby at_88) rfl ((if0 _ _).trans (teq ((own_lc_eq (a := (zh.toInt64)) (b := (zh.toInt64))).mpr (rfl : (zh.toInt64) = (zh.toInt64)))).2) (own_e X12 tt 91 4 k rfl)) ?_
    obtain ⟨cq16, kq16, q16a, q16b, q16c⟩ := isOf hZ hh12 g4_0
    obtain ⟨_, T16, Lc16, X16, hQ16, st16⟩ := own_out (X12.virtualBack hx (y := mn34) (z := mn34) hown (mvT hZ (ow191 hw)) (mvT hZ (ow192 hw)) (notFace_of_selects (args := #[]) (mvT hZ (ow194 hw))) (mvT hZ (ow194 hw)) (mvT hZ (ow193 hw)) (by decide) (backOf (W := 0) (rm35a223 l Z a0 hw [] c4 a4 T4.heap n0 (oT Z0 K4.1) g4_3) hZ (ow195 hw) (ow14 hw) (by decide) (by decide)) q16a q16c (g := (mkF m 100 #[.val (.int p0), .val (.int p1), .val (.int p2), oI 0, .val (.int zx0), .val (.int zy0), .val (.int zl), .val (.int zh), oR c4, oI 1, oU, oU] [vR c4])) rfl (by rw [hml]; rfl) (Steps.refl _) (argsL := []) (rest := []) (lenOf pd4 rfl) rfl (by show 2 * 0 + _ ≤ _; exact Nat.le_of_eq rfl) (hb hby at_100) (fun _ _ => ⟨rfl, hh12, (by decide : 11 + 0 ≤ _), (by decide : 269 + 0 ≤ _)⟩))
    obtain ⟨rfl, N16q, hh16⟩ := hQ16
    have N16 := Fr.app N12 N16q
    obtain ⟨_, X16, N16⟩ := own_hide X16 N16
    refine own_goW (T' := T16) (f' := (mkF m 117 #[.val (.int p0), .val (.int p1), .val (.int p2), oI 0, .val (.int zx0), .val (.int zy0), .val (.int zl), .val (.int zh), oR c4, oI 1, oR a4, oU] [vR a4])) (fun _ k => st16.trans (own_e X16 tt 103 6 k rfl)) ?_
    obtain ⟨cq21, kq21, q21a, q21b, q21c⟩ := isOf hZ hh16 g4_4
    obtain ⟨_, T21, Lc21, X21, hQ21, st21⟩ := own_out (X16.virtualBack hx (y := mn7) (z := mn7) hown (mvT hZ (ow196 hw)) (mvT hZ (ow54 hw)) (notFace_of_selects (args := #[]) (mvT hZ (ow56 hw))) (mvT hZ (ow56 hw)) (mvT hZ (ow55 hw)) (by decide) (backOf (W := 0) (rm9a224 l Z a0 hw [] a4 cs b4 k4 ((((17 : Int32) + (own_dg zl)) + (5 : Int32)) + (own_dg zh)) us4 T4.heap n0 (oT Z0 K4.1) (own_sta_keep S_cs K4 own_ws0) g4_4 g4_5 g4_6 g4_7 hcs) hZ (ow57 hw) (ow31 hw) (by decide) (by decide)) q21a q21c (g := (mkF m 117 #[.val (.int p0), .val (.int p1), .val (.int p2), oI 0, .val (.int zx0), .val (.int zy0), .val (.int zl), .val (.int zh), oR c4, oI 1, oR a4, oU] [vR a4])) rfl (by rw [hml]; rfl) (Steps.refl _) (argsL := []) (rest := []) (lenOf pd1 rfl) rfl (by show 2 * 0 + _ ≤ _; exact Nat.le_of_eq rfl) (hb hby at_117) (fun _ _ => ⟨rfl, hh16, (by decide : 11 + 0 ≤ _), (by decide : 269 + 0 ≤ _)⟩))
    obtain ⟨rfl, N21q, hh21⟩ := hQ21
    have N21 := Fr.app N16 N21q
    obtain ⟨_, X21, N21⟩ := own_hide X21 N21
    refine own_goW (T' := T21) (f' := (mkF m 124 #[.val (.int p0), .val (.int p1), .val (.int p2), oI 0, .val (.int zx0), .val (.int zy0), .val (.int zl), .val (.int zh), oR c4, oI 1, oR a4, oU] [(.int zl), vI 22, (.int (((((17 : Int32) + (own_dg zl)) + (5 : Int32)) + (own_dg zh)) >>> ((0 : Int32) &&& 31)))])) (fun _ k => st21.trans (own_e X21 tt 120 2 k rfl)) ?_
    obtain ⟨_, T22, Lc22, X22, hQ22, st22⟩ := own_outC (Jvm.LawKit.callS X21 hx (y := mn2) hown (mvT hZ (ow197 hw)) (mvT hZ (ow198 hw)) (mvT hZ (ow199 hw)) (mvT hZ (ow200 hw)) (by decide) (backOf (W := 2) (rm36 l Z a0 hw [] zl T4.heap n0 (oT Z0 K4.1)) hZ (ow200 hw) (ow199 hw) (by decide) (by decide)) (g := (mkF m 124 #[.val (.int p0), .val (.int p1), .val (.int p2), oI 0, .val (.int zx0), .val (.int zy0), .val (.int zl), .val (.int zh), oR c4, oI 1, oR a4, oU] [(.int zl), vI 22, (.int (((((17 : Int32) + (own_dg zl)) + (5 : Int32)) + (own_dg zh)) >>> ((0 : Int32) &&& 31)))])) rfl (by rw [hml]; rfl) (argsL := [(.int zl)]) (rest := [(.int (22 : Int32)), (.int (((((17 : Int32) + (own_dg zl)) + (5 : Int32)) + (own_dg zh)) >>> ((0 : Int32) &&& 31)))]) (lenOf pd8 rfl) rfl (by show 2 * 0 + _ ≤ _; exact Nat.le_of_eq rfl) (hb hby at_124) (fun _ _ => ⟨rfl, hh21, (by decide : 11 + 0 ≤ _), (by decide : 269 + 0 ≤ _)⟩))
    obtain ⟨rfl, N22q, hh22⟩ := hQ22
    have N22 := Fr.app N21 N22q
    obtain ⟨_, X22, N22⟩ := own_hide X22 N22
    refine own_goW (T' := T22) (f' := (mkF m 130 #[.val (.int p0), .val (.int p1), .val (.int p2), oI 0, .val (.int zx0), .val (.int zy0), .val (.int zl), .val (.int zh), oR c4, oI 1, oR a4, oU] [(.int zh), (.int ((22 : Int32) + (own_dg zl))), (.int (((((17 : Int32) + (own_dg zl)) + (5 : Int32)) + (own_dg zh)) >>> ((0 : Int32) &&& 31)))])) (fun _ k => st22 _ (own_e X22 tt 127 2 k rfl)) ?_
    obtain ⟨_, T23, Lc23, X23, hQ23, st23⟩ := own_outC (Jvm.LawKit.callS X22 hx (y := mn2) hown (mvT hZ (ow197 hw)) (mvT hZ (ow198 hw)) (mvT hZ (ow199 hw)) (mvT hZ (ow200 hw)) (by decide) (backOf (W := 2) (rm36 l Z a0 hw [] zh T4.heap n0 (oT Z0 K4.1)) hZ (ow200 hw) (ow199 hw) (by decide) (by decide)) (g := (mkF m 130 #[.val (.int p0), .val (.int p1), .val (.int p2), oI 0, .val (.int zx0), .val (.int zy0), .val (.int zl), .val (.int zh), oR c4, oI 1, oR a4, oU] [(.int zh), (.int ((22 : Int32) + (own_dg zl))), (.int (((((17 : Int32) + (own_dg zl)) + (5 : Int32)) + (own_dg zh)) >>> ((0 : Int32) &&& 31)))])) rfl (by rw [hml]; rfl) (argsL := [(.int zh)]) (rest := [(.int ((22 : Int32) + (own_dg zl))), (.int (((((17 : Int32) + (own_dg zl)) + (5 : Int32)) + (own_dg zh)) >>> ((0 : Int32) &&& 31)))]) (lenOf pd8 rfl) rfl (by show 2 * 0 + _ ≤ _; exact Nat.le_of_eq rfl) (hb hby at_130) (fun _ _ => ⟨rfl, hh22, (by decide : 11 + 0 ≤ _), (by decide : 269 + 0 ≤ _)⟩))
    obtain ⟨rfl, N23q, hh23⟩ := hQ23
    have N23 := Fr.app N22 N23q
    obtain ⟨_, X23, N23⟩ := own_hide X23 N23
    refine own_goW (T' := T23) (f' := (mkF m 134 #[.val (.int p0), .val (.int p1), .val (.int p2), oI 0, .val (.int zx0), .val (.int zy0), .val (.int zl), .val (.int zh), oR c4, oI 1, oR a4, oU] [(.int (((22 : Int32) + (own_dg zl)) + (own_dg zh))), (.int (((((17 : Int32) + (own_dg zl)) + (5 : Int32)) + (own_dg zh)) >>> ((0 : Int32) &&& 31)))])) (fun _ k => st23 _ (own_e X23 tt 133 1 k rfl)) ?_
    refine own_goW (T' := T23) (f' := (mkF m 323 #[.val (.int p0), .val (.int p1), .val (.int p2), oI 0, .val (.int zx0), .val (.int zy0), .val (.int zl), .val (.int zh), oR c4, oI 1, oR a4, oU] [vI 1])) (fun _ k => XS.icmpNo X23.here hx rfl (hb hby at_134) rfl (teq (own_lg zl zh)).2 (own_e X23 tt 137 8 k rfl)) ?_
    refine own_retW X23 hS (by rw [hh23]; exact (Nat.le_refl _)) (v := some (.int (1 : Int32))) (oN Bd.returns) Bd.notSynchronized (fun fs hr => retN X23 hx (t := .boolean) Bd.returns (by simp) (hb hby at_323) hr) ?_ (by decide) (by decide)
    show Q0 Z B p0 p1 p2 cs wd kd vd wt kt vt h0 n0 _ T23.heap T23.vm _
    exact ⟨rfl, N23⟩
  · refine own_goW (T' := s₁) (f' := (mkF m 13 #[.val (.int p0), .val (.int p1), .val (.int p2), oI 1, oU, oU, oU, oU, oU, oU, oU, oU] [(.int p0)])) (fun _ k => XS.ifNo X0.here hx rfl (hb hby at_3) rfl ((if0 _ _).trans (feq hc1).1) (own_e X0 tt 6 4 k rfl)) ?_
    refine own_goW (T' := s₁) (f' := (mkF m 18 #[.val (.int p0), .val (.int p1), .val (.int p2), oI 1, .val (.int (p0 &&& (2147483647 : Int32))), oU, oU, oU, oU, oU, oU, oU] [])) (fun _ k => X0.ldcInt hx hown (mvT hZ (ow0 hw)) (g := (mkF m 13 #[.val (.int p0), .val (.int p1), .val (.int p2), oI 1, oU, oU, oU, oU, oU, oU, oU, oU] [(.int p0)])) rfl (hb hby at_13) _ (own_e X0 tt 15 2 k rfl)) ?_
    generalize hzx0 : (p0 &&& (2147483647 : Int32)) = zx0
    refine own_goW (T' := s₁) (f' := (mkF m 19 #[.val (.int p0), .val (.int p1), .val (.int p2), oI 1, .val (.int zx0), oU, oU, oU, oU, oU, oU, oU] [(.int p1)])) (fun _ k => own_e X0 tt 18 1 k rfl) ?_
    refine own_goW (T' := s₁) (f' := (mkF m 24 #[.val (.int p0), .val (.int p1), .val (.int p2), oI 1, .val (.int zx0), .val (.int (p1 &&& (2147483647 : Int32))), oU, oU, oU, oU, oU, oU] [])) (fun _ k => X0.ldcInt hx hown (mvT hZ (ow0 hw)) (g := (mkF m 19 #[.val (.int p0), .val (.int p1), .val (.int p2), oI 1, .val (.int zx0), oU, oU, oU, oU, oU, oU, oU] [(.int p1)])) rfl (hb hby at_19) _ (own_e X0 tt 21 2 k rfl)) ?_
    generalize hzy0 : (p1 &&& (2147483647 : Int32)) = zy0
    refine own_goW (T' := s₁) (f' := (mkF m 32 #[.val (.int p0), .val (.int p1), .val (.int p2), oI 1, .val (.int zx0), .val (.int zy0), oU, oU, oU, oU, oU, oU] [vI 10, (.int zx0)])) (fun _ k => own_e X0 tt 24 4 k rfl) ?_
    refine own_goW (T' := s₁) (f' := (mkF m 35 #[.val (.int p0), .val (.int p1), .val (.int p2), oI 1, .val (.int (zx0 % (10 : Int32))), .val (.int zy0), oU, oU, oU, oU, oU, oU] [])) (fun _ k => iremM X0 hx rfl (hb hby at_32) rfl (by decide) (own_e X0 tt 33 1 k rfl)) ?_
    generalize hzx : (zx0 % (10 : Int32)) = zx
    refine own_goW (T' := s₁) (f' := (mkF m 39 #[.val (.int p0), .val (.int p1), .val (.int p2), oI 1, .val (.int zx), .val (.int zy0), oU, oU, oU, oU, oU, oU] [vI 10, (.int zy0)])) (fun _ k => own_e X0 tt 35 2 k rfl) ?_
    refine own_goW (T' := s₁) (f' := (mkF m 42 #[.val (.int p0), .val (.int p1), .val (.int p2), oI 1, .val (.int zx), .val (.int (zy0 % (10 : Int32))), oU, oU, oU, oU, oU, oU] [])) (fun _ k => iremM X0 hx rfl (hb hby at_39) rfl (by decide) (own_e X0 tt 40 1 k rfl)) ?_
    generalize hzy : (zy0 % (10 : Int32)) = zy
    refine own_goW (T' := s₁) (f' := (mkF m 46 #[.val (.int p0), .val (.int p1), .val (.int p2), oI 1, .val (.int zx), .val (.int zy), oU, oU, oU, oU, oU, oU] [(.int zy), (.int zx)])) (fun _ k => own_e X0 tt 42 2 k rfl) ?_
    obtain ⟨_, T24, Lc24, X24, hQ24, st24⟩ := own_outC (Jvm.LawKit.callS X0 hx (y := mn0) hown (mvT hZ (ow1 hw)) (mvT hZ (ow2 hw)) (mvT hZ (ow3 hw)) (mvT hZ (ow4 hw)) (by decide) (backOf (W := 0) (rm1 l Z a0 hw [] zx zy h0 n0 Z0) hZ (ow4 hw) (ow3 hw) (by decide) (by decide)) (g := (mkF m 46 #[.val (.int p0), .val (.int p1), .val (.int p2), oI 1, .val (.int zx), .val (.int zy), oU, oU, oU, oU, oU, oU] [(.int zy), (.int zx)])) rfl (by rw [hml]; rfl) (argsL := [(.int zx), (.int zy)]) (rest := []) (lenOf pd12 rfl) rfl (by show 2 * 0 + _ ≤ _; exact Nat.le_of_eq rfl) (hb hby at_46) (fun _ _ => ⟨rfl, e0, (by decide : 0 + 0 ≤ _), (by decide : 0 + 0 ≤ _)⟩))
    obtain ⟨rfl, N24q, hh24⟩ := hQ24
    have N24 := Fr.app N0 N24q
    obtain ⟨_, X24, N24⟩ := own_hide X24 N24
    refine own_goW (T' := T24) (f' := (mkF m 51 #[.val (.int p0), .val (.int p1), .val (.int p2), oI 1, .val (.int zx), .val (.int zy), .val (.int (own_min zx zy)), oU, oU, oU, oU, oU] [])) (fun _ k => st24 _ (own_e X24 tt 49 1 k rfl)) ?_
    generalize hzl : (own_min zx zy) = zl
    refine own_goW (T' := T24) (f' := (mkF m 55 #[.val (.int p0), .val (.int p1), .val (.int p2), oI 1, .val (.int zx), .val (.int zy), .val (.int zl), oU, oU, oU, oU, oU] [(.int zy), (.int zx)])) (fun _ k => own_e X24 tt 51 2 k rfl) ?_
    obtain ⟨_, T25, Lc25, X25, hQ25, st25⟩ := own_outC (Jvm.LawKit.callS X24 hx (y := mn1) hown (mvT hZ (ow5 hw)) (mvT hZ (ow6 hw)) (mvT hZ (ow3 hw)) (mvT hZ (ow7 hw)) (by decide) (backOf (W := 0) (rm2 l Z a0 hw [] zx zy h0 n0 Z0) hZ (ow7 hw) (ow3 hw) (by decide) (by decide)) (g := (mkF m 55 #[.val (.int p0), .val (.int p1), .val (.int p2), oI 1, .val (.int zx), .val (.int zy), .val (.int zl), oU, oU, oU, oU, oU] [(.int zy), (.int zx)])) rfl (by rw [hml]; rfl) (argsL := [(.int zx), (.int zy)]) (rest := []) (lenOf pd12 rfl) rfl (by show 2 * 0 + _ ≤ _; exact Nat.le_of_eq rfl) (hb hby at_55) (fun _ _ => ⟨rfl, hh24, (by decide : 0 + 0 ≤ _), (by decide : 0 + 0 ≤ _)⟩))
    obtain ⟨rfl, N25q, hh25⟩ := hQ25
    have N25 := Fr.app N24 N25q
    obtain ⟨_, X25, N25⟩ := own_hide X25 N25
    refine own_goW (T' := T25) (f' := (mkF m 60 #[.val (.int p0), .val (.int p1), .val (.int p2), oI 1, .val (.int zx), .val (.int zy), .val (.int zl), .val (.int (own_max zx zy)), oU, oU, oU, oU] [])) (fun _ k => st25 _ (own_e X25 tt 58 1 k rfl)) ?_
    generalize hzh : (own_max zx zy) = zh
    have hx0 : ¬ zx0 < (0 : Int32) := by rw [← hzx0]; exact own_mk p0
    have hy0 : ¬ zy0 < (0 : Int32) := by rw [← hzy0]; exact own_mk p1
    have hmx := own_m10 hx0
    have hmy := own_m10 hy0
    rw [hzx] at hmx
    rw [hzy] at hmy
    have hmm := own_mm hmx.1 hmy.1
    rw [hzl, hzh] at hmm
    have hh10 : zh < (10 : Int32) := by rw [← hzh]; exact own_mx10 hmx.2 hmy.2
    obtain ⟨hl0, hle⟩ := hmm
    refine own_goW (T' := T25) (f' := (mkF m 64 #[.val (.int p0), .val (.int p1), .val (.int p2), oI 1, .val (.int zx), .val (.int zy), .val (.int zl), .val (.int zh), oU, oU, oU, oU] [(.int zh), (.int zl)])) (fun _ k => own_e X25 tt 60 2 k rfl) ?_
    obtain ⟨_, T26, Lc26, X26, hS26, hgr26, hQ26, st26⟩ := own_outS (callSS X25 hx (y := mn31) hown (mvT hZ (ow8 hw)) (mvT hZ (ow9 hw)) (mvT hZ (ow10 hw)) (mvT hZ (ow11 hw)) (by decide) (own_backS (W := 0) (rm3s l Z a0 hw [] (s.setVm s.vm) zl zh cs wd kd vd wt kt vt h0 h0.size (Nat.le_refl _) S_cs hcs S_do V_do S_dt V_dt hst hd10 I1 (fun b cl q => (Keep.refl h0 []).2.1 b cl (by rw [hZh]; exact q) nin0) hcw hcA hcB rfl hl0 hle hh10) hZ (ow11 hw) (ow10 hw) (by decide) (by decide)) (g := (mkF m 64 #[.val (.int p0), .val (.int p1), .val (.int p2), oI 1, .val (.int zx), .val (.int zy), .val (.int zl), .val (.int zh), oU, oU, oU, oU] [(.int zh), (.int zl)])) rfl (by rw [hml]; rfl) (argsL := [(.int zl), (.int zh)]) (rest := []) (lenOf pd13 rfl) rfl (by show 2 * 0 + _ ≤ _; exact Nat.le_of_eq rfl) (hb hby at_64) (fun _ _ => ⟨rfl, hh25, (by decide : 0 + 10 ≤ _), (by decide : 0 + 181 ≤ _)⟩))
    have hM26 := hS26
    obtain ⟨X26, hS, hZ, hown⟩ := rebS hS (by rw [hh25]; exact (Nat.le_refl _) : _ ≤ T25.heap.size) X26 hM26 hgr26 hZ hown
    obtain ⟨c26, a26, b26, k26, rfl, N26q, K26, hn26, sg_c26, g26_0, g26_1, g26_2, g26_3, g26_4, g26_5, g26_6, g26_7⟩ := hQ26
    have n_c26 : n0 ≤ c26 := oT Z0 hn26
    have N26 := Fr.app N25 (own_fr N26q Z0)
    have sz_c26 : h0.size ≤ c26 := oT (Keep.refl h0 []).1 sg_c26
    have eK26 : T26.heap = T26.heap := rfl
    have KK26 : Keep h0 T26.heap [] := Keep.trans (Keep.refl h0 []) K26 all0
    obtain ⟨_, X26, N26⟩ := own_hide X26 N26
    refine own_goW (T' := T26) (f' := (mkF m 71 #[.val (.int p0), .val (.int p1), .val (.int p2), oI 1, .val (.int zx), .val (.int zy), .val (.int zl), .val (.int zh), oR c26, oU, oU, oU] [vR c26])) (fun _ k => st26.trans (own_e X26 tt 67 2 k rfl)) ?_
    obtain ⟨cq27, kq27, q27a, q27b, q27c⟩ := isOf hZ eK26 g26_0
    obtain ⟨_, T27, Lc27, X27, hQ27, st27⟩ := own_out (X26.virtualBack hx (y := mn32) (z := mn32) hown (mvT hZ (ow181 hw)) (mvT hZ (ow182 hw)) (notFace_of_selects (args := #[]) (mvT hZ (ow184 hw))) (mvT hZ (ow184 hw)) (mvT hZ (ow183 hw)) (by decide) (backOf (W := 0) (rm33a221 l Z a0 hw [] c26 zl T26.heap n0 (oT Z0 K26.1) g26_1) hZ (ow185 hw) (ow14 hw) (by decide) (by decide)) q27a q27c (g := (mkF m 71 #[.val (.int p0), .val (.int p1), .val (.int p2), oI 1, .val (.int zx), .val (.int zy), .val (.int zl), .val (.int zh), oR c26, oU, oU, oU] [vR c26])) rfl (by rw [hml]; rfl) (Steps.refl _) (argsL := []) (rest := []) (lenOf pd1 rfl) rfl (by show 2 * 0 + _ ≤ _; exact Nat.le_of_eq rfl) (hb hby at_71) (fun _ _ => ⟨rfl, eK26, (by decide : 10 + 0 ≤ _), (by decide : 181 + 0 ≤ _)⟩))
    obtain ⟨rfl, N27q, hh27⟩ := hQ27
    have N27 := Fr.app N26 N27q
    obtain ⟨_, X27, N27⟩ := own_hide X27 N27
    refine own_goW (T' := T27) (f' := (mkF m 76 #[.val (.int p0), .val (.int p1), .val (.int p2), oI 1, .val (.int zx), .val (.int zy), .val (.int zl), .val (.int zh), oR c26, oU, oU, oU] [(.int zl), (.int zl)])) (fun _ k => st27.trans (own_e X27 tt 74 1 k rfl)) ?_
    refine own_goW (T' := T27) (f' := (mkF m 81 #[.val (.int p0), .val (.int p1), .val (.int p2), oI 1, .val (.int zx), .val (.int zy), .val (.int zl), .val (.int zh), oR c26, oU, oU, oU] [vR c26])) (fun _ k => XS.icmpNo X27.here hx rfl (hb hby at_76) rfl (teq (rfl : zl = zl)).2 (own_e X27 tt 79 1 k rfl)) ?_
    obtain ⟨cq28, kq28, q28a, q28b, q28c⟩ := isOf hZ hh27 g26_0
    obtain ⟨_, T28, Lc28, X28, hQ28, st28⟩ := own_out (X27.virtualBack hx (y := mn33) (z := mn33) hown (mvT hZ (ow186 hw)) (mvT hZ (ow187 hw)) (notFace_of_selects (args := #[]) (mvT hZ (ow189 hw))) (mvT hZ (ow189 hw)) (mvT hZ (ow188 hw)) (by decide) (backOf (W := 0) (rm34a222 l Z a0 hw [] c26 (zh.toInt64) T26.heap n0 (oT Z0 K26.1) g26_2) hZ (ow190 hw) (ow14 hw) (by decide) (by decide)) q28a q28c (g := (mkF m 81 #[.val (.int p0), .val (.int p1), .val (.int p2), oI 1, .val (.int zx), .val (.int zy), .val (.int zl), .val (.int zh), oR c26, oU, oU, oU] [vR c26])) rfl (by rw [hml]; rfl) (Steps.refl _) (argsL := []) (rest := []) (lenOf pd2 rfl) rfl (by show 2 * 0 + _ ≤ _; exact Nat.le_of_eq rfl) (hb hby at_81) (fun _ _ => ⟨rfl, hh27, (by decide : 10 + 0 ≤ _), (by decide : 181 + 0 ≤ _)⟩))
    obtain ⟨rfl, N28q, hh28⟩ := hQ28
    have N28 := Fr.app N27 N28q
    obtain ⟨_, X28, N28⟩ := own_hide X28 N28
    refine own_goW (T' := T28) (f' := (mkF m 88 #[.val (.int p0), .val (.int p1), .val (.int p2), oI 1, .val (.int zx), .val (.int zy), .val (.int zl), .val (.int zh), oR c26, oU, oU, oU] [(.int (lcmpW (zh.toInt64) (zh.toInt64)))])) (fun _ k => st28.trans (own_e X28 tt 84 3 k rfl)) ?_
    refine own_goW (T' := T28) (f' := (mkF m 100 #[.val (.int p0), .val (.int p1), .val (.int p2), oI 1, .val (.int zx), .val (.int zy), .val (.int zl), .val (.int zh), oR c26, oI 1, oU, oU] [vR c26])) (fun _ k => XS.ifNo X28.here hx rfl (hb hby at_88) rfl ((if0 _ _).trans (teq ((own_lc_eq (a := (zh.toInt64)) (b := (zh.toInt64))).mpr (rfl : (zh.toInt64) = (zh.toInt64)))).2) (own_e X28 tt 91 4 k rfl)) ?_
    obtain ⟨cq29, kq29, q29a, q29b, q29c⟩ := isOf hZ hh28 g26_0
    obtain ⟨_, T29, Lc29, X29, hQ29, st29⟩ := own_out (X28.virtualBack hx (y := mn34) (z := mn34) hown (mvT hZ (ow191 hw)) (mvT hZ (ow192 hw)) (notFace_of_selects (args := #[]) (mvT hZ (ow194 hw))) (mvT hZ (ow194 hw)) (mvT hZ (ow193 hw)) (by decide) (backOf (W := 0) (rm35a223 l Z a0 hw [] c26 a26 T26.heap n0 (oT Z0 K26.1) g26_3) hZ (ow195 hw) (ow14 hw) (by decide) (by decide)) q29a q29c (g := (mkF m 100 #[.val (.int p0), .val (.int p1), .val (.int p2), oI 1, .val (.int zx), .val (.int zy), .val (.int zl), .val (.int zh), oR c26, oI 1, oU, oU] [vR c26])) rfl (by rw [hml]; rfl) (Steps.refl _) (argsL := []) (rest := []) (lenOf pd4 rfl) rfl (by show 2 * 0 + _ ≤ _; exact Nat.le_of_eq rfl) (hb hby at_100) (fun _ _ => ⟨rfl, hh28, (by decide : 10 + 0 ≤ _), (by decide : 181 + 0 ≤ _)⟩))
    obtain ⟨rfl, N29q, hh29⟩ := hQ29
    have N29 := Fr.app N28 N29q
    obtain ⟨_, X29, N29⟩ := own_hide X29 N29
    refine own_goW (T' := T29) (f' := (mkF m 117 #[.val (.int p0), .val (.int p1), .val (.int p2), oI 1, .val (.int zx), .val (.int zy), .val (.int zl), .val (.int zh), oR c26, oI 1, oR a26, oU] [vR a26])) (fun _ k => st29.trans (own_e X29 tt 103 6 k rfl)) ?_
    obtain ⟨cq35, kq35, q35a, q35b, q35c⟩ := isOf hZ hh29 g26_4
    obtain ⟨_, T35, Lc35, X35, hQ35, st35⟩ := own_out (X29.virtualBack hx (y := mn7) (z := mn7) hown (mvT hZ (ow196 hw)) (mvT hZ (ow54 hw)) (notFace_of_selects (args := #[]) (mvT hZ (ow56 hw))) (mvT hZ (ow56 hw)) (mvT hZ (ow55 hw)) (by decide) (backOf (W := 0) (rm9a225 l Z a0 hw [] a26 cs b26 k26 (nar .byte ((48 : Int32) + zl)) (nar .byte ((48 : Int32) + zh)) T26.heap n0 (oT Z0 K26.1) (own_sta_keep S_cs K26 own_ws0) g26_4 g26_5 g26_6 g26_7 hcs) hZ (ow57 hw) (ow31 hw) (by decide) (by decide)) q35a q35c (g := (mkF m 117 #[.val (.int p0), .val (.int p1), .val (.int p2), oI 1, .val (.int zx), .val (.int zy), .val (.int zl), .val (.int zh), oR c26, oI 1, oR a26, oU] [vR a26])) rfl (by rw [hml]; rfl) (Steps.refl _) (argsL := []) (rest := []) (lenOf pd1 rfl) rfl (by show 2 * 0 + _ ≤ _; exact Nat.le_of_eq rfl) (hb hby at_117) (fun _ _ => ⟨rfl, hh29, (by decide : 10 + 0 ≤ _), (by decide : 181 + 0 ≤ _)⟩))
    obtain ⟨rfl, N35q, hh35⟩ := hQ35
    have N35 := Fr.app N29 N35q
    obtain ⟨_, X35, N35⟩ := own_hide X35 N35
    refine own_goW (T' := T35) (f' := (mkF m 124 #[.val (.int p0), .val (.int p1), .val (.int p2), oI 1, .val (.int zx), .val (.int zy), .val (.int zl), .val (.int zh), oR c26, oI 1, oR a26, oU] [(.int zl), vI 22, vI 24])) (fun _ k => st35.trans (own_e X35 tt 120 2 k rfl)) ?_
    obtain ⟨_, T36, Lc36, X36, hQ36, st36⟩ := own_outC (Jvm.LawKit.callS X35 hx (y := mn2) hown (mvT hZ (ow197 hw)) (mvT hZ (ow198 hw)) (mvT hZ (ow199 hw)) (mvT hZ (ow200 hw)) (by decide) (backOf (W := 2) (rm36 l Z a0 hw [] zl T26.heap n0 (oT Z0 K26.1)) hZ (ow200 hw) (ow199 hw) (by decide) (by decide)) (g := (mkF m 124 #[.val (.int p0), .val (.int p1), .val (.int p2), oI 1, .val (.int zx), .val (.int zy), .val (.int zl), .val (.int zh), oR c26, oI 1, oR a26, oU] [(.int zl), vI 22, vI 24])) rfl (by rw [hml]; rfl) (argsL := [(.int zl)]) (rest := [(.int (22 : Int32)), (.int (24 : Int32))]) (lenOf pd8 rfl) rfl (by show 2 * 0 + _ ≤ _; exact Nat.le_of_eq rfl) (hb hby at_124) (fun _ _ => ⟨rfl, hh35, (by decide : 10 + 0 ≤ _), (by decide : 181 + 0 ≤ _)⟩))
    obtain ⟨rfl, N36q, hh36⟩ := hQ36
    have N36 := Fr.app N35 N36q
    obtain ⟨_, X36, N36⟩ := own_hide X36 N36
    refine own_goW (T' := T36) (f' := (mkF m 130 #[.val (.int p0), .val (.int p1), .val (.int p2), oI 1, .val (.int zx), .val (.int zy), .val (.int zl), .val (.int zh), oR c26, oI 1, oR a26, oU] [(.int zh), (.int ((22 : Int32) + (own_dg zl))), vI 24])) (fun _ k => st36 _ (own_e X36 tt 127 2 k rfl)) ?_
    obtain ⟨_, T37, Lc37, X37, hQ37, st37⟩ := own_outC (Jvm.LawKit.callS X36 hx (y := mn2) hown (mvT hZ (ow197 hw)) (mvT hZ (ow198 hw)) (mvT hZ (ow199 hw)) (mvT hZ (ow200 hw)) (by decide) (backOf (W := 2) (rm36 l Z a0 hw [] zh T26.heap n0 (oT Z0 K26.1)) hZ (ow200 hw) (ow199 hw) (by decide) (by decide)) (g := (mkF m 130 #[.val (.int p0), .val (.int p1), .val (.int p2), oI 1, .val (.int zx), .val (.int zy), .val (.int zl), .val (.int zh), oR c26, oI 1, oR a26, oU] [(.int zh), (.int ((22 : Int32) + (own_dg zl))), vI 24])) rfl (by rw [hml]; rfl) (argsL := [(.int zh)]) (rest := [(.int ((22 : Int32) + (own_dg zl))), (.int (24 : Int32))]) (lenOf pd8 rfl) rfl (by show 2 * 0 + _ ≤ _; exact Nat.le_of_eq rfl) (hb hby at_130) (fun _ _ => ⟨rfl, hh36, (by decide : 10 + 0 ≤ _), (by decide : 181 + 0 ≤ _)⟩))
    obtain ⟨rfl, N37q, hh37⟩ := hQ37
    have N37 := Fr.app N36 N37q
    obtain ⟨_, X37, N37⟩ := own_hide X37 N37
    refine own_goW (T' := T37) (f' := (mkF m 134 #[.val (.int p0), .val (.int p1), .val (.int p2), oI 1, .val (.int zx), .val (.int zy), .val (.int zl), .val (.int zh), oR c26, oI 1, oR a26, oU] [(.int (((22 : Int32) + (own_dg zl)) + (own_dg zh))), vI 24])) (fun _ k => st37 _ (own_e X37 tt 133 1 k rfl)) ?_
    refine own_goW (T' := T37) (f' := (mkF m 155 #[.val (.int p0), .val (.int p1), .val (.int p2), oI 1, .val (.int zx), .val (.int zy), .val (.int zl), .val (.int zh), oR c26, oI 1, oR a26, oU] [vI 24])) (fun _ k => XS.icmpNo X37.here hx rfl (hb hby at_134) rfl (teq (own_l24 hl0 hle hh10)).2 (own_e X37 tt 137 8 k rfl)) ?_
    obtain ⟨T38, h38, k38, X38, e38, E38, A38, EA38, st38⟩ := newPE (aty := .char) X37 hx hZ (ow201 hw) hh37 (g := (mkF m 155 #[.val (.int p0), .val (.int p1), .val (.int p2), oI 1, .val (.int zx), .val (.int zy), .val (.int zl), .val (.int zh), oR c26, oI 1, oR a26, oU] [vI 24])) rfl (hb hby at_155) rfl (by decide) (cap := 24) (by decide) (by decide) (by decide) (by decide) (ad := "[C") (by decide +kernel)
    obtain ⟨b38, g_b38⟩ : ∃ z, z = T26.heap.size := ⟨_, rfl⟩
    have sg_b38 : T26.heap.size ≤ b38 := Nat.le_of_eq g_b38.symm
    rw [← g_b38] at A38 EA38 st38
    have n_b38 := oT (oT Z0 K26.1) sg_b38
    have sz_b38 := oT KK26.1 sg_b38
    have K38 : Keep h0 h38 [] := KK26.ext E38
    have V_b38 : Arv Z h38 b38 k38 .char (24 : Int32) own_ls5 (.int (0 : Int32)) := (Arv.new A38 (by decide)).pad (pad_rep [] (.int (0 : Int32)) 24)
    refine own_goW (T' := T38) (f' := (mkF m 161 #[.val (.int p0), .val (.int p1), .val (.int p2), oI 1, .val (.int zx), .val (.int zy), .val (.int zl), .val (.int zh), oR c26, oI 1, oR a26, oU] [vI 101, vI 0, vR b38, vR b38])) (fun _ k => st38 _ (own_e X38 tt 157 3 k rfl)) ?_
    obtain ⟨T39, h39, X39, e39, W39, V39, st39⟩ := own_stC X38 hx hZ e38 V_b38 (j := (0 : Int32)) ⟨by decide, by decide⟩ 0 rfl (Nat.le_of_ble_eq_true rfl) (g := (mkF m 161 #[.val (.int p0), .val (.int p1), .val (.int p2), oI 1, .val (.int zx), .val (.int zy), .val (.int zl), .val (.int zh), oR c26, oI 1, oR a26, oU] [vI 101, vI 0, vR b38, vR b38])) rfl rfl (hb hby at_161)
    have K39 : Keep h0 h39 [] := K38.wr W39 (Or.inr sz_b38)
    have V39s : Arv Z h39 b38 k38 .char (24 : Int32) own_ls6 (.int (0 : Int32)) := V39
    have N39 := Fr.snoc X39 N37 n_b38
    refine own_goW (T' := T39) (f' := (mkF m 166 #[.val (.int p0), .val (.int p1), .val (.int p2), oI 1, .val (.int zx), .val (.int zy), .val (.int zl), .val (.int zh), oR c26, oI 1, oR a26, oU] [vI 120, vI 1, vR b38, vR b38])) (fun _ k => st39 _ (own_e X39 tt 162 3 k rfl)) ?_
    obtain ⟨T40, h40, X40, e40, W40, V40, st40⟩ := own_stC X39 hx hZ e39 V39s (j := (1 : Int32)) ⟨by decide, by decide⟩ 1 rfl (Nat.le_of_ble_eq_true rfl) (g := (mkF m 166 #[.val (.int p0), .val (.int p1), .val (.int p2), oI 1, .val (.int zx), .val (.int zy), .val (.int zl), .val (.int zh), oR c26, oI 1, oR a26, oU] [vI 120, vI 1, vR b38, vR b38])) rfl rfl (hb hby at_166)
    have K40 : Keep h0 h40 [] := K39.wr W40 (Or.inr sz_b38)
    have V40s : Arv Z h40 b38 k38 .char (24 : Int32) own_ls7 (.int (0 : Int32)) := V40
    have N40 := Fr.snoc X40 N39 n_b38
    refine own_goW (T' := T40) (f' := (mkF m 171 #[.val (.int p0), .val (.int p1), .val (.int p2), oI 1, .val (.int zx), .val (.int zy), .val (.int zl), .val (.int zh), oR c26, oI 1, oR a26, oU] [vI 112, vI 2, vR b38, vR b38])) (fun _ k => st40 _ (own_e X40 tt 167 3 k rfl)) ?_
    obtain ⟨T41, h41, X41, e41, W41, V41, st41⟩ := own_stC X40 hx hZ e40 V40s (j := (2 : Int32)) ⟨by decide, by decide⟩ 2 rfl (Nat.le_of_ble_eq_true rfl) (g := (mkF m 171 #[.val (.int p0), .val (.int p1), .val (.int p2), oI 1, .val (.int zx), .val (.int zy), .val (.int zl), .val (.int zh), oR c26, oI 1, oR a26, oU] [vI 112, vI 2, vR b38, vR b38])) rfl rfl (hb hby at_171)
    have K41 : Keep h0 h41 [] := K40.wr W41 (Or.inr sz_b38)
    have V41s : Arv Z h41 b38 k38 .char (24 : Int32) own_ls8 (.int (0 : Int32)) := V41
    have N41 := Fr.snoc X41 N40 n_b38
    refine own_goW (T' := T41) (f' := (mkF m 176 #[.val (.int p0), .val (.int p1), .val (.int p2), oI 1, .val (.int zx), .val (.int zy), .val (.int zl), .val (.int zh), oR c26, oI 1, oR a26, oU] [vI 101, vI 3, vR b38, vR b38])) (fun _ k => st41 _ (own_e X41 tt 172 3 k rfl)) ?_
    obtain ⟨T42, h42, X42, e42, W42, V42, st42⟩ := own_stC X41 hx hZ e41 V41s (j := (3 : Int32)) ⟨by decide, by decide⟩ 3 rfl (Nat.le_of_ble_eq_true rfl) (g := (mkF m 176 #[.val (.int p0), .val (.int p1), .val (.int p2), oI 1, .val (.int zx), .val (.int zy), .val (.int zl), .val (.int zh), oR c26, oI 1, oR a26, oU] [vI 101, vI 3, vR b38, vR b38])) rfl rfl (hb hby at_176)
    have K42 : Keep h0 h42 [] := K41.wr W42 (Or.inr sz_b38)
    have V42s : Arv Z h42 b38 k38 .char (24 : Int32) own_ls9 (.int (0 : Int32)) := V42
    have N42 := Fr.snoc X42 N41 n_b38
    refine own_goW (T' := T42) (f' := (mkF m 181 #[.val (.int p0), .val (.int p1), .val (.int p2), oI 1, .val (.int zx), .val (.int zy), .val (.int zl), .val (.int zh), oR c26, oI 1, oR a26, oU] [vI 99, vI 4, vR b38, vR b38])) (fun _ k => st42 _ (own_e X42 tt 177 3 k rfl)) ?_
    obtain ⟨T43, h43, X43, e43, W43, V43, st43⟩ := own_stC X42 hx hZ e42 V42s (j := (4 : Int32)) ⟨by decide, by decide⟩ 4 rfl (Nat.le_of_ble_eq_true rfl) (g := (mkF m 181 #[.val (.int p0), .val (.int p1), .val (.int p2), oI 1, .val (.int zx), .val (.int zy), .val (.int zl), .val (.int zh), oR c26, oI 1, oR a26, oU] [vI 99, vI 4, vR b38, vR b38])) rfl rfl (hb hby at_181)
    have K43 : Keep h0 h43 [] := K42.wr W43 (Or.inr sz_b38)
    have V43s : Arv Z h43 b38 k38 .char (24 : Int32) own_ls10 (.int (0 : Int32)) := V43
    have N43 := Fr.snoc X43 N42 n_b38
    refine own_goW (T' := T43) (f' := (mkF m 186 #[.val (.int p0), .val (.int p1), .val (.int p2), oI 1, .val (.int zx), .val (.int zy), .val (.int zl), .val (.int zh), oR c26, oI 1, oR a26, oU] [vI 116, vI 5, vR b38, vR b38])) (fun _ k => st43 _ (own_e X43 tt 182 3 k rfl)) ?_
    obtain ⟨T44, h44, X44, e44, W44, V44, st44⟩ := own_stC X43 hx hZ e43 V43s (j := (5 : Int32)) ⟨by decide, by decide⟩ 5 rfl (Nat.le_of_ble_eq_true rfl) (g := (mkF m 186 #[.val (.int p0), .val (.int p1), .val (.int p2), oI 1, .val (.int zx), .val (.int zy), .val (.int zl), .val (.int zh), oR c26, oI 1, oR a26, oU] [vI 116, vI 5, vR b38, vR b38])) rfl rfl (hb hby at_186)
    have K44 : Keep h0 h44 [] := K43.wr W44 (Or.inr sz_b38)
    have V44s : Arv Z h44 b38 k38 .char (24 : Int32) own_ls11 (.int (0 : Int32)) := V44
    have N44 := Fr.snoc X44 N43 n_b38
    refine own_goW (T' := T44) (f' := (mkF m 192 #[.val (.int p0), .val (.int p1), .val (.int p2), oI 1, .val (.int zx), .val (.int zy), .val (.int zl), .val (.int zh), oR c26, oI 1, oR a26, oU] [vI 101, vI 6, vR b38, vR b38])) (fun _ k => st44 _ (own_e X44 tt 187 3 k rfl)) ?_
    obtain ⟨T45, h45, X45, e45, W45, V45, st45⟩ := own_stC X44 hx hZ e44 V44s (j := (6 : Int32)) ⟨by decide, by decide⟩ 6 rfl (Nat.le_of_ble_eq_true rfl) (g := (mkF m 192 #[.val (.int p0), .val (.int p1), .val (.int p2), oI 1, .val (.int zx), .val (.int zy), .val (.int zl), .val (.int zh), oR c26, oI 1, oR a26, oU] [vI 101, vI 6, vR b38, vR b38])) rfl rfl (hb hby at_192)
    have K45 : Keep h0 h45 [] := K44.wr W45 (Or.inr sz_b38)
    have V45s : Arv Z h45 b38 k38 .char (24 : Int32) own_ls12 (.int (0 : Int32)) := V45
    have N45 := Fr.snoc X45 N44 n_b38
    refine own_goW (T' := T45) (f' := (mkF m 198 #[.val (.int p0), .val (.int p1), .val (.int p2), oI 1, .val (.int zx), .val (.int zy), .val (.int zl), .val (.int zh), oR c26, oI 1, oR a26, oU] [vI 100, vI 7, vR b38, vR b38])) (fun _ k => st45 _ (own_e X45 tt 193 3 k rfl)) ?_
    obtain ⟨T46, h46, X46, e46, W46, V46, st46⟩ := own_stC X45 hx hZ e45 V45s (j := (7 : Int32)) ⟨by decide, by decide⟩ 7 rfl (Nat.le_of_ble_eq_true rfl) (g := (mkF m 198 #[.val (.int p0), .val (.int p1), .val (.int p2), oI 1, .val (.int zx), .val (.int zy), .val (.int zl), .val (.int zh), oR c26, oI 1, oR a26, oU] [vI 100, vI 7, vR b38, vR b38])) rfl rfl (hb hby at_198)
    have K46 : Keep h0 h46 [] := K45.wr W46 (Or.inr sz_b38)
    have V46s : Arv Z h46 b38 k38 .char (24 : Int32) own_ls13 (.int (0 : Int32)) := V46
    have N46 := Fr.snoc X46 N45 n_b38
    refine own_goW (T' := T46) (f' := (mkF m 204 #[.val (.int p0), .val (.int p1), .val (.int p2), oI 1, .val (.int zx), .val (.int zy), .val (.int zl), .val (.int zh), oR c26, oI 1, oR a26, oU] [vI 32, vI 8, vR b38, vR b38])) (fun _ k => st46 _ (own_e X46 tt 199 3 k rfl)) ?_
    obtain ⟨T47, h47, X47, e47, W47, V47, st47⟩ := own_stC X46 hx hZ e46 V46s (j := (8 : Int32)) ⟨by decide, by decide⟩ 8 rfl (Nat.le_of_ble_eq_true rfl) (g := (mkF m 204 #[.val (.int p0), .val (.int p1), .val (.int p2), oI 1, .val (.int zx), .val (.int zy), .val (.int zl), .val (.int zh), oR c26, oI 1, oR a26, oU] [vI 32, vI 8, vR b38, vR b38])) rfl rfl (hb hby at_204)
    have K47 : Keep h0 h47 [] := K46.wr W47 (Or.inr sz_b38)
    have V47s : Arv Z h47 b38 k38 .char (24 : Int32) own_ls14 (.int (0 : Int32)) := V47
    have N47 := Fr.snoc X47 N46 n_b38
    refine own_goW (T' := T47) (f' := (mkF m 210 #[.val (.int p0), .val (.int p1), .val (.int p2), oI 1, .val (.int zx), .val (.int zy), .val (.int zl), .val (.int zh), oR c26, oI 1, oR a26, oU] [vI 98, vI 9, vR b38, vR b38])) (fun _ k => st47 _ (own_e X47 tt 205 3 k rfl)) ?_
    obtain ⟨T48, h48, X48, e48, W48, V48, st48⟩ := own_stC X47 hx hZ e47 V47s (j := (9 : Int32)) ⟨by decide, by decide⟩ 9 rfl (Nat.le_of_ble_eq_true rfl) (g := (mkF m 210 #[.val (.int p0), .val (.int p1), .val (.int p2), oI 1, .val (.int zx), .val (.int zy), .val (.int zl), .val (.int zh), oR c26, oI 1, oR a26, oU] [vI 98, vI 9, vR b38, vR b38])) rfl rfl (hb hby at_210)
    have K48 : Keep h0 h48 [] := K47.wr W48 (Or.inr sz_b38)
    have V48s : Arv Z h48 b38 k38 .char (24 : Int32) own_ls15 (.int (0 : Int32)) := V48
    have N48 := Fr.snoc X48 N47 n_b38
    refine own_goW (T' := T48) (f' := (mkF m 216 #[.val (.int p0), .val (.int p1), .val (.int p2), oI 1, .val (.int zx), .val (.int zy), .val (.int zl), .val (.int zh), oR c26, oI 1, oR a26, oU] [vI 101, vI 10, vR b38, vR b38])) (fun _ k => st48 _ (own_e X48 tt 211 3 k rfl)) ?_
    obtain ⟨T49, h49, X49, e49, W49, V49, st49⟩ := own_stC X48 hx hZ e48 V48s (j := (10 : Int32)) ⟨by decide, by decide⟩ 10 rfl (Nat.le_of_ble_eq_true rfl) (g := (mkF m 216 #[.val (.int p0), .val (.int p1), .val (.int p2), oI 1, .val (.int zx), .val (.int zy), .val (.int zl), .val (.int zh), oR c26, oI 1, oR a26, oU] [vI 101, vI 10, vR b38, vR b38])) rfl rfl (hb hby at_216)
    have K49 : Keep h0 h49 [] := K48.wr W49 (Or.inr sz_b38)
    have V49s : Arv Z h49 b38 k38 .char (24 : Int32) own_ls16 (.int (0 : Int32)) := V49
    have N49 := Fr.snoc X49 N48 n_b38
    refine own_goW (T' := T49) (f' := (mkF m 222 #[.val (.int p0), .val (.int p1), .val (.int p2), oI 1, .val (.int zx), .val (.int zy), .val (.int zl), .val (.int zh), oR c26, oI 1, oR a26, oU] [vI 116, vI 11, vR b38, vR b38])) (fun _ k => st49 _ (own_e X49 tt 217 3 k rfl)) ?_
    obtain ⟨T50, h50, X50, e50, W50, V50, st50⟩ := own_stC X49 hx hZ e49 V49s (j := (11 : Int32)) ⟨by decide, by decide⟩ 11 rfl (Nat.le_of_ble_eq_true rfl) (g := (mkF m 222 #[.val (.int p0), .val (.int p1), .val (.int p2), oI 1, .val (.int zx), .val (.int zy), .val (.int zl), .val (.int zh), oR c26, oI 1, oR a26, oU] [vI 116, vI 11, vR b38, vR b38])) rfl rfl (hb hby at_222)
    have K50 : Keep h0 h50 [] := K49.wr W50 (Or.inr sz_b38)
    have V50s : Arv Z h50 b38 k38 .char (24 : Int32) own_ls17 (.int (0 : Int32)) := V50
    have N50 := Fr.snoc X50 N49 n_b38
    refine own_goW (T' := T50) (f' := (mkF m 228 #[.val (.int p0), .val (.int p1), .val (.int p2), oI 1, .val (.int zx), .val (.int zy), .val (.int zl), .val (.int zh), oR c26, oI 1, oR a26, oU] [vI 119, vI 12, vR b38, vR b38])) (fun _ k => st50 _ (own_e X50 tt 223 3 k rfl)) ?_
    obtain ⟨T51, h51, X51, e51, W51, V51, st51⟩ := own_stC X50 hx hZ e50 V50s (j := (12 : Int32)) ⟨by decide, by decide⟩ 12 rfl (Nat.le_of_ble_eq_true rfl) (g := (mkF m 228 #[.val (.int p0), .val (.int p1), .val (.int p2), oI 1, .val (.int zx), .val (.int zy), .val (.int zl), .val (.int zh), oR c26, oI 1, oR a26, oU] [vI 119, vI 12, vR b38, vR b38])) rfl rfl (hb hby at_228)
    have K51 : Keep h0 h51 [] := K50.wr W51 (Or.inr sz_b38)
    have V51s : Arv Z h51 b38 k38 .char (24 : Int32) own_ls18 (.int (0 : Int32)) := V51
    have N51 := Fr.snoc X51 N50 n_b38
    refine own_goW (T' := T51) (f' := (mkF m 234 #[.val (.int p0), .val (.int p1), .val (.int p2), oI 1, .val (.int zx), .val (.int zy), .val (.int zl), .val (.int zh), oR c26, oI 1, oR a26, oU] [vI 101, vI 13, vR b38, vR b38])) (fun _ k => st51 _ (own_e X51 tt 229 3 k rfl)) ?_
    obtain ⟨T52, h52, X52, e52, W52, V52, st52⟩ := own_stC X51 hx hZ e51 V51s (j := (13 : Int32)) ⟨by decide, by decide⟩ 13 rfl (Nat.le_of_ble_eq_true rfl) (g := (mkF m 234 #[.val (.int p0), .val (.int p1), .val (.int p2), oI 1, .val (.int zx), .val (.int zy), .val (.int zl), .val (.int zh), oR c26, oI 1, oR a26, oU] [vI 101, vI 13, vR b38, vR b38])) rfl rfl (hb hby at_234)
    have K52 : Keep h0 h52 [] := K51.wr W52 (Or.inr sz_b38)
    have V52s : Arv Z h52 b38 k38 .char (24 : Int32) own_ls19 (.int (0 : Int32)) := V52
    have N52 := Fr.snoc X52 N51 n_b38
    refine own_goW (T' := T52) (f' := (mkF m 240 #[.val (.int p0), .val (.int p1), .val (.int p2), oI 1, .val (.int zx), .val (.int zy), .val (.int zl), .val (.int zh), oR c26, oI 1, oR a26, oU] [vI 101, vI 14, vR b38, vR b38])) (fun _ k => st52 _ (own_e X52 tt 235 3 k rfl)) ?_
    obtain ⟨T53, h53, X53, e53, W53, V53, st53⟩ := own_stC X52 hx hZ e52 V52s (j := (14 : Int32)) ⟨by decide, by decide⟩ 14 rfl (Nat.le_of_ble_eq_true rfl) (g := (mkF m 240 #[.val (.int p0), .val (.int p1), .val (.int p2), oI 1, .val (.int zx), .val (.int zy), .val (.int zl), .val (.int zh), oR c26, oI 1, oR a26, oU] [vI 101, vI 14, vR b38, vR b38])) rfl rfl (hb hby at_240)
    have K53 : Keep h0 h53 [] := K52.wr W53 (Or.inr sz_b38)
    have V53s : Arv Z h53 b38 k38 .char (24 : Int32) own_ls20 (.int (0 : Int32)) := V53
    have N53 := Fr.snoc X53 N52 n_b38
    refine own_goW (T' := T53) (f' := (mkF m 246 #[.val (.int p0), .val (.int p1), .val (.int p2), oI 1, .val (.int zx), .val (.int zy), .val (.int zl), .val (.int zh), oR c26, oI 1, oR a26, oU] [vI 110, vI 15, vR b38, vR b38])) (fun _ k => st53 _ (own_e X53 tt 241 3 k rfl)) ?_
    obtain ⟨T54, h54, X54, e54, W54, V54, st54⟩ := own_stC X53 hx hZ e53 V53s (j := (15 : Int32)) ⟨by decide, by decide⟩ 15 rfl (Nat.le_of_ble_eq_true rfl) (g := (mkF m 246 #[.val (.int p0), .val (.int p1), .val (.int p2), oI 1, .val (.int zx), .val (.int zy), .val (.int zl), .val (.int zh), oR c26, oI 1, oR a26, oU] [vI 110, vI 15, vR b38, vR b38])) rfl rfl (hb hby at_246)
    have K54 : Keep h0 h54 [] := K53.wr W54 (Or.inr sz_b38)
    have V54s : Arv Z h54 b38 k38 .char (24 : Int32) own_ls21 (.int (0 : Int32)) := V54
    have N54 := Fr.snoc X54 N53 n_b38
    refine own_goW (T' := T54) (f' := (mkF m 252 #[.val (.int p0), .val (.int p1), .val (.int p2), oI 1, .val (.int zx), .val (.int zy), .val (.int zl), .val (.int zh), oR c26, oI 1, oR a26, oU] [vI 32, vI 16, vR b38, vR b38])) (fun _ k => st54 _ (own_e X54 tt 247 3 k rfl)) ?_
    obtain ⟨T55, h55, X55, e55, W55, V55, st55⟩ := own_stC X54 hx hZ e54 V54s (j := (16 : Int32)) ⟨by decide, by decide⟩ 16 rfl (Nat.le_of_ble_eq_true rfl) (g := (mkF m 252 #[.val (.int p0), .val (.int p1), .val (.int p2), oI 1, .val (.int zx), .val (.int zy), .val (.int zl), .val (.int zh), oR c26, oI 1, oR a26, oU] [vI 32, vI 16, vR b38, vR b38])) rfl rfl (hb hby at_252)
    have K55 : Keep h0 h55 [] := K54.wr W55 (Or.inr sz_b38)
    have V55s : Arv Z h55 b38 k38 .char (24 : Int32) own_ls22 (.int (0 : Int32)) := V55
    have N55 := Fr.snoc X55 N54 n_b38
    refine own_goW (T' := T55) (f' := (mkF m 262 #[.val (.int p0), .val (.int p1), .val (.int p2), oI 1, .val (.int zx), .val (.int zy), .val (.int zl), .val (.int zh), oR c26, oI 1, oR a26, oU] [(.int (((48 : Int32) + zl).toUInt32.toUInt16.toUInt32.toInt32)), vI 17, vR b38, vR b38])) (fun _ k => st55 _ (own_e X55 tt 253 6 k rfl)) ?_
    obtain ⟨T56, h56, X56, e56, W56, V56, st56⟩ := own_stC X55 hx hZ e55 V55s (j := (17 : Int32)) ⟨by decide, by decide⟩ 17 rfl (Nat.le_of_ble_eq_true rfl) (g := (mkF m 262 #[.val (.int p0), .val (.int p1), .val (.int p2), oI 1, .val (.int zx), .val (.int zy), .val (.int zl), .val (.int zh), oR c26, oI 1, oR a26, oU] [(.int (((48 : Int32) + zl).toUInt32.toUInt16.toUInt32.toInt32)), vI 17, vR b38, vR b38])) rfl rfl (hb hby at_262)
    have K56 : Keep h0 h56 [] := K55.wr W56 (Or.inr sz_b38)
    have V56s : Arv Z h56 b38 k38 .char (24 : Int32) [(.int (101 : Int32)), (.int (120 : Int32)), (.int (112 : Int32)), (.int (101 : Int32)), (.int (99 : Int32)), (.int (116 : Int32)), (.int (101 : Int32)), (.int (100 : Int32)), (.int (32 : Int32)), (.int (98 : Int32)), (.int (101 : Int32)), (.int (116 : Int32)), (.int (119 : Int32)), (.int (101 : Int32)), (.int (101 : Int32)), (.int (110 : Int32)), (.int (32 : Int32)), (.int (nar .char (((48 : Int32) + zl).toUInt32.toUInt16.toUInt32.toInt32))), (.int (0 : Int32)), (.int (0 : Int32)), (.int (0 : Int32)), (.int (0 : Int32)), (.int (0 : Int32)), (.int (0 : Int32))] (.int (0 : Int32)) := V56
    have N56 := Fr.snoc X56 N55 n_b38
    refine own_goW (T' := T56) (f' := (mkF m 268 #[.val (.int p0), .val (.int p1), .val (.int p2), oI 1, .val (.int zx), .val (.int zy), .val (.int zl), .val (.int zh), oR c26, oI 1, oR a26, oU] [vI 32, vI 18, vR b38, vR b38])) (fun _ k => st56 _ (own_e X56 tt 263 3 k rfl)) ?_
    obtain ⟨T57, h57, X57, e57, W57, V57, st57⟩ := own_stC X56 hx hZ e56 V56s (j := (18 : Int32)) ⟨by decide, by decide⟩ 18 rfl (Nat.le_of_ble_eq_true rfl) (g := (mkF m 268 #[.val (.int p0), .val (.int p1), .val (.int p2), oI 1, .val (.int zx), .val (.int zy), .val (.int zl), .val (.int zh), oR c26, oI 1, oR a26, oU] [vI 32, vI 18, vR b38, vR b38])) rfl rfl (hb hby at_268)
    have K57 : Keep h0 h57 [] := K56.wr W57 (Or.inr sz_b38)
    have V57s : Arv Z h57 b38 k38 .char (24 : Int32) [(.int (101 : Int32)), (.int (120 : Int32)), (.int (112 : Int32)), (.int (101 : Int32)), (.int (99 : Int32)), (.int (116 : Int32)), (.int (101 : Int32)), (.int (100 : Int32)), (.int (32 : Int32)), (.int (98 : Int32)), (.int (101 : Int32)), (.int (116 : Int32)), (.int (119 : Int32)), (.int (101 : Int32)), (.int (101 : Int32)), (.int (110 : Int32)), (.int (32 : Int32)), (.int (nar .char (((48 : Int32) + zl).toUInt32.toUInt16.toUInt32.toInt32))), (.int (32 : Int32)), (.int (0 : Int32)), (.int (0 : Int32)), (.int (0 : Int32)), (.int (0 : Int32)), (.int (0 : Int32))] (.int (0 : Int32)) := V57
    have N57 := Fr.snoc X57 N56 n_b38
    refine own_goW (T' := T57) (f' := (mkF m 274 #[.val (.int p0), .val (.int p1), .val (.int p2), oI 1, .val (.int zx), .val (.int zy), .val (.int zl), .val (.int zh), oR c26, oI 1, oR a26, oU] [vI 97, vI 19, vR b38, vR b38])) (fun _ k => st57 _ (own_e X57 tt 269 3 k rfl)) ?_
    obtain ⟨T58, h58, X58, e58, W58, V58, st58⟩ := own_stC X57 hx hZ e57 V57s (j := (19 : Int32)) ⟨by decide, by decide⟩ 19 rfl (Nat.le_of_ble_eq_true rfl) (g := (mkF m 274 #[.val (.int p0), .val (.int p1), .val (.int p2), oI 1, .val (.int zx), .val (.int zy), .val (.int zl), .val (.int zh), oR c26, oI 1, oR a26, oU] [vI 97, vI 19, vR b38, vR b38])) rfl rfl (hb hby at_274)
    have K58 : Keep h0 h58 [] := K57.wr W58 (Or.inr sz_b38)
    have V58s : Arv Z h58 b38 k38 .char (24 : Int32) [(.int (101 : Int32)), (.int (120 : Int32)), (.int (112 : Int32)), (.int (101 : Int32)), (.int (99 : Int32)), (.int (116 : Int32)), (.int (101 : Int32)), (.int (100 : Int32)), (.int (32 : Int32)), (.int (98 : Int32)), (.int (101 : Int32)), (.int (116 : Int32)), (.int (119 : Int32)), (.int (101 : Int32)), (.int (101 : Int32)), (.int (110 : Int32)), (.int (32 : Int32)), (.int (nar .char (((48 : Int32) + zl).toUInt32.toUInt16.toUInt32.toInt32))), (.int (32 : Int32)), (.int (97 : Int32)), (.int (0 : Int32)), (.int (0 : Int32)), (.int (0 : Int32)), (.int (0 : Int32))] (.int (0 : Int32)) := V58
    have N58 := Fr.snoc X58 N57 n_b38
    refine own_goW (T' := T58) (f' := (mkF m 280 #[.val (.int p0), .val (.int p1), .val (.int p2), oI 1, .val (.int zx), .val (.int zy), .val (.int zl), .val (.int zh), oR c26, oI 1, oR a26, oU] [vI 110, vI 20, vR b38, vR b38])) (fun _ k => st58 _ (own_e X58 tt 275 3 k rfl)) ?_
    obtain ⟨T59, h59, X59, e59, W59, V59, st59⟩ := own_stC X58 hx hZ e58 V58s (j := (20 : Int32)) ⟨by decide, by decide⟩ 20 rfl (Nat.le_of_ble_eq_true rfl) (g := (mkF m 280 #[.val (.int p0), .val (.int p1), .val (.int p2), oI 1, .val (.int zx), .val (.int zy), .val (.int zl), .val (.int zh), oR c26, oI 1, oR a26, oU] [vI 110, vI 20, vR b38, vR b38])) rfl rfl (hb hby at_280)
    have K59 : Keep h0 h59 [] := K58.wr W59 (Or.inr sz_b38)
    have V59s : Arv Z h59 b38 k38 .char (24 : Int32) [(.int (101 : Int32)), (.int (120 : Int32)), (.int (112 : Int32)), (.int (101 : Int32)), (.int (99 : Int32)), (.int (116 : Int32)), (.int (101 : Int32)), (.int (100 : Int32)), (.int (32 : Int32)), (.int (98 : Int32)), (.int (101 : Int32)), (.int (116 : Int32)), (.int (119 : Int32)), (.int (101 : Int32)), (.int (101 : Int32)), (.int (110 : Int32)), (.int (32 : Int32)), (.int (nar .char (((48 : Int32) + zl).toUInt32.toUInt16.toUInt32.toInt32))), (.int (32 : Int32)), (.int (97 : Int32)), (.int (110 : Int32)), (.int (0 : Int32)), (.int (0 : Int32)), (.int (0 : Int32))] (.int (0 : Int32)) := V59
    have N59 := Fr.snoc X59 N58 n_b38
    refine own_goW (T' := T59) (f' := (mkF m 286 #[.val (.int p0), .val (.int p1), .val (.int p2), oI 1, .val (.int zx), .val (.int zy), .val (.int zl), .val (.int zh), oR c26, oI 1, oR a26, oU] [vI 100, vI 21, vR b38, vR b38])) (fun _ k => st59 _ (own_e X59 tt 281 3 k rfl)) ?_
    obtain ⟨T60, h60, X60, e60, W60, V60, st60⟩ := own_stC X59 hx hZ e59 V59s (j := (21 : Int32)) ⟨by decide, by decide⟩ 21 rfl (Nat.le_of_ble_eq_true rfl) (g := (mkF m 286 #[.val (.int p0), .val (.int p1), .val (.int p2), oI 1, .val (.int zx), .val (.int zy), .val (.int zl), .val (.int zh), oR c26, oI 1, oR a26, oU] [vI 100, vI 21, vR b38, vR b38])) rfl rfl (hb hby at_286)
    have K60 : Keep h0 h60 [] := K59.wr W60 (Or.inr sz_b38)
    have V60s : Arv Z h60 b38 k38 .char (24 : Int32) [(.int (101 : Int32)), (.int (120 : Int32)), (.int (112 : Int32)), (.int (101 : Int32)), (.int (99 : Int32)), (.int (116 : Int32)), (.int (101 : Int32)), (.int (100 : Int32)), (.int (32 : Int32)), (.int (98 : Int32)), (.int (101 : Int32)), (.int (116 : Int32)), (.int (119 : Int32)), (.int (101 : Int32)), (.int (101 : Int32)), (.int (110 : Int32)), (.int (32 : Int32)), (.int (nar .char (((48 : Int32) + zl).toUInt32.toUInt16.toUInt32.toInt32))), (.int (32 : Int32)), (.int (97 : Int32)), (.int (110 : Int32)), (.int (100 : Int32)), (.int (0 : Int32)), (.int (0 : Int32))] (.int (0 : Int32)) := V60
    have N60 := Fr.snoc X60 N59 n_b38
    refine own_goW (T' := T60) (f' := (mkF m 292 #[.val (.int p0), .val (.int p1), .val (.int p2), oI 1, .val (.int zx), .val (.int zy), .val (.int zl), .val (.int zh), oR c26, oI 1, oR a26, oU] [vI 32, vI 22, vR b38, vR b38])) (fun _ k => st60 _ (own_e X60 tt 287 3 k rfl)) ?_
    obtain ⟨T61, h61, X61, e61, W61, V61, st61⟩ := own_stC X60 hx hZ e60 V60s (j := (22 : Int32)) ⟨by decide, by decide⟩ 22 rfl (Nat.le_of_ble_eq_true rfl) (g := (mkF m 292 #[.val (.int p0), .val (.int p1), .val (.int p2), oI 1, .val (.int zx), .val (.int zy), .val (.int zl), .val (.int zh), oR c26, oI 1, oR a26, oU] [vI 32, vI 22, vR b38, vR b38])) rfl rfl (hb hby at_292)
    have K61 : Keep h0 h61 [] := K60.wr W61 (Or.inr sz_b38)
    have V61s : Arv Z h61 b38 k38 .char (24 : Int32) [(.int (101 : Int32)), (.int (120 : Int32)), (.int (112 : Int32)), (.int (101 : Int32)), (.int (99 : Int32)), (.int (116 : Int32)), (.int (101 : Int32)), (.int (100 : Int32)), (.int (32 : Int32)), (.int (98 : Int32)), (.int (101 : Int32)), (.int (116 : Int32)), (.int (119 : Int32)), (.int (101 : Int32)), (.int (101 : Int32)), (.int (110 : Int32)), (.int (32 : Int32)), (.int (nar .char (((48 : Int32) + zl).toUInt32.toUInt16.toUInt32.toInt32))), (.int (32 : Int32)), (.int (97 : Int32)), (.int (110 : Int32)), (.int (100 : Int32)), (.int (32 : Int32)), (.int (0 : Int32))] (.int (0 : Int32)) := V61
    have N61 := Fr.snoc X61 N60 n_b38
    refine own_goW (T' := T61) (f' := (mkF m 302 #[.val (.int p0), .val (.int p1), .val (.int p2), oI 1, .val (.int zx), .val (.int zy), .val (.int zl), .val (.int zh), oR c26, oI 1, oR a26, oU] [(.int (((48 : Int32) + zh).toUInt32.toUInt16.toUInt32.toInt32)), vI 23, vR b38, vR b38])) (fun _ k => st61 _ (own_e X61 tt 293 6 k rfl)) ?_
    obtain ⟨T62, h62, X62, e62, W62, V62, st62⟩ := own_stC X61 hx hZ e61 V61s (j := (23 : Int32)) ⟨by decide, by decide⟩ 23 rfl (Nat.le_of_ble_eq_true rfl) (g := (mkF m 302 #[.val (.int p0), .val (.int p1), .val (.int p2), oI 1, .val (.int zx), .val (.int zy), .val (.int zl), .val (.int zh), oR c26, oI 1, oR a26, oU] [(.int (((48 : Int32) + zh).toUInt32.toUInt16.toUInt32.toInt32)), vI 23, vR b38, vR b38])) rfl rfl (hb hby at_302)
    have K62 : Keep h0 h62 [] := K61.wr W62 (Or.inr sz_b38)
    have V62s : Arv Z h62 b38 k38 .char (24 : Int32) [(.int (101 : Int32)), (.int (120 : Int32)), (.int (112 : Int32)), (.int (101 : Int32)), (.int (99 : Int32)), (.int (116 : Int32)), (.int (101 : Int32)), (.int (100 : Int32)), (.int (32 : Int32)), (.int (98 : Int32)), (.int (101 : Int32)), (.int (116 : Int32)), (.int (119 : Int32)), (.int (101 : Int32)), (.int (101 : Int32)), (.int (110 : Int32)), (.int (32 : Int32)), (.int (nar .char (((48 : Int32) + zl).toUInt32.toUInt16.toUInt32.toInt32))), (.int (32 : Int32)), (.int (97 : Int32)), (.int (110 : Int32)), (.int (100 : Int32)), (.int (32 : Int32)), (.int (nar .char (((48 : Int32) + zh).toUInt32.toUInt16.toUInt32.toInt32)))] (.int (0 : Int32)) := V62
    have N62 := Fr.snoc X62 N61 n_b38
    refine own_goW (T' := T62) (f' := (mkF m 307 #[.val (.int p0), .val (.int p1), .val (.int p2), oI 1, .val (.int zx), .val (.int zy), .val (.int zl), .val (.int zh), oR c26, oI 1, oR a26, oR b38] [vR a26])) (fun _ k => st62 _ (own_e X62 tt 303 2 k rfl)) ?_
    obtain ⟨T63, h63, X63, e63, E63, A63, D63, -, st63⟩ := newO X62 hx hZ hown (ow202 hw) (ow38 hw) (ow31 hw) e62 (g := (mkF m 307 #[.val (.int p0), .val (.int p1), .val (.int p2), oI 1, .val (.int zx), .val (.int zy), .val (.int zl), .val (.int zh), oR c26, oI 1, oR a26, oR b38] [vR a26])) rfl (hb hby at_307) (by decide) (by decide)
    have Zs64 : n0 ≤ h62.size := (oT (oT (oT (oT (oT (oT (oT (oT (oT (oT (oT (oT (oT (oT (oT (oT (oT (oT (oT (oT (oT (oT (oT (oT (oT (oT Z0 K26.1) E38.1) (Keep.of_wr W39).1) (Keep.of_wr W40).1) (Keep.of_wr W41).1) (Keep.of_wr W42).1) (Keep.of_wr W43).1) (Keep.of_wr W44).1) (Keep.of_wr W45).1) (Keep.of_wr W46).1) (Keep.of_wr W47).1) (Keep.of_wr W48).1) (Keep.of_wr W49).1) (Keep.of_wr W50).1) (Keep.of_wr W51).1) (Keep.of_wr W52).1) (Keep.of_wr W53).1) (Keep.of_wr W54).1) (Keep.of_wr W55).1) (Keep.of_wr W56).1) (Keep.of_wr W57).1) (Keep.of_wr W58).1) (Keep.of_wr W59).1) (Keep.of_wr W60).1) (Keep.of_wr W61).1) (Keep.of_wr W62).1)
    obtain ⟨b63, g_b63⟩ : ∃ z, z = h62.size := ⟨_, rfl⟩
    have sg_b63 : h62.size ≤ b63 := Nat.le_of_eq g_b63.symm
    rw [← g_b63] at A63 D63 st63
    have n_b63 := oT Zs64 sg_b63
    have sz_b63 := oT K62.1 sg_b63
    have u65 := (oW (oW (oW (oW (oW (oW (oW (oW (oW (oW (oW (oW (oW (oW (oW (oW (oW (oW (oW (oW (oW (oW (oW (oW V_b38.lt (Keep.of_wr W39).1) (Keep.of_wr W40).1) (Keep.of_wr W41).1) (Keep.of_wr W42).1) (Keep.of_wr W43).1) (Keep.of_wr W44).1) (Keep.of_wr W45).1) (Keep.of_wr W46).1) (Keep.of_wr W47).1) (Keep.of_wr W48).1) (Keep.of_wr W49).1) (Keep.of_wr W50).1) (Keep.of_wr W51).1) (Keep.of_wr W52).1) (Keep.of_wr W53).1) (Keep.of_wr W54).1) (Keep.of_wr W55).1) (Keep.of_wr W56).1) (Keep.of_wr W57).1) (Keep.of_wr W58).1) (Keep.of_wr W59).1) (Keep.of_wr W60).1) (Keep.of_wr W61).1) (Keep.of_wr W62).1)
    have m66 : T26.heap.size ≤ h62.size := (oT (oT (oT (oT (oT (oT (oT (oT (oT (oT (oT (oT (oT (oT (oT (oT (oT (oT (oT (oT (oT (oT (oT (oT (oT (Nat.le_refl _) E38.1) (Keep.of_wr W39).1) (Keep.of_wr W40).1) (Keep.of_wr W41).1) (Keep.of_wr W42).1) (Keep.of_wr W43).1) (Keep.of_wr W44).1) (Keep.of_wr W45).1) (Keep.of_wr W46).1) (Keep.of_wr W47).1) (Keep.of_wr W48).1) (Keep.of_wr W49).1) (Keep.of_wr W50).1) (Keep.of_wr W51).1) (Keep.of_wr W52).1) (Keep.of_wr W53).1) (Keep.of_wr W54).1) (Keep.of_wr W55).1) (Keep.of_wr W56).1) (Keep.of_wr W57).1) (Keep.of_wr W58).1) (Keep.of_wr W59).1) (Keep.of_wr W60).1) (Keep.of_wr W61).1) (Keep.of_wr W62).1)
    have K63 : Keep h0 h63 [] := K62.ext E63
    have F_value_b63 : oF4 Z h63 b63 .null := D63 (Or.inr (ow39 hw)) (ty := (.array .byte)) (by decide)
    have F_coder_b63 : oF3 Z h63 b63 (.int (0 : Int32)) := D63 (Or.inr (ow40 hw)) (ty := .byte) (by decide)
    refine own_goW (T' := T63) (f' := (mkF m 313 #[.val (.int p0), .val (.int p1), .val (.int p2), oI 1, .val (.int zx), .val (.int zy), .val (.int zl), .val (.int zh), oR c26, oI 1, oR a26, oR b38] [vR b38, vR b63, vR b63, vR a26])) (fun _ k => st63 _ (own_e X63 tt 310 2 k rfl)) ?_
    have G9 := (((((((((((((((((((((((((((own_sta_keep S_cs K26 own_ws0).ext E38).wr W39).wr W40).wr W41).wr W42).wr W43).wr W44).wr W45).wr W46).wr W47).wr W48).wr W49).wr W50).wr W51).wr W52).wr W53).wr W54).wr W55).wr W56).wr W57).wr W58).wr W59).wr W60).wr W61).wr W62).ext E63)
    obtain ⟨_, T11, Lc11, X11, hQ11, st11⟩ := own_out (X63.specialBack hx (y := mn39) rfl hown (mvT hZ (ow203 hw)) (mvT hZ (ow204 hw)) (mvT hZ (ow205 hw)) (by decide) (backOf (W := 2) (rm37a234 l Z a0 hw [] b63 b38 cs k38 (nar .char (((48 : Int32) + zl).toUInt32.toUInt16.toUInt32.toInt32)) (nar .char (((48 : Int32) + zh).toUInt32.toUInt16.toUInt32.toInt32)) h63 n0 (oT Zs64 E63.1) G9 (V62s.ext E63) A63 F_value_b63 F_coder_b63 hcs (own_c255 hl0 (own_ll hle hh10)) (own_c255 (own_l0 hl0 hle) hh10) n_b63) hZ (ow205 hw) (ow31 hw) (by decide) (by decide)) (g := (mkF m 313 #[.val (.int p0), .val (.int p1), .val (.int p2), oI 1, .val (.int zx), .val (.int zy), .val (.int zl), .val (.int zh), oR c26, oI 1, oR a26, oR b38] [vR b38, vR b63, vR b63, vR a26])) rfl (by rw [hml]; rfl) (Steps.refl _) (a := b63) (argsL := [(.ref b38)]) (rest := [(.ref b63), (.ref a26)]) (lenOf pd31 rfl) rfl (by show 2 * 0 + _ ≤ _; exact Nat.le_of_eq rfl) (hb hby at_313) (fun _ _ => ⟨rfl, e63, (by decide : 12 + 1 ≤ _), (by decide : 209 + 24 ≤ _)⟩))
    obtain ⟨b11a, k11b, rfl, N11q, K11, n_b11a, sg_b11a, g11_0, g11_1, g11_2, g11_3⟩ := hQ11
    have N11 := Fr.app N62 N11q
    have sz_b11a := oT K63.1 sg_b11a
    have u13 : b63 < h63.size := A63.lt
    have m14 : h62.size ≤ h63.size := (oT (Nat.le_refl _) E63.1)
    have eK11 : T11.heap = T11.heap := rfl
    have KK11 : Keep h0 T11.heap [] := Keep.trans K63 K11 (allS (Or.inr sz_b63) all0)
    obtain ⟨_, X11, N11⟩ := own_hide X11 N11
    refine own_goW (T' := T11) (f' := (mkF m 316 #[.val (.int p0), .val (.int p1), .val (.int p2), oI 1, .val (.int zx), .val (.int zy), .val (.int zl), .val (.int zh), oR c26, oI 1, oR a26, oR b38] [vR b63, vR a26])) (fun _ k => st11.trans k) ?_
    have q15 : a26 ≠ b63 := (Nat.ne_of_lt (oW (oW (oW (oW (oW (oW (oW (oW (oW (oW (oW (oW (oW (oW (oW (oW (oW (oW (oW (oW (oW (oW (oW (oW (oW (oW g26_4.lt E38.1) (Keep.of_wr W39).1) (Keep.of_wr W40).1) (Keep.of_wr W41).1) (Keep.of_wr W42).1) (Keep.of_wr W43).1) (Keep.of_wr W44).1) (Keep.of_wr W45).1) (Keep.of_wr W46).1) (Keep.of_wr W47).1) (Keep.of_wr W48).1) (Keep.of_wr W49).1) (Keep.of_wr W50).1) (Keep.of_wr W51).1) (Keep.of_wr W52).1) (Keep.of_wr W53).1) (Keep.of_wr W54).1) (Keep.of_wr W55).1) (Keep.of_wr W56).1) (Keep.of_wr W57).1) (Keep.of_wr W58).1) (Keep.of_wr W59).1) (Keep.of_wr W60).1) (Keep.of_wr W61).1) (Keep.of_wr W62).1) sg_b63))
    have q17 : a26 ≠ b38 := (Nat.ne_of_lt (oW g26_4.lt sg_b38))
    have G18 := (((((((((((((((((((((((((((g26_5.ext E38).other W39 (Or.inl q17)).other W40 (Or.inl q17)).other W41 (Or.inl q17)).other W42 (Or.inl q17)).other W43 (Or.inl q17)).other W44 (Or.inl q17)).other W45 (Or.inl q17)).other W46 (Or.inl q17)).other W47 (Or.inl q17)).other W48 (Or.inl q17)).other W49 (Or.inl q17)).other W50 (Or.inl q17)).other W51 (Or.inl q17)).other W52 (Or.inl q17)).other W53 (Or.inl q17)).other W54 (Or.inl q17)).other W55 (Or.inl q17)).other W56 (Or.inl q17)).other W57 (Or.inl q17)).other W58 (Or.inl q17)).other W59 (Or.inl q17)).other W60 (Or.inl q17)).other W61 (Or.inl q17)).other W62 (Or.inl q17)).ext E63).keep K11 (ninS q15 nin0))
    have G19 := (((((((((((((((((((((((((((g26_6.ext E38).other W39 (Or.inl q17)).other W40 (Or.inl q17)).other W41 (Or.inl q17)).other W42 (Or.inl q17)).other W43 (Or.inl q17)).other W44 (Or.inl q17)).other W45 (Or.inl q17)).other W46 (Or.inl q17)).other W47 (Or.inl q17)).other W48 (Or.inl q17)).other W49 (Or.inl q17)).other W50 (Or.inl q17)).other W51 (Or.inl q17)).other W52 (Or.inl q17)).other W53 (Or.inl q17)).other W54 (Or.inl q17)).other W55 (Or.inl q17)).other W56 (Or.inl q17)).other W57 (Or.inl q17)).other W58 (Or.inl q17)).other W59 (Or.inl q17)).other W60 (Or.inl q17)).other W61 (Or.inl q17)).other W62 (Or.inl q17)).ext E63).keep K11 (ninS q15 nin0))
    have q20 : b26 ≠ b38 := (Nat.ne_of_lt (oW g26_7.lt sg_b38))
    have q30 : b26 ≠ b63 := (Nat.ne_of_lt (oW (oW (oW (oW (oW (oW (oW (oW (oW (oW (oW (oW (oW (oW (oW (oW (oW (oW (oW (oW (oW (oW (oW (oW (oW (oW g26_7.lt E38.1) (Keep.of_wr W39).1) (Keep.of_wr W40).1) (Keep.of_wr W41).1) (Keep.of_wr W42).1) (Keep.of_wr W43).1) (Keep.of_wr W44).1) (Keep.of_wr W45).1) (Keep.of_wr W46).1) (Keep.of_wr W47).1) (Keep.of_wr W48).1) (Keep.of_wr W49).1) (Keep.of_wr W50).1) (Keep.of_wr W51).1) (Keep.of_wr W52).1) (Keep.of_wr W53).1) (Keep.of_wr W54).1) (Keep.of_wr W55).1) (Keep.of_wr W56).1) (Keep.of_wr W57).1) (Keep.of_wr W58).1) (Keep.of_wr W59).1) (Keep.of_wr W60).1) (Keep.of_wr W61).1) (Keep.of_wr W62).1) sg_b63))
    have G31 := (((((((((((((((((((((((((((g26_7.ext E38).other W39 q20).other W40 q20).other W41 q20).other W42 q20).other W43 q20).other W44 q20).other W45 q20).other W46 q20).other W47 q20).other W48 q20).other W49 q20).other W50 q20).other W51 q20).other W52 q20).other W53 q20).other W54 q20).other W55 q20).other W56 q20).other W57 q20).other W58 q20).other W59 q20).other W60 q20).other W61 q20).other W62 q20).ext E63).keep K11 (ninS q30 nin0))
    have G32 := (((((((((((((((((((((((((((g26_4.ext E38).wr W39).wr W40).wr W41).wr W42).wr W43).wr W44).wr W45).wr W46).wr W47).wr W48).wr W49).wr W50).wr W51).wr W52).wr W53).wr W54).wr W55).wr W56).wr W57).wr W58).wr W59).wr W60).wr W61).wr W62).ext E63).keep K11)
    obtain ⟨cq33, kq33, q33a, q33b, q33c⟩ := isOf hZ eK11 G32
    obtain ⟨_, T33, Lc33, X33, hQ33, st33⟩ := own_out (X11.virtualBack hx (y := mn41) (z := mn41) hown (mvT hZ (ow219 hw)) (mvT hZ (ow220 hw)) (notFace_of_selects (args := #[]) (mvT hZ (ow222 hw))) (mvT hZ (ow222 hw)) (mvT hZ (ow221 hw)) (by decide) (backOf (W := 0) (rm42a244 l Z a0 hw [] a26 b63 cs b26 k26 (nar .byte ((48 : Int32) + zl)) (nar .byte ((48 : Int32) + zh)) b11a k11b (nar .byte ((nar .char (((48 : Int32) + zl).toUInt32.toUInt16.toUInt32.toInt32)).toInt8.toInt32)) (nar .byte ((nar .char (((48 : Int32) + zh).toUInt32.toUInt16.toUInt32.toInt32)).toInt8.toInt32)) T11.heap n0 (oT (oT Zs64 E63.1) K11.1) (own_sta_keep G9 K11 (own_wsE A63 own_ws0)) G18 G19 G31 (A63.keep K11) g11_0 g11_1 g11_2 hcs q15 (own_bc hl0 (own_ll hle hh10)) (own_bc (own_l0 hl0 hle) hh10)) hZ (ow223 hw) (ow31 hw) (by decide) (by decide)) q33a q33c (g := (mkF m 316 #[.val (.int p0), .val (.int p1), .val (.int p2), oI 1, .val (.int zx), .val (.int zy), .val (.int zl), .val (.int zh), oR c26, oI 1, oR a26, oR b38] [vR b63, vR a26])) rfl (by rw [hml]; rfl) (Steps.refl _) (argsL := [(.ref b63)]) (rest := []) (lenOf pd20 rfl) rfl (by show 2 * 0 + _ ≤ _; exact Nat.le_of_eq rfl) (hb hby at_316) (fun _ _ => ⟨rfl, eK11, (by decide : 13 + 0 ≤ _), (by decide : 233 + 0 ≤ _)⟩))
    obtain ⟨rfl, N33q, hh33⟩ := hQ33
    have N33 := Fr.app N11 N33q
    obtain ⟨_, X33, N33⟩ := own_hide X33 N33
    refine own_goW (T' := T33) (f' := (mkF m 323 #[.val (.int p0), .val (.int p1), .val (.int p2), oI 1, .val (.int zx), .val (.int zy), .val (.int zl), .val (.int zh), oR c26, oI 1, oR a26, oR b38] [vI 1])) (fun _ k => st33.trans (own_e X33 tt 319 2 k rfl)) ?_
    refine own_retW X33 hS (by rw [hh33]; exact (oT (oT (oT (oT (oT (oT (oT (oT (oT (oT (oT (oT (oT (oT (oT (oT (oT (oT (oT (oT (oT (oT (oT (oT (oT (oT (oT (Nat.le_refl _) E38.1) (Keep.of_wr W39).1) (Keep.of_wr W40).1) (Keep.of_wr W41).1) (Keep.of_wr W42).1) (Keep.of_wr W43).1) (Keep.of_wr W44).1) (Keep.of_wr W45).1) (Keep.of_wr W46).1) (Keep.of_wr W47).1) (Keep.of_wr W48).1) (Keep.of_wr W49).1) (Keep.of_wr W50).1) (Keep.of_wr W51).1) (Keep.of_wr W52).1) (Keep.of_wr W53).1) (Keep.of_wr W54).1) (Keep.of_wr W55).1) (Keep.of_wr W56).1) (Keep.of_wr W57).1) (Keep.of_wr W58).1) (Keep.of_wr W59).1) (Keep.of_wr W60).1) (Keep.of_wr W61).1) (Keep.of_wr W62).1) E63.1) K11.1)) (v := some (.int (1 : Int32))) (oN Bd.returns) Bd.notSynchronized (fun fs hr => retN X33 hx (t := .boolean) Bd.returns (by simp) (hb hby at_323) hr) ?_ (by decide) (by decide)
    show Q0 Z B p0 p1 p2 cs wd kd vd wt kt vt h0 n0 _ T33.heap T33.vm _
    exact ⟨rfl, N33⟩
set_option maxRecDepth 65536 in
set_option maxHeartbeats 40000000 in
theorem comes_1 {Post : Tables → Env → Array Value → State → Outcome → State → Prop} (hpost : ∀ tb e args s v u, (limb_1_1.after args s (.returned v) u = true ∧ limb_1_2.after args s (.returned v) u = true ∧ True) → ReturnedEndW s (.returned v) u (Jvm.fieldLocs frame_1_writes args s ++ Jvm.arrayLocs frame_1_arrays args s ++ Jvm.staticLocs frame_1_statics s) 32 2496 → Post tb e args s (.returned v) u) :
    ArmFor flags0 classFile x code maxLocals ret World_1 tables_1 room_1 Calls_1 rest_1 Pre_1 Post := by
  intro l hfl _ _ p e ha hc hk s m args below hf hA hF happ hP
  obtain ⟨hcalls, hrest, hpre⟩ := hP
  obtain ⟨-, -, -, hnamed, -, -, -, hat⟩ := (Spec.applies_iff hf).mp happ
  obtain ⟨hg, hn⟩ := and_e (Cond.before_iff.mp (show (Jvm.Cond.and given_1 narrow_1).before args s = true from hpre))
  obtain ⟨hg_2, hg_3⟩ := and_e hg
  obtain ⟨hg_4, hg_5⟩ := and_e hg_3
  obtain ⟨hg_6, hg_7⟩ := and_e hg_5
  obtain ⟨w0, w1, w2, rfl⟩ : ∃ w0 w1 w2 : Value, args = #[w0, w1, w2] := by
    have hs : args.size = 3 := by simpa [Cond.value, given_1] using hg_2
    obtain ⟨L⟩ := args
    match L, hs with
    | [w0, w1, w2], _ => exact ⟨w0, w1, w2, rfl⟩
  have hw := fun d (hd : d ∈ tables_1) => atoms_spec (ws := Jvm.Cond.code x code maxLocals ret :: tables_1) hat d (List.mem_cons_of_mem _ hd)
  have hfit : Fit s := fun {y c} hc i hi => by
    obtain ⟨ha, rfl⟩ := Array.getElem?_eq_some_iff.mp hc
    have q := List.all_eq_true.mp ((Array.all_eq_true_iff_forall_mem.mp hF) _ (Array.getElem_mem ha)) i (List.mem_range.mpr hi)
    simpa [Array.getElem?_eq_getElem hi] using q
  obtain ⟨hsets, hown0⟩ := atoms_of _ (rest_1_c_eq ▸ (show rest_1_c.before _ s = true from hrest))
  have hr0 := Cond.before_iff.mp hown0
  obtain ⟨i0, ei0⟩ := is_v hg_4
  obtain rfl : w0 = (.int i0) := Option.some.inj ei0
  obtain ⟨i1, ei1⟩ := is_v hg_6
  obtain rfl : w1 = (.int i1) := Option.some.inj ei1
  obtain ⟨i2, ei2⟩ := is_v hg_7
  obtain rfl : w2 = (.int i2) := Option.some.inj ei2
  obtain ⟨cs, ecs⟩ := is_v (Cond.before_iff.mp (hsets _ (List.mem_of_getElem? (i := 1) rfl)))
  have S_cs : Sta s s.heap "java/lang/String" "COMPACT_STRINGS" "Z" (.int cs) := Sta.start ecs (Or.inl (hsets _ (List.mem_of_getElem? (i := 0) rfl)))
  have hcw := hsets _ (List.mem_of_getElem? (i := 2) rfl)
  have hcs : ¬ (cs = (0 : Int32)) := own_ne0 ecs hcw
  obtain ⟨wd, ewd⟩ := exa_v (Cond.before_iff.mp (hsets _ (List.mem_of_getElem? (i := 12) rfl)))
  have S_do : Sta s s.heap "java/lang/Integer" "DigitOnes" "[B" (.ref wd) := Sta.start ewd (Or.inl (hsets _ (List.mem_of_getElem? (i := 11) rfl)))
  obtain ⟨kd, vd, D1, V_do, D1s, D1a, D1v, D1g⟩ := own_digits hfit ewd (hsets _ (List.mem_of_getElem? (i := 12) rfl)) (hsets _ (List.mem_of_getElem? (i := 13) rfl)) (hw _ (List.mem_of_getElem? (i := 32) rfl))
  obtain ⟨wt, ewt⟩ := exa_v (Cond.before_iff.mp (hsets _ (List.mem_of_getElem? (i := 17) rfl)))
  have S_dt : Sta s s.heap "java/lang/Integer" "DigitTens" "[B" (.ref wt) := Sta.start ewt (Or.inl (hsets _ (List.mem_of_getElem? (i := 16) rfl)))
  obtain ⟨kt, vt, D2, V_dt, D2s, D2a, D2v, D2g⟩ := own_digits hfit ewt (hsets _ (List.mem_of_getElem? (i := 17) rfl)) (hsets _ (List.mem_of_getElem? (i := 18) rfl)) (hw _ (List.mem_of_getElem? (i := 32) rfl))
  have hd10 : own_D10 vd := own_ones ewd D1s D1a D1v D1g (hsets _ (List.mem_of_getElem? (i := 14) rfl))
  have hst : own_SameSt s := own_sameSt (hsets _ (List.mem_of_getElem? (i := 10) rfl)) (hsets _ (List.mem_of_getElem? (i := 15) rfl))
  obtain ⟨n, o, h1, h2, h3, _, L, rfl, ⟨rfl, N⟩, hq⟩ := rm0 l s _ hw tables_1 s i0 i1 i2 cs wd kd vd wt kt vt s.heap s.heap.size (Nat.le_refl _) S_cs hcs S_do V_do S_dt V_dt hst hd10 hcw (hcalls.1 _ (List.mem_of_getElem? (i := 0) rfl)) (hcalls.1 _ (List.mem_of_getElem? (i := 1) rfl)) rfl rfl p e ha hc hk s m _ below hf ((Spec.applies_iff_loose hf).mp happ).1 ⟨rfl, State.Warmed39.refl s, State.WarmedH.refl s, rfl⟩ trivial
  refine ⟨n, _, h1, h2, h3, hpost _ _ _ _ _ _ ⟨Cond.after_iff.mpr rfl, Cond.after_iff.mpr (eq_i res_at (Term.int_eval (1)) rfl), trivial⟩ ⟨hq.1, hq.2.1, hq.2.2.1, (hq.2.2.2.sift fun y hy => Or.inr (N y hy)).mono (by decide) (by decide)⟩⟩
theorem main_1_1 : Claimed_1_1 := comes_1 fun _ _ _ _ _ _ h hF => ⟨h.1, hF⟩
theorem main_1_2 : Claimed_1_2 := comes_1 fun _ _ _ _ _ _ h hF => ⟨h.2.1, hF⟩
end Jvm.Pilot.@@N@@
namespace Jvm.Pilot.@@N@@
open Jvm Jvm.ClassFile Sem Op Lib Jvm.Free Jvm.Stand Jvm.Pilot.@@N@@.Jvm.D
/-! MADE BY PROGRAM (witnessworld.py) out of the Statement's table words and the real class files: 29 classes; the members and pool entries that the words name. The judged class is class 1, her method 2. -/
namespace start1
open Jvm.ClassFile
def u (s : String) : CpInfo := .utf8 (stringToUtf16 s)
/-- a pool by its gaps: so many unusable entries, then the entry; so many at the end -/
def gap : Nat → List CpInfo → List CpInfo
  | 0, r => r
  | n + 1, r => .unusable :: gap n r
def poolList (es : List (Nat × CpInfo)) (last : Nat) : List CpInfo := es.foldr (fun e r => gap e.1 (e.2 :: r)) (gap last [])
def pool (es : List (Nat × CpInfo)) (last : Nat) : Array CpInfo := ⟨poolList es last⟩
def fileOf (pool : Array CpInfo) (this : Nat) (attrs : Array Attribute := #[]) (ms : Array MethodInfo := #[]) (fl : Nat := 33) (sup : Nat := 0) (ifs : Array Nat := #[]) (fds : Array FieldInfo := #[]) : ClassFile where
  minorVersion := 0
  majorVersion := 65
  constantPool := pool
  accessFlags := fl
  thisClass := this
  superClass := sup
  interfaces := ifs
  fields := fds
  methods := ms
  attributes := attrs
def plain (name : String) (sup : Option ClassId) : Class where
  name := name
  kind := .ordinary
  loader := none
  accessFlags := 33
  super := sup
  interfaces := #[]
  cf := none
  fields := #[]
  methods := #[]
  instanceTypes := #[]
  staticTypes := #[]
  resolved := #[]
  callSites := []
  init := .initialized
  statics := none
  mirror := none

def pool0 : Array CpInfo := pool [(5, u "<init>"), (0, u "()V"), (1, .class_ 10), (1, u "java/lang/Object"), (85, u "clone"), (0, u "()Ljava/lang/Object;")] 26

def k0c0 : Code := { maxStack := 0, maxLocals := 1, code := object_method_1_code, exceptionTable := #[], attributes := #[] }
def k0m0 : Method := { name := "<init>", desc := "()V", sig := { parameters := [], returnType := none }, accessFlags := 1, code := some k0c0 }
def k0m1 : Method := { name := "clone", desc := "()Ljava/lang/Object;", sig := { parameters := [], returnType := some (.object "java/lang/Object") }, accessFlags := 260, code := none }
/-- java/lang/Object -/
def k0 : Class := { plain "java/lang/Object" none with
  accessFlags := 33
  interfaces := #[]
  cf := some (fileOf pool0 8 #[] #[{ accessFlags := 1, nameIndex := 5, descriptorIndex := 6, attributes := #[] }, { accessFlags := 260, nameIndex := 96, descriptorIndex := 97, attributes := #[] }] 33 0 #[] #[])
  fields := #[]
  methods := #[k0m0, k0m1]
  instanceTypes := #[]
  staticTypes := #[]
  resolved := Array.replicate 124 none
  statics := none }

def pool1 : Array CpInfo := pool [(2, .class_ 4), (1, u "java/lang/Object"), (0, u "<init>"), (0, u "()V"), (0, .integer 100000), (0, .integer 1000000), (0, .integer 10000000), (0, .integer 100000000), (0, .integer 1000000000), (0, .integer 2147483647), (0, .methodref 14 15), (0, .class_ 16), (0, .nameAndType 17 18), (0, u "java/lang/Math"), (0, u "min"), (0, u "(II)I"), (0, .methodref 14 20), (0, .nameAndType 21 18), (0, u "max"), (0, .methodref 23 24), (0, .class_ 25), (0, .nameAndType 26 27), (0, u "com/example/tally_of_calls/tallyofcalls/Counts"), (0, u "between"), (0, u "(II)Lcom/example/tally_of_calls/tallyofcalls/Count;"), (0, .methodref 29 30), (0, .class_ 31), (0, .nameAndType 17 32), (0, u "com/example/tally_of_calls/tallyofcalls/Count"), (0, u "()I"), (0, .methodref 29 34), (0, .nameAndType 21 35), (0, u "()J"), (0, .methodref 29 37), (0, .nameAndType 38 39), (0, u "phrase"), (0, u "()Ljava/lang/String;"), (0, .methodref 41 42), (0, .class_ 43), (0, .nameAndType 44 32), (0, u "java/lang/String"), (0, u "length"), (0, .methodref 46 47), (0, .class_ 48), (0, .nameAndType 49 50), (0, u "com/example/tally_of_calls/tallyofcalls/CountsBetweenPinLaw"), (0, u "digits"), (0, u "(I)I"), (0, .methodref 41 52), (0, .nameAndType 5 53), (0, u "([C)V"), (0, .methodref 41 55), (0, .nameAndType 56 57), (0, u "equals"), (0, u "(Ljava/lang/Object;)Z"), (3, u "law"), (0, u "(III)Z")] 2

def k1m0 : Method := { name := "<init>", desc := "()V", sig := { parameters := [], returnType := none }, accessFlags := 2, code := none }
def k1c1 : Code := { maxStack := 2, maxLocals := 1, code := method_2_code, exceptionTable := #[], attributes := #[] }
def k1m1 : Method := { name := "digits", desc := "(I)I", sig := { parameters := [.int], returnType := some .int }, accessFlags := 10, code := some k1c1 }
def k1c2 : Code := { maxStack := 5, maxLocals := 12, code := code, exceptionTable := #[], attributes := #[] }
def k1m2 : Method := { name := "law", desc := "(III)Z", sig := { parameters := [.int, .int, .int], returnType := some .boolean }, accessFlags := 9, code := some k1c2 }
/-- com/example/tally_of_calls/tallyofcalls/CountsBetweenPinLaw -/
def k1 : Class := { plain "com/example/tally_of_calls/tallyofcalls/CountsBetweenPinLaw" (some 0) with
  accessFlags := 49
  interfaces := #[]
  cf := some (fileOf pool1 46 #[] #[{ accessFlags := 2, nameIndex := 5, descriptorIndex := 6, attributes := #[] }, { accessFlags := 10, nameIndex := 49, descriptorIndex := 50, attributes := #[] }, { accessFlags := 9, nameIndex := 61, descriptorIndex := 62, attributes := #[] }] 49 2 #[] #[])
  fields := #[]
  methods := #[k1m0, k1m1, k1m2]
  instanceTypes := #[]
  staticTypes := #[]
  resolved := Array.replicate 65 none
  statics := none }

def pool2 : Array CpInfo := pool [(1, .class_ 2), (0, u "java/lang/Math"), (1, .class_ 6), (1, u "java/lang/Object"), (0, u "<init>"), (0, u "()V"), (89, .class_ 100), (1, u "java/lang/Math$RandomNumberGeneratorHolder"), (71, u "negativeZeroFloatBits"), (0, u "J"), (2, u "negativeZeroDoubleBits"), (21, u "max"), (2, u "min"), (43, u "$assertionsDisabled"), (0, u "Z"), (88, u "(II)I"), (2, u "twoToTheDoubleScaleDown"), (0, u "D"), (4, u "twoToTheDoubleScaleUp"), (9, u "E"), (3, u "PI"), (2, u "TAU"), (2, u "DEGREES_TO_RADIANS"), (0, u "RADIANS_TO_DEGREES")] 94

def k2m0 : Method := { name := "<init>", desc := "()V", sig := { parameters := [], returnType := none }, accessFlags := 2, code := none }
def k2c1 : Code := { maxStack := 2, maxLocals := 2, code := jdk_29_method_65_code, exceptionTable := #[], attributes := #[] }
def k2m1 : Method := { name := "max", desc := "(II)I", sig := { parameters := [.int, .int], returnType := some .int }, accessFlags := 9, code := some k2c1 }
def k2c2 : Code := { maxStack := 2, maxLocals := 2, code := jdk_29_method_69_code, exceptionTable := #[], attributes := #[] }
def k2m2 : Method := { name := "min", desc := "(II)I", sig := { parameters := [.int, .int], returnType := some .int }, accessFlags := 9, code := some k2c2 }
/-- java/lang/Math -/
def k2 : Class := { plain "java/lang/Math" (some 0) with
  accessFlags := 49
  interfaces := #[]
  cf := some (fileOf pool2 1 #[.nestMembers #[98]] #[{ accessFlags := 2, nameIndex := 7, descriptorIndex := 8, attributes := #[] }, { accessFlags := 9, nameIndex := 198, descriptorIndex := 335, attributes := #[] }, { accessFlags := 9, nameIndex := 201, descriptorIndex := 335, attributes := #[] }] 49 4 #[] #[{ accessFlags := 25, nameIndex := 354, descriptorIndex := 339, attributes := #[] }, { accessFlags := 25, nameIndex := 358, descriptorIndex := 339, attributes := #[] }, { accessFlags := 25, nameIndex := 361, descriptorIndex := 339, attributes := #[] }, { accessFlags := 26, nameIndex := 364, descriptorIndex := 339, attributes := #[] }, { accessFlags := 26, nameIndex := 365, descriptorIndex := 339, attributes := #[] }, { accessFlags := 26, nameIndex := 172, descriptorIndex := 173, attributes := #[] }, { accessFlags := 26, nameIndex := 176, descriptorIndex := 173, attributes := #[] }, { accessFlags := 8, nameIndex := 344, descriptorIndex := 339, attributes := #[] }, { accessFlags := 8, nameIndex := 338, descriptorIndex := 339, attributes := #[] }, { accessFlags := 4120, nameIndex := 245, descriptorIndex := 246, attributes := #[] }])
  fields := #[{ name := "E", type := .double, accessFlags := 25, slot := 0, constantValue := 0 }, { name := "PI", type := .double, accessFlags := 25, slot := 1, constantValue := 0 }, { name := "TAU", type := .double, accessFlags := 25, slot := 2, constantValue := 0 }, { name := "DEGREES_TO_RADIANS", type := .double, accessFlags := 26, slot := 3, constantValue := 0 }, { name := "RADIANS_TO_DEGREES", type := .double, accessFlags := 26, slot := 4, constantValue := 0 }, { name := "negativeZeroFloatBits", type := .long, accessFlags := 26, slot := 5, constantValue := 0 }, { name := "negativeZeroDoubleBits", type := .long, accessFlags := 26, slot := 6, constantValue := 0 }, { name := "twoToTheDoubleScaleUp", type := .double, accessFlags := 8, slot := 7, constantValue := 0 }, { name := "twoToTheDoubleScaleDown", type := .double, accessFlags := 8, slot := 8, constantValue := 0 }, { name := "$assertionsDisabled", type := .boolean, accessFlags := 4120, slot := 9, constantValue := 0 }]
  methods := #[k2m0, k2m1, k2m2]
  instanceTypes := #[]
  staticTypes := #[.double, .double, .double, .double, .double, .long, .long, .double, .double, .boolean]
  resolved := Array.replicate 460 none
  statics := none }

def pool3 : Array CpInfo := pool [(2, .class_ 4), (0, .nameAndType 5 6), (0, u "java/lang/Object"), (0, u "<init>"), (0, u "()V"), (1, .class_ 10), (1, u "com/example/tally_of_calls/tallyofcalls/Counts"), (2, .class_ 14), (0, u "java/lang/StringBuilder"), (0, .methodref 13 3), (2, .methodref 13 19), (0, .nameAndType 20 21), (0, u "append"), (0, u "(Ljava/lang/String;)Ljava/lang/StringBuilder;"), (0, .methodref 13 23), (0, .nameAndType 20 24), (0, u "(I)Ljava/lang/StringBuilder;"), (2, .methodref 13 28), (0, .nameAndType 29 30), (0, u "toString"), (0, u "()Ljava/lang/String;"), (4, .class_ 36), (0, u "com/example/tally_of_calls/tallyofcalls/Count"), (4, .methodref 35 42), (0, .nameAndType 5 43), (0, u "(IJLjava/lang/String;)V"), (21, .string 66), (0, u "expected between "), (0, .string 68), (0, u " and "), (15, u "between"), (0, u "(II)Lcom/example/tally_of_calls/tallyofcalls/Count;")] 4

def k3m0 : Method := { name := "<init>", desc := "()V", sig := { parameters := [], returnType := none }, accessFlags := 2, code := none }
def k3c1 : Code := { maxStack := 7, maxLocals := 3, code := prog_5_method_6_code, exceptionTable := #[], attributes := #[] }
def k3m1 : Method := { name := "between", desc := "(II)Lcom/example/tally_of_calls/tallyofcalls/Count;", sig := { parameters := [.int, .int], returnType := some (.object "com/example/tally_of_calls/tallyofcalls/Count") }, accessFlags := 9, code := some k3c1 }
/-- com/example/tally_of_calls/tallyofcalls/Counts -/
def k3 : Class := { plain "com/example/tally_of_calls/tallyofcalls/Counts" (some 0) with
  accessFlags := 33
  interfaces := #[]
  cf := some (fileOf pool3 8 #[] #[{ accessFlags := 2, nameIndex := 5, descriptorIndex := 6, attributes := #[] }, { accessFlags := 9, nameIndex := 84, descriptorIndex := 85, attributes := #[] }] 33 2 #[] #[])
  fields := #[]
  methods := #[k3m0, k3m1]
  instanceTypes := #[]
  staticTypes := #[]
  resolved := Array.replicate 90 none
  statics := none }

def pool4 : Array CpInfo := pool [(3, .methodref 4 5), (0, .class_ 6), (0, .nameAndType 7 8), (0, u "java/lang/Object"), (0, u "<init>"), (0, u "()V"), (0, .fieldref 10 11), (0, .class_ 12), (0, .nameAndType 13 14), (0, u "com/example/tally_of_calls/tallyofcalls/Count"), (0, u "min"), (0, u "I"), (0, .fieldref 10 16), (0, .nameAndType 17 18), (0, u "max"), (0, u "J"), (0, .fieldref 10 20), (0, .nameAndType 21 22), (0, u "phrase"), (0, u "Ljava/lang/String;"), (0, u "UNBOUNDED"), (3, u "(IJLjava/lang/String;)V"), (2, u "()I"), (0, u "()J"), (0, u "()Ljava/lang/String;")] 2

def k4c0 : Code := { maxStack := 3, maxLocals := 5, code := prog_4_method_1_code, exceptionTable := #[], attributes := #[] }
def k4m0 : Method := { name := "<init>", desc := "(IJLjava/lang/String;)V", sig := { parameters := [.int, .long, (.object "java/lang/String")], returnType := none }, accessFlags := 0, code := some k4c0 }
def k4c1 : Code := { maxStack := 1, maxLocals := 1, code := prog_4_method_2_code, exceptionTable := #[], attributes := #[] }
def k4m1 : Method := { name := "min", desc := "()I", sig := { parameters := [], returnType := some .int }, accessFlags := 0, code := some k4c1 }
def k4c2 : Code := { maxStack := 2, maxLocals := 1, code := prog_4_method_3_code, exceptionTable := #[], attributes := #[] }
def k4m2 : Method := { name := "max", desc := "()J", sig := { parameters := [], returnType := some .long }, accessFlags := 0, code := some k4c2 }
def k4c3 : Code := { maxStack := 1, maxLocals := 1, code := prog_4_method_4_code, exceptionTable := #[], attributes := #[] }
def k4m3 : Method := { name := "phrase", desc := "()Ljava/lang/String;", sig := { parameters := [], returnType := some (.object "java/lang/String") }, accessFlags := 0, code := some k4c3 }
/-- com/example/tally_of_calls/tallyofcalls/Count -/
def k4 : Class := { plain "com/example/tally_of_calls/tallyofcalls/Count" (some 0) with
  accessFlags := 33
  interfaces := #[]
  cf := some (fileOf pool4 10 #[] #[{ accessFlags := 0, nameIndex := 7, descriptorIndex := 27, attributes := #[] }, { accessFlags := 0, nameIndex := 13, descriptorIndex := 30, attributes := #[] }, { accessFlags := 0, nameIndex := 17, descriptorIndex := 31, attributes := #[] }, { accessFlags := 0, nameIndex := 21, descriptorIndex := 32, attributes := #[] }] 33 4 #[] #[{ accessFlags := 24, nameIndex := 23, descriptorIndex := 18, attributes := #[] }, { accessFlags := 18, nameIndex := 13, descriptorIndex := 14, attributes := #[] }, { accessFlags := 18, nameIndex := 17, descriptorIndex := 18, attributes := #[] }, { accessFlags := 18, nameIndex := 21, descriptorIndex := 22, attributes := #[] }])
  fields := #[{ name := "UNBOUNDED", type := .long, accessFlags := 24, slot := 0, constantValue := 0 }, { name := "min", type := .int, accessFlags := 18, slot := 0, constantValue := 0 }, { name := "max", type := .long, accessFlags := 18, slot := 1, constantValue := 0 }, { name := "phrase", type := (.object "java/lang/String"), accessFlags := 18, slot := 2, constantValue := 0 }]
  methods := #[k4m0, k4m1, k4m2, k4m3]
  instanceTypes := #[.int, .long, (.object "java/lang/String")]
  staticTypes := #[.long]
  resolved := Array.replicate 35 none
  statics := none }

def pool5 : Array CpInfo := pool [(1, .class_ 2), (0, u "java/lang/Appendable"), (0, .class_ 4), (0, u "java/lang/Object")] 9

/-- java/lang/Appendable -/
def k5 : Class := { plain "java/lang/Appendable" (some 0) with
  accessFlags := 1537
  interfaces := #[]
  cf := some (fileOf pool5 1 #[] #[] 1537 3 #[] #[])
  fields := #[]
  methods := #[]
  instanceTypes := #[]
  staticTypes := #[]
  resolved := Array.replicate 14 none
  statics := none }

def pool6 : Array CpInfo := pool [(2, .class_ 4), (1, u "java/lang/CharSequence"), (42, .class_ 48), (0, u "java/lang/CharSequence$1CodePointIterator"), (10, .class_ 60), (0, u "java/lang/CharSequence$1CharIterator"), (5, .class_ 67), (0, u "java/lang/Object")] 63

/-- java/lang/CharSequence -/
def k6 : Class := { plain "java/lang/CharSequence" (some 0) with
  accessFlags := 1537
  interfaces := #[]
  cf := some (fileOf pool6 2 #[.nestMembers #[47, 59]] #[] 1537 66 #[] #[])
  fields := #[]
  methods := #[]
  instanceTypes := #[]
  staticTypes := #[]
  resolved := Array.replicate 131 none
  statics := none }

def pool7 : Array CpInfo := pool [(1, .class_ 2), (0, u "java/lang/String"), (0, .methodref 4 5), (0, .class_ 6), (0, .nameAndType 7 8), (0, u "java/lang/Object"), (0, u "<init>"), (0, u "()V"), (1, .class_ 12), (1, u "java/lang/AbstractStringBuilder"), (0, u "EMPTYVALUE"), (0, u "[B"), (0, .fieldref 10 16), (0, .nameAndType 17 14), (0, u "value"), (0, .fieldref 1 19), (0, .nameAndType 20 21), (0, u "COMPACT_STRINGS"), (0, u "Z"), (0, .fieldref 10 23), (0, .nameAndType 24 25), (0, u "coder"), (0, u "B"), (6, .methodref 1 33), (0, .nameAndType 34 35), (0, u "length"), (0, u "()I"), (0, .class_ 37), (0, u "java/lang/Integer"), (1, .integer 2147483647), (0, .methodref 1 41), (0, .nameAndType 24 42), (0, u "()B"), (2, u "append"), (0, u "(Ljava/lang/String;)Ljava/lang/AbstractStringBuilder;"), (1, .class_ 49), (0, u "java/lang/CharSequence"), (19, u "(Ljava/lang/String;)V"), (5, u "maybeLatin1"), (3, .fieldref 10 80), (0, .nameAndType 81 82), (0, u "count"), (0, u "I"), (0, .methodref 10 84), (0, .nameAndType 85 86), (0, u "isLatin1"), (0, u "()Z"), (13, .methodref 10 101), (0, .nameAndType 102 103), (0, u "ensureCapacityInternal"), (0, u "(I)V"), (0, .methodref 10 105), (0, .nameAndType 106 107), (0, u "newCapacity"), (0, u "(I)I"), (0, .methodref 109 110), (0, .class_ 111), (0, .nameAndType 112 113), (0, u "java/util/Arrays"), (0, u "copyOf"), (0, u "([BI)[B"), (0, .methodref 115 116), (0, .class_ 117), (0, .nameAndType 118 119), (0, u "jdk/internal/util/ArraysSupport"), (0, u "newLength"), (0, u "(III)I"), (68, u "getChars"), (19, .methodref 10 209), (0, .nameAndType 210 211), (0, u "putStringAt"), (0, u "(ILjava/lang/String;)V"), (5, u "inflateIfNeededFor"), (2, .nameAndType 221 222), (0, u "getBytes"), (0, u "([BIB)V"), (22, .methodref 36 246), (0, .nameAndType 247 107), (0, u "stringSize"), (0, .methodref 36 249), (0, .nameAndType 188 250), (0, u "(II[B)I"), (146, .methodref 10 398), (0, .nameAndType 217 69), (0, .methodref 1 220), (3, u "()[B"), (40, .class_ 445), (0, u "java/lang/Appendable"), (65, u "(I)Ljava/lang/AbstractStringBuilder;"), (40, u "getValue")] 56

def k7m0 : Method := { name := "<init>", desc := "()V", sig := { parameters := [], returnType := none }, accessFlags := 0, code := none }
def k7c1 : Code := { maxStack := 2, maxLocals := 2, code := jdk_68_method_2_code, exceptionTable := #[], attributes := #[] }
def k7m1 : Method := { name := "<init>", desc := "(I)V", sig := { parameters := [.int], returnType := none }, accessFlags := 0, code := some k7c1 }
def k7c2 : Code := { maxStack := 1, maxLocals := 1, code := jdk_68_method_6_code, exceptionTable := #[], attributes := #[] }
def k7m2 : Method := { name := "length", desc := "()I", sig := { parameters := [], returnType := some .int }, accessFlags := 1, code := some k7c2 }
def k7c3 : Code := { maxStack := 4, maxLocals := 3, code := jdk_68_method_9_code, exceptionTable := #[], attributes := #[] }
def k7m3 : Method := { name := "ensureCapacityInternal", desc := "(I)V", sig := { parameters := [.int], returnType := none }, accessFlags := 2, code := some k7c3 }
def k7c4 : Code := { maxStack := 5, maxLocals := 6, code := jdk_68_method_10_code, exceptionTable := #[], attributes := #[] }
def k7m4 : Method := { name := "newCapacity", desc := "(I)I", sig := { parameters := [.int], returnType := some .int }, accessFlags := 2, code := some k7c4 }
def k7c5 : Code := { maxStack := 3, maxLocals := 3, code := jdk_68_method_22_code, exceptionTable := #[], attributes := #[] }
def k7m5 : Method := { name := "append", desc := "(Ljava/lang/String;)Ljava/lang/AbstractStringBuilder;", sig := { parameters := [(.object "java/lang/String")], returnType := some (.object "java/lang/AbstractStringBuilder") }, accessFlags := 1, code := some k7c5 }
def k7c6 : Code := { maxStack := 4, maxLocals := 4, code := jdk_68_method_32_code, exceptionTable := #[], attributes := #[] }
def k7m6 : Method := { name := "append", desc := "(I)Ljava/lang/AbstractStringBuilder;", sig := { parameters := [.int], returnType := some (.object "java/lang/AbstractStringBuilder") }, accessFlags := 1, code := some k7c6 }
def k7c7 : Code := { maxStack := 1, maxLocals := 1, code := jdk_68_method_64_code, exceptionTable := #[], attributes := #[] }
def k7m7 : Method := { name := "getValue", desc := "()[B", sig := { parameters := [], returnType := some (.array .byte) }, accessFlags := 16, code := some k7c7 }
def k7c8 : Code := { maxStack := 1, maxLocals := 1, code := jdk_68_method_68_code, exceptionTable := #[], attributes := #[] }
def k7m8 : Method := { name := "isLatin1", desc := "()Z", sig := { parameters := [], returnType := some .boolean }, accessFlags := 16, code := some k7c8 }
def k7c9 : Code := { maxStack := 2, maxLocals := 2, code := jdk_68_method_71_code, exceptionTable := #[], attributes := #[] }
def k7m9 : Method := { name := "inflateIfNeededFor", desc := "(Ljava/lang/String;)V", sig := { parameters := [(.object "java/lang/String")], returnType := none }, accessFlags := 2, code := some k7c9 }
def k7c10 : Code := { maxStack := 4, maxLocals := 3, code := jdk_68_method_73_code, exceptionTable := #[], attributes := #[] }
def k7m10 : Method := { name := "putStringAt", desc := "(ILjava/lang/String;)V", sig := { parameters := [.int, (.object "java/lang/String")], returnType := none }, accessFlags := 2, code := some k7c10 }
/-- java/lang/AbstractStringBuilder -/
def k7 : Class := { plain "java/lang/AbstractStringBuilder" (some 0) with
  accessFlags := 1056
  interfaces := #[5, 6]
  cf := some (fileOf pool7 10 #[] #[{ accessFlags := 0, nameIndex := 7, descriptorIndex := 8, attributes := #[] }, { accessFlags := 0, nameIndex := 7, descriptorIndex := 103, attributes := #[] }, { accessFlags := 1, nameIndex := 34, descriptorIndex := 35, attributes := #[] }, { accessFlags := 2, nameIndex := 102, descriptorIndex := 103, attributes := #[] }, { accessFlags := 2, nameIndex := 106, descriptorIndex := 107, attributes := #[] }, { accessFlags := 1, nameIndex := 45, descriptorIndex := 46, attributes := #[] }, { accessFlags := 1, nameIndex := 45, descriptorIndex := 511, attributes := #[] }, { accessFlags := 16, nameIndex := 552, descriptorIndex := 403, attributes := #[] }, { accessFlags := 16, nameIndex := 85, descriptorIndex := 86, attributes := #[] }, { accessFlags := 2, nameIndex := 217, descriptorIndex := 69, attributes := #[] }, { accessFlags := 2, nameIndex := 210, descriptorIndex := 211, attributes := #[] }] 1056 4 #[444, 48] #[{ accessFlags := 0, nameIndex := 17, descriptorIndex := 14, attributes := #[] }, { accessFlags := 0, nameIndex := 24, descriptorIndex := 25, attributes := #[] }, { accessFlags := 0, nameIndex := 75, descriptorIndex := 21, attributes := #[] }, { accessFlags := 0, nameIndex := 81, descriptorIndex := 82, attributes := #[] }, { accessFlags := 26, nameIndex := 13, descriptorIndex := 14, attributes := #[] }])
  fields := #[{ name := "value", type := (.array .byte), accessFlags := 0, slot := 0, constantValue := 0 }, { name := "coder", type := .byte, accessFlags := 0, slot := 1, constantValue := 0 }, { name := "maybeLatin1", type := .boolean, accessFlags := 0, slot := 2, constantValue := 0 }, { name := "count", type := .int, accessFlags := 0, slot := 3, constantValue := 0 }, { name := "EMPTYVALUE", type := (.array .byte), accessFlags := 26, slot := 0, constantValue := 0 }]
  methods := #[k7m0, k7m1, k7m2, k7m3, k7m4, k7m5, k7m6, k7m7, k7m8, k7m9, k7m10]
  instanceTypes := #[(.array .byte), .byte, .boolean, .int]
  staticTypes := #[(.array .byte)]
  resolved := Array.replicate 609 none
  statics := none }

def pool8 : Array CpInfo := pool [(1, .class_ 2), (0, u "java/io/Serializable"), (0, .class_ 4), (0, u "java/lang/Object")] 2

/-- java/io/Serializable -/
def k8 : Class := { plain "java/io/Serializable" (some 0) with
  accessFlags := 1537
  interfaces := #[]
  cf := some (fileOf pool8 1 #[] #[] 1537 3 #[] #[])
  fields := #[]
  methods := #[]
  instanceTypes := #[]
  staticTypes := #[]
  resolved := Array.replicate 7 none
  statics := none }

def pool9 : Array CpInfo := pool [(1, .class_ 2), (0, u "java/lang/Comparable"), (0, .class_ 4), (0, u "java/lang/Object")] 7

/-- java/lang/Comparable -/
def k9 : Class := { plain "java/lang/Comparable" (some 0) with
  accessFlags := 1537
  interfaces := #[]
  cf := some (fileOf pool9 1 #[] #[] 1537 3 #[] #[])
  fields := #[]
  methods := #[]
  instanceTypes := #[]
  staticTypes := #[]
  resolved := Array.replicate 12 none
  statics := none }

def pool10 : Array CpInfo := pool [(1, .methodref 2 3), (0, .class_ 4), (0, .nameAndType 5 6), (0, u "java/lang/AbstractStringBuilder"), (0, u "<init>"), (0, u "(I)V"), (11, .class_ 20), (1, u "java/lang/String"), (3, .class_ 26), (1, u "java/lang/StringBuilder"), (0, u "append"), (0, u "(Ljava/lang/String;)Ljava/lang/StringBuilder;"), (0, .methodref 2 30), (0, .nameAndType 27 31), (0, u "(Ljava/lang/String;)Ljava/lang/AbstractStringBuilder;"), (21, .methodref 2 54), (0, .nameAndType 27 55), (0, u "(I)Ljava/lang/AbstractStringBuilder;"), (81, .methodref 18 138), (0, .nameAndType 5 139), (0, u "(Ljava/lang/StringBuilder;)V"), (5, u "()V"), (10, u "()I"), (111, u "(I)Ljava/lang/StringBuilder;"), (74, .methodref 2 344), (0, .nameAndType 345 156), (0, u "length"), (3, .class_ 350), (0, u "java/lang/Appendable"), (0, .class_ 352), (0, u "java/io/Serializable"), (0, .class_ 354), (0, u "java/lang/Comparable"), (0, .class_ 356), (0, u "java/lang/CharSequence"), (0, u "serialVersionUID"), (0, u "J"), (40, u "toString"), (0, u "()Ljava/lang/String;")] 21

def k10c0 : Code := { maxStack := 2, maxLocals := 1, code := jdk_67_method_1_code, exceptionTable := #[], attributes := #[] }
def k10m0 : Method := { name := "<init>", desc := "()V", sig := { parameters := [], returnType := none }, accessFlags := 1, code := some k10c0 }
def k10c1 : Code := { maxStack := 2, maxLocals := 2, code := jdk_67_method_7_code, exceptionTable := #[], attributes := #[] }
def k10m1 : Method := { name := "append", desc := "(Ljava/lang/String;)Ljava/lang/StringBuilder;", sig := { parameters := [(.object "java/lang/String")], returnType := some (.object "java/lang/StringBuilder") }, accessFlags := 1, code := some k10c1 }
def k10c2 : Code := { maxStack := 2, maxLocals := 2, code := jdk_67_method_15_code, exceptionTable := #[], attributes := #[] }
def k10m2 : Method := { name := "append", desc := "(I)Ljava/lang/StringBuilder;", sig := { parameters := [.int], returnType := some (.object "java/lang/StringBuilder") }, accessFlags := 1, code := some k10c2 }
def k10c3 : Code := { maxStack := 3, maxLocals := 1, code := jdk_67_method_42_code, exceptionTable := #[], attributes := #[] }
def k10m3 : Method := { name := "toString", desc := "()Ljava/lang/String;", sig := { parameters := [], returnType := some (.object "java/lang/String") }, accessFlags := 1, code := some k10c3 }
def k10c4 : Code := { maxStack := 1, maxLocals := 1, code := jdk_67_method_93_code, exceptionTable := #[], attributes := #[] }
def k10m4 : Method := { name := "length", desc := "()I", sig := { parameters := [], returnType := some .int }, accessFlags := 4161, code := some k10c4 }
/-- java/lang/StringBuilder -/
def k10 : Class := { plain "java/lang/StringBuilder" (some 7) with
  accessFlags := 49
  interfaces := #[5, 8, 9, 6]
  cf := some (fileOf pool10 24 #[] #[{ accessFlags := 1, nameIndex := 5, descriptorIndex := 145, attributes := #[] }, { accessFlags := 1, nameIndex := 27, descriptorIndex := 28, attributes := #[] }, { accessFlags := 1, nameIndex := 27, descriptorIndex := 268, attributes := #[] }, { accessFlags := 1, nameIndex := 399, descriptorIndex := 400, attributes := #[] }, { accessFlags := 4161, nameIndex := 345, descriptorIndex := 156, attributes := #[] }] 49 2 #[349, 351, 353, 355] #[{ accessFlags := 24, nameIndex := 357, descriptorIndex := 358, attributes := #[] }])
  fields := #[{ name := "serialVersionUID", type := .long, accessFlags := 24, slot := 0, constantValue := 0 }]
  methods := #[k10m0, k10m1, k10m2, k10m3, k10m4]
  instanceTypes := #[(.array .byte), .byte, .boolean, .int]
  staticTypes := #[.long]
  resolved := Array.replicate 422 none
  statics := none }

def pool11 : Array CpInfo := pool [(1, .class_ 2), (0, u "java/lang/constant/Constable"), (0, .class_ 4), (0, u "java/lang/Object")] 6

/-- java/lang/constant/Constable -/
def k11 : Class := { plain "java/lang/constant/Constable" (some 0) with
  accessFlags := 1537
  interfaces := #[]
  cf := some (fileOf pool11 1 #[] #[] 1537 3 #[] #[])
  fields := #[]
  methods := #[]
  instanceTypes := #[]
  staticTypes := #[]
  resolved := Array.replicate 11 none
  statics := none }

def pool12 : Array CpInfo := pool [(1, .class_ 2), (0, u "java/lang/constant/ConstantDesc"), (0, .class_ 4), (0, u "java/lang/Object")] 32

/-- java/lang/constant/ConstantDesc -/
def k12 : Class := { plain "java/lang/constant/ConstantDesc" (some 0) with
  accessFlags := 1537
  interfaces := #[]
  cf := some (fileOf pool12 1 #[] #[] 1537 3 #[] #[])
  fields := #[]
  methods := #[]
  instanceTypes := #[]
  staticTypes := #[]
  resolved := Array.replicate 37 none
  statics := none }

def pool13 : Array CpInfo := pool [(1, .methodref 2 3), (0, .class_ 4), (0, .nameAndType 5 6), (0, u "java/lang/Object"), (0, u "<init>"), (0, u "()V"), (2, .fieldref 10 11), (0, .class_ 12), (0, .nameAndType 13 14), (0, u "java/lang/String"), (0, u "value"), (0, u "[B"), (0, .fieldref 10 16), (0, .nameAndType 17 18), (0, u "coder"), (0, u "B"), (2, u "hash"), (0, u "I"), (2, u "hashIsZero"), (0, u "Z"), (0, .methodref 10 28), (0, .nameAndType 5 29), (0, u "([CIILjava/lang/Void;)V"), (8, .fieldref 10 39), (0, .nameAndType 40 26), (0, u "COMPACT_STRINGS"), (1, .class_ 44), (1, u "java/lang/StringUTF16"), (0, u "compress"), (1, .methodref 42 48), (0, .nameAndType 49 50), (0, u "coderFromArrayLen"), (0, u "([BI)B"), (3, .methodref 55 56), (0, .class_ 57), (0, .nameAndType 58 59), (0, u "java/util/Arrays"), (0, u "copyOfRange"), (0, u "([BII)[B"), (47, .class_ 109), (1, u "java/lang/StringLatin1"), (32, u "()Z"), (34, .methodref 42 178), (0, .nameAndType 45 179), (0, u "([CII)[B"), (13, .class_ 195), (1, u "java/lang/System"), (16, .methodref 193 213), (0, .nameAndType 214 215), (0, u "arraycopy"), (0, u "(Ljava/lang/Object;ILjava/lang/Object;II)V"), (118, u "()I"), (0, .methodref 10 336), (0, .nameAndType 17 337), (0, u "()B"), (2, u "()[B"), (148, .methodref 10 490), (0, .nameAndType 5 491), (0, u "(Ljava/lang/AbstractStringBuilder;Ljava/lang/Void;)V"), (1, .nameAndType 494 142), (0, u "isLatin1"), (11, .nameAndType 507 334), (0, u "length"), (24, u "getBytes"), (8, .methodref 107 542), (0, .nameAndType 543 544), (0, u "equals"), (0, u "([B[B)Z"), (4, .methodref 550 506), (0, .class_ 551), (0, u "java/lang/AbstractStringBuilder"), (0, .methodref 550 553), (0, .nameAndType 554 340), (0, u "getValue"), (18, u "(Ljava/lang/Object;)Z"), (1, .class_ 576), (0, u "java/lang/CharSequence"), (22, u "CASE_INSENSITIVE_ORDER"), (0, u "Ljava/util/Comparator;"), (220, u "([BIB)V"), (188, u "([C)V"), (36, .methodref 550 493), (53, u "serialPersistentFields"), (0, u "[Ljava/io/ObjectStreamField;"), (0, .class_ 1104), (0, u "java/lang/String$CaseInsensitiveComparator"), (1, .class_ 1107), (0, u "java/io/Serializable"), (0, .class_ 1109), (0, u "java/lang/Comparable"), (0, .class_ 1111), (0, u "java/lang/constant/Constable"), (0, .class_ 1113), (0, u "java/lang/constant/ConstantDesc"), (2, u "serialVersionUID"), (0, u "J"), (3, u "REPL"), (0, u "C"), (2, u "LATIN1"), (1, u "UTF16"), (105, u "(Ljava/lang/StringBuilder;)V")] 217

def k13m0 : Method := { name := "<init>", desc := "()V", sig := { parameters := [], returnType := none }, accessFlags := 1, code := none }
def k13c1 : Code := { maxStack := 5, maxLocals := 2, code := jdk_42_method_3_code, exceptionTable := #[], attributes := #[] }
def k13m1 : Method := { name := "<init>", desc := "([C)V", sig := { parameters := [(.array .char)], returnType := none }, accessFlags := 1, code := some k13c1 }
def k13c2 : Code := { maxStack := 3, maxLocals := 2, code := jdk_42_method_53_code, exceptionTable := #[], attributes := #[] }
def k13m2 : Method := { name := "<init>", desc := "(Ljava/lang/StringBuilder;)V", sig := { parameters := [(.object "java/lang/StringBuilder")], returnType := none }, accessFlags := 1, code := some k13c2 }
def k13c3 : Code := { maxStack := 2, maxLocals := 1, code := jdk_42_method_54_code, exceptionTable := #[], attributes := #[] }
def k13m3 : Method := { name := "length", desc := "()I", sig := { parameters := [], returnType := some .int }, accessFlags := 1, code := some k13c3 }
def k13c4 : Code := { maxStack := 2, maxLocals := 3, code := jdk_42_method_66_code, exceptionTable := #[], attributes := #[] }
def k13m4 : Method := { name := "equals", desc := "(Ljava/lang/Object;)Z", sig := { parameters := [(.object "java/lang/Object")], returnType := some .boolean }, accessFlags := 1, code := some k13c4 }
def k13c5 : Code := { maxStack := 5, maxLocals := 4, code := jdk_42_method_147_code, exceptionTable := #[], attributes := #[] }
def k13m5 : Method := { name := "getBytes", desc := "([BIB)V", sig := { parameters := [(.array .byte), .int, .byte], returnType := none }, accessFlags := 0, code := some k13c5 }
def k13c6 : Code := { maxStack := 4, maxLocals := 6, code := jdk_42_method_149_code, exceptionTable := #[], attributes := #[] }
def k13m6 : Method := { name := "<init>", desc := "([CIILjava/lang/Void;)V", sig := { parameters := [(.array .char), .int, .int, (.object "java/lang/Void")], returnType := none }, accessFlags := 2, code := some k13c6 }
def k13c7 : Code := { maxStack := 5, maxLocals := 5, code := jdk_42_method_150_code, exceptionTable := #[], attributes := #[] }
def k13m7 : Method := { name := "<init>", desc := "(Ljava/lang/AbstractStringBuilder;Ljava/lang/Void;)V", sig := { parameters := [(.object "java/lang/AbstractStringBuilder"), (.object "java/lang/Void")], returnType := none }, accessFlags := 0, code := some k13c7 }
def k13c8 : Code := { maxStack := 1, maxLocals := 1, code := jdk_42_method_152_code, exceptionTable := #[], attributes := #[] }
def k13m8 : Method := { name := "coder", desc := "()B", sig := { parameters := [], returnType := some .byte }, accessFlags := 0, code := some k13c8 }
/-- java/lang/String -/
def k13 : Class := { plain "java/lang/String" (some 0) with
  accessFlags := 49
  interfaces := #[8, 9, 6, 11, 12]
  cf := some (fileOf pool13 10 #[.nestMembers #[1103]] #[{ accessFlags := 1, nameIndex := 5, descriptorIndex := 6, attributes := #[] }, { accessFlags := 1, nameIndex := 5, descriptorIndex := 1010, attributes := #[] }, { accessFlags := 1, nameIndex := 5, descriptorIndex := 1233, attributes := #[] }, { accessFlags := 1, nameIndex := 507, descriptorIndex := 334, attributes := #[] }, { accessFlags := 1, nameIndex := 543, descriptorIndex := 573, attributes := #[] }, { accessFlags := 0, nameIndex := 532, descriptorIndex := 821, attributes := #[] }, { accessFlags := 2, nameIndex := 5, descriptorIndex := 29, attributes := #[] }, { accessFlags := 0, nameIndex := 5, descriptorIndex := 491, attributes := #[] }, { accessFlags := 0, nameIndex := 17, descriptorIndex := 337, attributes := #[] }] 49 2 #[1106, 1108, 575, 1110, 1112] #[{ accessFlags := 18, nameIndex := 13, descriptorIndex := 14, attributes := #[] }, { accessFlags := 18, nameIndex := 17, descriptorIndex := 18, attributes := #[] }, { accessFlags := 2, nameIndex := 21, descriptorIndex := 22, attributes := #[] }, { accessFlags := 2, nameIndex := 25, descriptorIndex := 26, attributes := #[] }, { accessFlags := 26, nameIndex := 1116, descriptorIndex := 1117, attributes := #[] }, { accessFlags := 24, nameIndex := 40, descriptorIndex := 26, attributes := #[] }, { accessFlags := 26, nameIndex := 1101, descriptorIndex := 1102, attributes := #[] }, { accessFlags := 26, nameIndex := 1121, descriptorIndex := 1122, attributes := #[] }, { accessFlags := 25, nameIndex := 599, descriptorIndex := 600, attributes := #[] }, { accessFlags := 24, nameIndex := 1125, descriptorIndex := 18, attributes := #[] }, { accessFlags := 24, nameIndex := 1127, descriptorIndex := 18, attributes := #[] }])
  fields := #[{ name := "value", type := (.array .byte), accessFlags := 18, slot := 0, constantValue := 0 }, { name := "coder", type := .byte, accessFlags := 18, slot := 1, constantValue := 0 }, { name := "hash", type := .int, accessFlags := 2, slot := 2, constantValue := 0 }, { name := "hashIsZero", type := .boolean, accessFlags := 2, slot := 3, constantValue := 0 }, { name := "serialVersionUID", type := .long, accessFlags := 26, slot := 0, constantValue := 0 }, { name := "COMPACT_STRINGS", type := .boolean, accessFlags := 24, slot := 1, constantValue := 0 }, { name := "serialPersistentFields", type := (.array (.object "java/io/ObjectStreamField")), accessFlags := 26, slot := 2, constantValue := 0 }, { name := "REPL", type := .char, accessFlags := 26, slot := 3, constantValue := 0 }, { name := "CASE_INSENSITIVE_ORDER", type := (.object "java/util/Comparator"), accessFlags := 25, slot := 4, constantValue := 0 }, { name := "LATIN1", type := .byte, accessFlags := 24, slot := 5, constantValue := 0 }, { name := "UTF16", type := .byte, accessFlags := 24, slot := 6, constantValue := 0 }]
  methods := #[k13m0, k13m1, k13m2, k13m3, k13m4, k13m5, k13m6, k13m7, k13m8]
  instanceTypes := #[(.array .byte), .byte, .int, .boolean]
  staticTypes := #[.long, .boolean, (.array (.object "java/io/ObjectStreamField")), .char, (.object "java/util/Comparator"), .byte, .byte]
  resolved := Array.replicate 1451 none
  statics := some 0 }

def pool14 : Array CpInfo := pool [(9, u "<init>"), (6, .class_ 18), (1, u "java/lang/Object"), (0, u "()V"), (1, .class_ 23), (1, u "jdk/internal/util/ArraysSupport"), (0, u "LOG2_ARRAY_LONG_INDEX_SCALE"), (0, u "I"), (2, u "U"), (0, u "Ljdk/internal/misc/Unsafe;"), (8, u "BIG_ENDIAN"), (0, u "Z"), (8, u "LOG2_BYTE_BIT_SIZE"), (4, u "LOG2_ARRAY_INT_INDEX_SCALE"), (54, u "JLA"), (0, u "Ljdk/internal/access/JavaLangAccess;"), (11, u "LOG2_ARRAY_BOOLEAN_INDEX_SCALE"), (9, u "LOG2_ARRAY_BYTE_INDEX_SCALE"), (5, u "LOG2_ARRAY_CHAR_INDEX_SCALE"), (5, u "LOG2_ARRAY_SHORT_INDEX_SCALE"), (18, u "LOG2_ARRAY_FLOAT_INDEX_SCALE"), (24, u "LOG2_ARRAY_DOUBLE_INDEX_SCALE"), (6, .methodref 195 196), (0, .class_ 197), (0, .nameAndType 198 199), (0, u "java/lang/Math"), (0, u "max"), (0, u "(II)I"), (0, .integer 2147483639), (76, u "T_BOOLEAN"), (2, u "T_CHAR"), (1, u "T_FLOAT"), (1, u "T_DOUBLE"), (1, u "T_BYTE"), (1, u "T_SHORT"), (1, u "T_INT"), (1, u "T_LONG"), (1, u "SOFT_MAX_ARRAY_LENGTH"), (56, u "newLength"), (0, u "(III)I")] 25

def k14m0 : Method := { name := "<init>", desc := "()V", sig := { parameters := [], returnType := none }, accessFlags := 2, code := none }
def k14c1 : Code := { maxStack := 3, maxLocals := 4, code := jdk_48_method_27_code, exceptionTable := #[], attributes := #[] }
def k14m1 : Method := { name := "newLength", desc := "(III)I", sig := { parameters := [.int, .int, .int], returnType := some .int }, accessFlags := 9, code := some k14c1 }
/-- jdk/internal/util/ArraysSupport -/
def k14 : Class := { plain "jdk/internal/util/ArraysSupport" (some 0) with
  accessFlags := 33
  interfaces := #[]
  cf := some (fileOf pool14 21 #[] #[{ accessFlags := 2, nameIndex := 9, descriptorIndex := 19, attributes := #[] }, { accessFlags := 9, nameIndex := 351, descriptorIndex := 352, attributes := #[] }] 33 16 #[] #[{ accessFlags := 24, nameIndex := 28, descriptorIndex := 29, attributes := #[] }, { accessFlags := 26, nameIndex := 38, descriptorIndex := 39, attributes := #[] }, { accessFlags := 25, nameIndex := 121, descriptorIndex := 25, attributes := #[] }, { accessFlags := 25, nameIndex := 131, descriptorIndex := 25, attributes := #[] }, { accessFlags := 25, nameIndex := 137, descriptorIndex := 25, attributes := #[] }, { accessFlags := 25, nameIndex := 143, descriptorIndex := 25, attributes := #[] }, { accessFlags := 25, nameIndex := 53, descriptorIndex := 25, attributes := #[] }, { accessFlags := 25, nameIndex := 24, descriptorIndex := 25, attributes := #[] }, { accessFlags := 25, nameIndex := 162, descriptorIndex := 25, attributes := #[] }, { accessFlags := 25, nameIndex := 187, descriptorIndex := 25, attributes := #[] }, { accessFlags := 26, nameIndex := 48, descriptorIndex := 25, attributes := #[] }, { accessFlags := 25, nameIndex := 277, descriptorIndex := 25, attributes := #[] }, { accessFlags := 25, nameIndex := 280, descriptorIndex := 25, attributes := #[] }, { accessFlags := 25, nameIndex := 282, descriptorIndex := 25, attributes := #[] }, { accessFlags := 25, nameIndex := 284, descriptorIndex := 25, attributes := #[] }, { accessFlags := 25, nameIndex := 286, descriptorIndex := 25, attributes := #[] }, { accessFlags := 25, nameIndex := 288, descriptorIndex := 25, attributes := #[] }, { accessFlags := 25, nameIndex := 290, descriptorIndex := 25, attributes := #[] }, { accessFlags := 25, nameIndex := 292, descriptorIndex := 25, attributes := #[] }, { accessFlags := 26, nameIndex := 108, descriptorIndex := 109, attributes := #[] }, { accessFlags := 25, nameIndex := 294, descriptorIndex := 25, attributes := #[] }])
  fields := #[{ name := "U", type := (.object "jdk/internal/misc/Unsafe"), accessFlags := 24, slot := 0, constantValue := 0 }, { name := "BIG_ENDIAN", type := .boolean, accessFlags := 26, slot := 1, constantValue := 0 }, { name := "LOG2_ARRAY_BOOLEAN_INDEX_SCALE", type := .int, accessFlags := 25, slot := 2, constantValue := 0 }, { name := "LOG2_ARRAY_BYTE_INDEX_SCALE", type := .int, accessFlags := 25, slot := 3, constantValue := 0 }, { name := "LOG2_ARRAY_CHAR_INDEX_SCALE", type := .int, accessFlags := 25, slot := 4, constantValue := 0 }, { name := "LOG2_ARRAY_SHORT_INDEX_SCALE", type := .int, accessFlags := 25, slot := 5, constantValue := 0 }, { name := "LOG2_ARRAY_INT_INDEX_SCALE", type := .int, accessFlags := 25, slot := 6, constantValue := 0 }, { name := "LOG2_ARRAY_LONG_INDEX_SCALE", type := .int, accessFlags := 25, slot := 7, constantValue := 0 }, { name := "LOG2_ARRAY_FLOAT_INDEX_SCALE", type := .int, accessFlags := 25, slot := 8, constantValue := 0 }, { name := "LOG2_ARRAY_DOUBLE_INDEX_SCALE", type := .int, accessFlags := 25, slot := 9, constantValue := 0 }, { name := "LOG2_BYTE_BIT_SIZE", type := .int, accessFlags := 26, slot := 10, constantValue := 0 }, { name := "T_BOOLEAN", type := .int, accessFlags := 25, slot := 11, constantValue := 0 }, { name := "T_CHAR", type := .int, accessFlags := 25, slot := 12, constantValue := 0 }, { name := "T_FLOAT", type := .int, accessFlags := 25, slot := 13, constantValue := 0 }, { name := "T_DOUBLE", type := .int, accessFlags := 25, slot := 14, constantValue := 0 }, { name := "T_BYTE", type := .int, accessFlags := 25, slot := 15, constantValue := 0 }, { name := "T_SHORT", type := .int, accessFlags := 25, slot := 16, constantValue := 0 }, { name := "T_INT", type := .int, accessFlags := 25, slot := 17, constantValue := 0 }, { name := "T_LONG", type := .int, accessFlags := 25, slot := 18, constantValue := 0 }, { name := "JLA", type := (.object "jdk/internal/access/JavaLangAccess"), accessFlags := 26, slot := 19, constantValue := 0 }, { name := "SOFT_MAX_ARRAY_LENGTH", type := .int, accessFlags := 25, slot := 20, constantValue := 0 }]
  methods := #[k14m0, k14m1]
  instanceTypes := #[]
  staticTypes := #[(.object "jdk/internal/misc/Unsafe"), .boolean, .int, .int, .int, .int, .int, .int, .int, .int, .int, .int, .int, .int, .int, .int, .int, .int, .int, (.object "jdk/internal/access/JavaLangAccess"), .int]
  resolved := Array.replicate 378 none
  statics := none }

def pool15 : Array CpInfo := pool [(2, .class_ 4), (1, u "java/lang/Object"), (0, u "<init>"), (0, u "()V"), (7, .class_ 16), (1, u "java/util/Arrays"), (57, .class_ 76), (1, u "java/util/Arrays$NaturalOrder"), (32, u "()Ljava/lang/Object;"), (3, .class_ 115), (1, u "java/util/Arrays$LegacyMergeSort"), (1, u "Z"), (10, .nameAndType 129 109), (0, u "clone"), (9, u "copyOfRange"), (10, .methodref 151 152), (0, .class_ 153), (0, .nameAndType 154 155), (0, u "java/lang/System"), (0, u "arraycopy"), (0, u "(Ljava/lang/Object;ILjava/lang/Object;II)V"), (146, u "copyOf"), (1, .methodref 305 306), (0, .class_ 307), (0, .nameAndType 308 309), (0, u "java/lang/Math"), (0, u "min"), (0, u "(II)I"), (0, .methodref 311 128), (0, .class_ 312), (0, u "[B"), (26, .methodref 14 340), (0, .nameAndType 341 342), (0, u "copyOfRangeByte"), (0, u "([BII)[B"), (0, .methodref 14 344), (0, .nameAndType 345 346), (0, u "checkLength"), (0, u "(II)V"), (28, .class_ 376), (0, u "java/util/Arrays$ArrayList"), (68, u "$assertionsDisabled"), (269, u "MIN_ARRAY_SORT_GRAN"), (0, u "I"), (2, u "INSERTIONSORT_THRESHOLD"), (149, u "([BI)[B"), (105, .class_ 976), (0, u "java/util/Arrays$ArrayItr")] 52

def k15m0 : Method := { name := "<init>", desc := "()V", sig := { parameters := [], returnType := none }, accessFlags := 2, code := none }
def k15c1 : Code := { maxStack := 6, maxLocals := 3, code := jdk_65_method_121_code, exceptionTable := #[], attributes := #[] }
def k15m1 : Method := { name := "copyOf", desc := "([BI)[B", sig := { parameters := [(.array .byte), .int], returnType := some (.array .byte) }, accessFlags := 9, code := some k15c1 }
def k15c2 : Code := { maxStack := 4, maxLocals := 2, code := jdk_65_method_131_code, exceptionTable := #[], attributes := #[] }
def k15m2 : Method := { name := "checkLength", desc := "(II)V", sig := { parameters := [.int, .int], returnType := none }, accessFlags := 10, code := some k15c2 }
def k15c3 : Code := { maxStack := 3, maxLocals := 3, code := jdk_65_method_132_code, exceptionTable := #[], attributes := #[] }
def k15m3 : Method := { name := "copyOfRange", desc := "([BII)[B", sig := { parameters := [(.array .byte), .int, .int], returnType := some (.array .byte) }, accessFlags := 9, code := some k15c3 }
def k15c4 : Code := { maxStack := 6, maxLocals := 5, code := jdk_65_method_133_code, exceptionTable := #[], attributes := #[] }
def k15m4 : Method := { name := "copyOfRangeByte", desc := "([BII)[B", sig := { parameters := [(.array .byte), .int, .int], returnType := some (.array .byte) }, accessFlags := 10, code := some k15c4 }
/-- java/util/Arrays -/
def k15 : Class := { plain "java/util/Arrays" (some 0) with
  accessFlags := 49
  interfaces := #[]
  cf := some (fileOf pool15 14 #[.nestMembers #[975, 375, 113, 74]] #[{ accessFlags := 2, nameIndex := 5, descriptorIndex := 6, attributes := #[] }, { accessFlags := 9, nameIndex := 302, descriptorIndex := 869, attributes := #[] }, { accessFlags := 10, nameIndex := 345, descriptorIndex := 346, attributes := #[] }, { accessFlags := 9, nameIndex := 139, descriptorIndex := 342, attributes := #[] }, { accessFlags := 10, nameIndex := 341, descriptorIndex := 342, attributes := #[] }] 49 2 #[] #[{ accessFlags := 26, nameIndex := 715, descriptorIndex := 716, attributes := #[] }, { accessFlags := 26, nameIndex := 719, descriptorIndex := 716, attributes := #[] }, { accessFlags := 4120, nameIndex := 445, descriptorIndex := 117, attributes := #[] }])
  fields := #[{ name := "MIN_ARRAY_SORT_GRAN", type := .int, accessFlags := 26, slot := 0, constantValue := 0 }, { name := "INSERTIONSORT_THRESHOLD", type := .int, accessFlags := 26, slot := 1, constantValue := 0 }, { name := "$assertionsDisabled", type := .boolean, accessFlags := 4120, slot := 2, constantValue := 0 }]
  methods := #[k15m0, k15m1, k15m2, k15m3, k15m4]
  instanceTypes := #[]
  staticTypes := #[.int, .int, .boolean]
  resolved := Array.replicate 1029 none
  statics := none }

def pool16 : Array CpInfo := pool [(2, .class_ 4), (1, u "java/lang/Object"), (0, u "<init>"), (0, u "()V"), (1, .class_ 10), (1, u "java/lang/System"), (0, u "allowSecurityManager"), (0, u "I"), (16, u "cons"), (0, u "Ljava/io/Console;"), (77, .class_ 110), (1, u "java/lang/System$CallersHolder"), (43, u "initialErrStream"), (0, u "Ljava/io/PrintStream;"), (19, u "security"), (0, u "Ljava/lang/SecurityManager;"), (31, .class_ 209), (0, u "java/lang/System$1"), (7, u "props"), (0, u "Ljava/util/Properties;"), (2, u "lineSeparator"), (0, u "Ljava/lang/String;"), (96, .class_ 321), (1, u "java/lang/System$LoggerFinder"), (5, .class_ 328), (0, u "java/lang/System$Logger"), (67, u "err"), (2, u "out"), (91, u "notSupportedJnuEncoding"), (15, u "in"), (17, u "initialIn"), (0, u "Ljava/io/InputStream;"), (35, u "bootLayer"), (0, u "Ljava/lang/ModuleLayer;"), (99, .class_ 664), (0, u "java/lang/System$2"), (9, u "NEVER"), (2, u "MAYBE"), (49, u "arraycopy"), (0, u "(Ljava/lang/Object;ILjava/lang/Object;II)V"), (72, .class_ 802), (0, u "java/lang/System$Logger$Level")] 31

def k16m0 : Method := { name := "<init>", desc := "()V", sig := { parameters := [], returnType := none }, accessFlags := 2, code := none }
def k16m1 : Method := { name := "arraycopy", desc := "(Ljava/lang/Object;ILjava/lang/Object;II)V", sig := { parameters := [(.object "java/lang/Object"), .int, (.object "java/lang/Object"), .int, .int], returnType := none }, accessFlags := 265, code := none }
/-- java/lang/System -/
def k16 : Class := { plain "java/lang/System" (some 0) with
  accessFlags := 49
  interfaces := #[]
  cf := some (fileOf pool16 8 #[.nestMembers #[319, 327, 801, 108, 663, 208]] #[{ accessFlags := 2, nameIndex := 5, descriptorIndex := 6, attributes := #[] }, { accessFlags := 265, nameIndex := 727, descriptorIndex := 728, attributes := #[] }] 49 2 #[] #[{ accessFlags := 25, nameIndex := 507, descriptorIndex := 526, attributes := #[] }, { accessFlags := 25, nameIndex := 399, descriptorIndex := 155, attributes := #[] }, { accessFlags := 25, nameIndex := 396, descriptorIndex := 155, attributes := #[] }, { accessFlags := 10, nameIndex := 525, descriptorIndex := 526, attributes := #[] }, { accessFlags := 26, nameIndex := 674, descriptorIndex := 12, attributes := #[] }, { accessFlags := 26, nameIndex := 677, descriptorIndex := 12, attributes := #[] }, { accessFlags := 10, nameIndex := 11, descriptorIndex := 12, attributes := #[] }, { accessFlags := 74, nameIndex := 175, descriptorIndex := 176, attributes := #[] }, { accessFlags := 10, nameIndex := 491, descriptorIndex := 222, attributes := #[] }, { accessFlags := 74, nameIndex := 29, descriptorIndex := 30, attributes := #[] }, { accessFlags := 74, nameIndex := 154, descriptorIndex := 155, attributes := #[] }, { accessFlags := 10, nameIndex := 217, descriptorIndex := 218, attributes := #[] }, { accessFlags := 10, nameIndex := 221, descriptorIndex := 222, attributes := #[] }, { accessFlags := 8, nameIndex := 562, descriptorIndex := 563, attributes := #[] }])
  fields := #[{ name := "in", type := (.object "java/io/InputStream"), accessFlags := 25, slot := 0, constantValue := 0 }, { name := "out", type := (.object "java/io/PrintStream"), accessFlags := 25, slot := 1, constantValue := 0 }, { name := "err", type := (.object "java/io/PrintStream"), accessFlags := 25, slot := 2, constantValue := 0 }, { name := "initialIn", type := (.object "java/io/InputStream"), accessFlags := 10, slot := 3, constantValue := 0 }, { name := "NEVER", type := .int, accessFlags := 26, slot := 4, constantValue := 0 }, { name := "MAYBE", type := .int, accessFlags := 26, slot := 5, constantValue := 0 }, { name := "allowSecurityManager", type := .int, accessFlags := 10, slot := 6, constantValue := 0 }, { name := "security", type := (.object "java/lang/SecurityManager"), accessFlags := 74, slot := 7, constantValue := 0 }, { name := "notSupportedJnuEncoding", type := (.object "java/lang/String"), accessFlags := 10, slot := 8, constantValue := 0 }, { name := "cons", type := (.object "java/io/Console"), accessFlags := 74, slot := 9, constantValue := 0 }, { name := "initialErrStream", type := (.object "java/io/PrintStream"), accessFlags := 74, slot := 10, constantValue := 0 }, { name := "props", type := (.object "java/util/Properties"), accessFlags := 10, slot := 11, constantValue := 0 }, { name := "lineSeparator", type := (.object "java/lang/String"), accessFlags := 10, slot := 12, constantValue := 0 }, { name := "bootLayer", type := (.object "java/lang/ModuleLayer"), accessFlags := 8, slot := 13, constantValue := 0 }]
  methods := #[k16m0, k16m1]
  instanceTypes := #[]
  staticTypes := #[(.object "java/io/InputStream"), (.object "java/io/PrintStream"), (.object "java/io/PrintStream"), (.object "java/io/InputStream"), .int, .int, .int, (.object "java/lang/SecurityManager"), (.object "java/lang/String"), (.object "java/io/Console"), (.object "java/io/PrintStream"), (.object "java/util/Properties"), (.object "java/lang/String"), (.object "java/lang/ModuleLayer")]
  resolved := Array.replicate 834 none
  statics := none }

def pool17 : Array CpInfo := pool [(2, .class_ 4), (1, u "java/lang/Object"), (0, u "<init>"), (0, u "()V"), (1, .class_ 10), (1, u "java/lang/Number"), (2, .class_ 14), (0, u "java/io/Serializable"), (0, u "serialVersionUID"), (0, u "J")] 20

def k17m0 : Method := { name := "<init>", desc := "()V", sig := { parameters := [], returnType := none }, accessFlags := 1, code := none }
/-- java/lang/Number -/
def k17 : Class := { plain "java/lang/Number" (some 0) with
  accessFlags := 1057
  interfaces := #[8]
  cf := some (fileOf pool17 8 #[] #[{ accessFlags := 1, nameIndex := 5, descriptorIndex := 6, attributes := #[] }] 1057 2 #[13] #[{ accessFlags := 26, nameIndex := 15, descriptorIndex := 16, attributes := #[] }])
  fields := #[{ name := "serialVersionUID", type := .long, accessFlags := 26, slot := 0, constantValue := 0 }]
  methods := #[k17m0]
  instanceTypes := #[]
  staticTypes := #[.long]
  resolved := Array.replicate 37 none
  statics := none }

def pool18 : Array CpInfo := pool [(1, .class_ 2), (0, u "java/lang/Integer"), (16, u "digits"), (0, u "[C"), (33, u "(I)I"), (19, u "stringSize"), (2, u "getChars"), (0, u "(II[B)I"), (4, .fieldref 1 84), (0, .nameAndType 85 86), (0, u "DigitOnes"), (0, u "[B"), (0, .fieldref 1 88), (0, .nameAndType 89 86), (0, u "DigitTens"), (99, .class_ 190), (0, u "java/lang/Integer$IntegerCache"), (3, u "I"), (8, .class_ 204), (0, u "java/lang/Number"), (2, u "value"), (94, u "TYPE"), (0, u "Ljava/lang/Class;"), (0, .class_ 305), (0, u "java/lang/Comparable"), (0, .class_ 307), (0, u "java/lang/constant/Constable"), (0, .class_ 309), (0, u "java/lang/constant/ConstantDesc"), (0, u "MIN_VALUE"), (1, u "MAX_VALUE"), (3, u "SIZE"), (1, u "BYTES"), (1, u "serialVersionUID"), (0, u "J")] 131

def k18c0 : Code := { maxStack := 4, maxLocals := 7, code := jdk_33_method_12_code, exceptionTable := #[], attributes := #[] }
def k18m0 : Method := { name := "getChars", desc := "(II[B)I", sig := { parameters := [.int, .int, (.array .byte)], returnType := some .int }, accessFlags := 8, code := some k18c0 }
def k18c1 : Code := { maxStack := 2, maxLocals := 4, code := jdk_33_method_13_code, exceptionTable := #[], attributes := #[] }
def k18m1 : Method := { name := "stringSize", desc := "(I)I", sig := { parameters := [.int], returnType := some .int }, accessFlags := 8, code := some k18c1 }
/-- java/lang/Integer -/
def k18 : Class := { plain "java/lang/Integer" (some 17) with
  accessFlags := 49
  interfaces := #[9, 11, 12]
  cf := some (fileOf pool18 1 #[.nestMembers #[189]] #[{ accessFlags := 8, nameIndex := 77, descriptorIndex := 78, attributes := #[] }, { accessFlags := 8, nameIndex := 74, descriptorIndex := 54, attributes := #[] }] 49 203 #[304, 306, 308] #[{ accessFlags := 25, nameIndex := 310, descriptorIndex := 194, attributes := #[] }, { accessFlags := 25, nameIndex := 312, descriptorIndex := 194, attributes := #[] }, { accessFlags := 25, nameIndex := 302, descriptorIndex := 303, attributes := #[] }, { accessFlags := 24, nameIndex := 19, descriptorIndex := 20, attributes := #[] }, { accessFlags := 24, nameIndex := 89, descriptorIndex := 86, attributes := #[] }, { accessFlags := 24, nameIndex := 85, descriptorIndex := 86, attributes := #[] }, { accessFlags := 18, nameIndex := 207, descriptorIndex := 194, attributes := #[] }, { accessFlags := 25, nameIndex := 316, descriptorIndex := 194, attributes := #[] }, { accessFlags := 25, nameIndex := 318, descriptorIndex := 194, attributes := #[] }, { accessFlags := 26, nameIndex := 320, descriptorIndex := 321, attributes := #[] }])
  fields := #[{ name := "MIN_VALUE", type := .int, accessFlags := 25, slot := 0, constantValue := 0 }, { name := "MAX_VALUE", type := .int, accessFlags := 25, slot := 1, constantValue := 0 }, { name := "TYPE", type := (.object "java/lang/Class"), accessFlags := 25, slot := 2, constantValue := 0 }, { name := "digits", type := (.array .char), accessFlags := 24, slot := 3, constantValue := 0 }, { name := "DigitTens", type := (.array .byte), accessFlags := 24, slot := 4, constantValue := 0 }, { name := "DigitOnes", type := (.array .byte), accessFlags := 24, slot := 5, constantValue := 0 }, { name := "value", type := .int, accessFlags := 18, slot := 0, constantValue := 0 }, { name := "SIZE", type := .int, accessFlags := 25, slot := 6, constantValue := 0 }, { name := "BYTES", type := .int, accessFlags := 25, slot := 7, constantValue := 0 }, { name := "serialVersionUID", type := .long, accessFlags := 26, slot := 8, constantValue := 0 }]
  methods := #[k18m0, k18m1]
  instanceTypes := #[.int]
  staticTypes := #[.int, .int, (.object "java/lang/Class"), (.array .char), (.array .byte), (.array .byte), .int, .int, .long]
  resolved := Array.replicate 453 none
  statics := some 1 }

def pool19 : Array CpInfo := pool [(6, .class_ 8), (1, u "java/lang/Object"), (0, u "<init>"), (0, u "()V"), (1, .class_ 14), (1, u "java/lang/StringUTF16"), (31, u "$assertionsDisabled"), (0, u "Z"), (13, u "HI_BYTE_SHIFT"), (0, u "I"), (2, u "LO_BYTE_SHIFT"), (49, .methodref 12 116), (0, .nameAndType 117 118), (0, u "compress"), (0, u "([CI[BII)I"), (3, u "([CII)[B"), (138, u "coderFromArrayLen"), (0, u "([BI)B"), (106, .class_ 371), (1, u "java/lang/StringUTF16$LinesSpliterator"), (58, u "MAX_LENGTH"), (196, .class_ 628), (0, u "java/lang/StringUTF16$CodePointsSpliterator"), (0, .class_ 630), (0, u "java/lang/StringUTF16$CharsSpliterator")] 4

def k19m0 : Method := { name := "<init>", desc := "()V", sig := { parameters := [], returnType := none }, accessFlags := 0, code := none }
def k19c1 : Code := { maxStack := 2, maxLocals := 2, code := jdk_52_method_15_code, exceptionTable := #[], attributes := #[] }
def k19m1 : Method := { name := "coderFromArrayLen", desc := "([BI)B", sig := { parameters := [(.array .byte), .int], returnType := some .byte }, accessFlags := 8, code := some k19c1 }
def k19c2 : Code := { maxStack := 5, maxLocals := 6, code := jdk_52_method_16_code, exceptionTable := #[], attributes := #[] }
def k19m2 : Method := { name := "compress", desc := "([CII)[B", sig := { parameters := [(.array .char), .int, .int], returnType := some (.array .byte) }, accessFlags := 9, code := some k19c2 }
def k19c3 : Code := { maxStack := 3, maxLocals := 7, code := jdk_52_method_21_code, exceptionTable := #[], attributes := #[] }
def k19m3 : Method := { name := "compress", desc := "([CI[BII)I", sig := { parameters := [(.array .char), .int, (.array .byte), .int, .int], returnType := some .int }, accessFlags := 9, code := some k19c3 }
/-- java/lang/StringUTF16 -/
def k19 : Class := { plain "java/lang/StringUTF16" (some 0) with
  accessFlags := 48
  interfaces := #[]
  cf := some (fileOf pool19 12 #[.nestMembers #[627, 629, 369]] #[{ accessFlags := 0, nameIndex := 9, descriptorIndex := 10, attributes := #[] }, { accessFlags := 8, nameIndex := 261, descriptorIndex := 262, attributes := #[] }, { accessFlags := 9, nameIndex := 117, descriptorIndex := 122, attributes := #[] }, { accessFlags := 9, nameIndex := 117, descriptorIndex := 118, attributes := #[] }] 48 6 #[] #[{ accessFlags := 26, nameIndex := 61, descriptorIndex := 62, attributes := #[] }, { accessFlags := 26, nameIndex := 65, descriptorIndex := 62, attributes := #[] }, { accessFlags := 24, nameIndex := 430, descriptorIndex := 62, attributes := #[] }, { accessFlags := 4120, nameIndex := 46, descriptorIndex := 47, attributes := #[] }])
  fields := #[{ name := "HI_BYTE_SHIFT", type := .int, accessFlags := 26, slot := 0, constantValue := 0 }, { name := "LO_BYTE_SHIFT", type := .int, accessFlags := 26, slot := 1, constantValue := 0 }, { name := "MAX_LENGTH", type := .int, accessFlags := 24, slot := 2, constantValue := 0 }, { name := "$assertionsDisabled", type := .boolean, accessFlags := 4120, slot := 3, constantValue := 0 }]
  methods := #[k19m0, k19m1, k19m2, k19m3]
  instanceTypes := #[]
  staticTypes := #[.int, .int, .int, .boolean]
  resolved := Array.replicate 635 none
  statics := none }

def pool20 : Array CpInfo := pool [(4, .class_ 6), (1, u "java/lang/Object"), (0, u "<init>"), (0, u "()V"), (5, .class_ 16), (1, u "java/lang/StringLatin1"), (104, u "$assertionsDisabled"), (0, u "Z"), (98, .class_ 223), (1, u "java/lang/StringLatin1$LinesSpliterator"), (57, u "equals"), (0, u "([B[B)Z"), (107, .class_ 391), (0, u "java/lang/StringLatin1$CharsSpliterator")] 3

def k20m0 : Method := { name := "<init>", desc := "()V", sig := { parameters := [], returnType := none }, accessFlags := 0, code := none }
def k20c1 : Code := { maxStack := 3, maxLocals := 3, code := jdk_43_method_13_code, exceptionTable := #[], attributes := #[] }
def k20m1 : Method := { name := "equals", desc := "([B[B)Z", sig := { parameters := [(.array .byte), (.array .byte)], returnType := some .boolean }, accessFlags := 9, code := some k20c1 }
/-- java/lang/StringLatin1 -/
def k20 : Class := { plain "java/lang/StringLatin1" (some 0) with
  accessFlags := 48
  interfaces := #[]
  cf := some (fileOf pool20 14 #[.nestMembers #[390, 221]] #[{ accessFlags := 0, nameIndex := 7, descriptorIndex := 8, attributes := #[] }, { accessFlags := 9, nameIndex := 281, descriptorIndex := 282, attributes := #[] }] 48 4 #[] #[{ accessFlags := 4120, nameIndex := 121, descriptorIndex := 122, attributes := #[] }])
  fields := #[{ name := "$assertionsDisabled", type := .boolean, accessFlags := 4120, slot := 0, constantValue := 0 }]
  methods := #[k20m0, k20m1]
  instanceTypes := #[]
  staticTypes := #[.boolean]
  resolved := Array.replicate 395 none
  statics := none }

def pool21 : Array CpInfo := pool [(1, .class_ 2), (0, u "java/lang/Cloneable"), (0, .class_ 4), (0, u "java/lang/Object")] 2

/-- java/lang/Cloneable -/
def k21 : Class := { plain "java/lang/Cloneable" (some 0) with
  accessFlags := 1537
  interfaces := #[]
  cf := some (fileOf pool21 1 #[] #[] 1537 3 #[] #[])
  fields := #[]
  methods := #[]
  instanceTypes := #[]
  staticTypes := #[]
  resolved := Array.replicate 7 none
  statics := none }

def pool22 : Array CpInfo := pool [(2, .class_ 4), (1, u "java/lang/Object"), (0, u "<init>"), (0, u "()V"), (17, .class_ 26), (1, u "jdk/internal/util/Preconditions"), (28, .class_ 56), (0, u "jdk/internal/util/Preconditions$4"), (57, .class_ 115), (0, u "jdk/internal/util/Preconditions$1"), (7, u "SIOOBE_FORMATTER"), (0, u "Ljava/util/function/BiFunction;"), (0, .class_ 126), (0, u "jdk/internal/util/Preconditions$2"), (3, u "AIOOBE_FORMATTER"), (0, .class_ 132), (0, u "jdk/internal/util/Preconditions$3"), (3, u "IOOBE_FORMATTER")] 57

def k22m0 : Method := { name := "<init>", desc := "()V", sig := { parameters := [], returnType := none }, accessFlags := 1, code := none }
/-- jdk/internal/util/Preconditions -/
def k22 : Class := { plain "jdk/internal/util/Preconditions" (some 0) with
  accessFlags := 33
  interfaces := #[]
  cf := some (fileOf pool22 24 #[.nestMembers #[55, 131, 125, 114]] #[{ accessFlags := 1, nameIndex := 5, descriptorIndex := 6, attributes := #[] }] 33 2 #[] #[{ accessFlags := 25, nameIndex := 123, descriptorIndex := 124, attributes := #[] }, { accessFlags := 25, nameIndex := 130, descriptorIndex := 124, attributes := #[] }, { accessFlags := 25, nameIndex := 136, descriptorIndex := 124, attributes := #[] }])
  fields := #[{ name := "SIOOBE_FORMATTER", type := (.object "java/util/function/BiFunction"), accessFlags := 25, slot := 0, constantValue := 0 }, { name := "AIOOBE_FORMATTER", type := (.object "java/util/function/BiFunction"), accessFlags := 25, slot := 1, constantValue := 0 }, { name := "IOOBE_FORMATTER", type := (.object "java/util/function/BiFunction"), accessFlags := 25, slot := 2, constantValue := 0 }]
  methods := #[k22m0]
  instanceTypes := #[]
  staticTypes := #[(.object "java/util/function/BiFunction"), (.object "java/util/function/BiFunction"), (.object "java/util/function/BiFunction")]
  resolved := Array.replicate 194 none
  statics := some 2 }

/-- the primitive byte -/
def k23 : Class := { plain "byte" none with kind := .primitive 'B', accessFlags := 0x411 }
/-- [B -/
def k24 : Class := { plain "[B" (some 0) with kind := .array 23 .byte, interfaces := #[21, 8], accessFlags := 1041 }

/-- the primitive char -/
def k25 : Class := { plain "char" none with kind := .primitive 'C', accessFlags := 0x411 }
/-- [C -/
def k26 : Class := { plain "[C" (some 0) with kind := .array 25 .char, interfaces := #[21, 8], accessFlags := 1041 }

/-- the primitive int -/
def k27 : Class := { plain "int" none with kind := .primitive 'I', accessFlags := 0x411 }
/-- [I -/
def k28 : Class := { plain "[I" (some 0) with kind := .array 27 .int, interfaces := #[21, 8], accessFlags := 1041 }

def heap : Heap := #[{ cls := 13, slots := #[.long 0, .int 1, .null, .int 0, .null, .int 0, .int 0], vm := .statics 13 },
  { cls := 18, slots := #[.int 0, .int 0, .null, .null, .ref 4, .ref 3, .int 0, .int 0, .long 0], vm := .statics 18 },
  { cls := 22, slots := #[.null, .null, .null], vm := .statics 22 },
  { cls := 24, slots := #[.int 48, .int 49, .int 50, .int 51, .int 52, .int 53, .int 54, .int 55, .int 56, .int 57, .int 48, .int 49, .int 50, .int 51, .int 52, .int 53, .int 54, .int 55, .int 56, .int 57, .int 48, .int 49, .int 50, .int 51, .int 52, .int 53, .int 54, .int 55, .int 56, .int 57, .int 48, .int 49, .int 50, .int 51, .int 52, .int 53, .int 54, .int 55, .int 56, .int 57, .int 48, .int 49, .int 50, .int 51, .int 52, .int 53, .int 54, .int 55, .int 56, .int 57, .int 48, .int 49, .int 50, .int 51, .int 52, .int 53, .int 54, .int 55, .int 56, .int 57, .int 48, .int 49, .int 50, .int 51, .int 52, .int 53, .int 54, .int 55, .int 56, .int 57, .int 48, .int 49, .int 50, .int 51, .int 52, .int 53, .int 54, .int 55, .int 56, .int 57, .int 48, .int 49, .int 50, .int 51, .int 52, .int 53, .int 54, .int 55, .int 56, .int 57, .int 48, .int 49, .int 50, .int 51, .int 52, .int 53, .int 54, .int 55, .int 56, .int 57], vm := .none },
  { cls := 24, slots := #[.int 48, .int 48, .int 48, .int 48, .int 48, .int 48, .int 48, .int 48, .int 48, .int 48, .int 49, .int 49, .int 49, .int 49, .int 49, .int 49, .int 49, .int 49, .int 49, .int 49, .int 50, .int 50, .int 50, .int 50, .int 50, .int 50, .int 50, .int 50, .int 50, .int 50, .int 51, .int 51, .int 51, .int 51, .int 51, .int 51, .int 51, .int 51, .int 51, .int 51, .int 52, .int 52, .int 52, .int 52, .int 52, .int 52, .int 52, .int 52, .int 52, .int 52, .int 53, .int 53, .int 53, .int 53, .int 53, .int 53, .int 53, .int 53, .int 53, .int 53, .int 54, .int 54, .int 54, .int 54, .int 54, .int 54, .int 54, .int 54, .int 54, .int 54, .int 55, .int 55, .int 55, .int 55, .int 55, .int 55, .int 55, .int 55, .int 55, .int 55, .int 56, .int 56, .int 56, .int 56, .int 56, .int 56, .int 56, .int 56, .int 56, .int 56, .int 57, .int 57, .int 57, .int 57, .int 57, .int 57, .int 57, .int 57, .int 57, .int 57], vm := .none }]
def classes : Array Class := #[k0, k1, k2, k3, k4, k5, k6, k7, k8, k9, k10, k11, k12, k13, k14, k15, k16, k17, k18, k19, k20, k21, k22, k23, k24, k25, k26, k27, k28]
def interned : List (Array UInt16 × Addr) := []
def slotsUsed : Nat := 219
def theMethod : MethodId := ⟨1, 2⟩
def args0 : Array Value := #[.int 5, .int 7, .int 1]
def aboutOver (below : List Frame) : State where
  vm := { classes := classes, interned := interned.toArray }
  heap := heap
  slotsUsed := slotsUsed
  threads := #[{ frames := .invoking theMethod args0 :: below }]
def below0 : List Frame := [.native { method := ⟨0, 0⟩, args := #[] }]
def about1 : State := aboutOver below0
def p0 : Program := .bare "" "" ""
def e0 : Env := launch0.env 0 0 0
theorem w_frames : about1.frames = Frame.invoking theMethod args0 :: below0 := rfl
set_option maxRecDepth 65536 in
theorem w_args : argsFit about1.vm theMethod args0 = true := by decide +kernel
set_option maxRecDepth 65536 in
theorem w_heap : heapFits about1 = true := by decide +kernel
set_option maxRecDepth 65536 in
theorem w_runnable : about1.curStatus? = some .runnable := by decide +kernel
set_option maxRecDepth 65536 in
theorem w_alone : about1.alone = true := by decide +kernel
set_option maxRecDepth 65536 in
theorem w_named : about1.methodNamed? x = some theMethod := by decide +kernel
set_option maxRecDepth 65536 in
theorem w_hears : about1.hears theMethod below0 = true := by decide +kernel
set_option maxRecDepth 65536 in
theorem w_ripe : about1.ripe theMethod args0 below0 = true := by decide +kernel
theorem w_running : about1.status = .running := rfl
set_option maxRecDepth 65536 in
theorem w_room : about1.hasRoom e0.platform room_1 = true :=
  launch0.hasRoom_least _ room_1 (by decide +kernel) (by decide +kernel) (by decide +kernel) (by decide +kernel) (by decide +kernel) (by decide +kernel)
theorem allAtoms_all (ts : List Jvm.Cond) (a : Array Jvm.Value) (st : Jvm.State) : (allAtoms ts).before a st = ts.all (fun c => c.before a st) := by
  induction ts with
  | nil => rfl
  | cons c t ih =>
    show (Jvm.Cond.and c (allAtoms t)).before a st = _
    rw [Jvm.Cond.before_and, ih, List.all_cons]
def words1 : List Jvm.Cond := Jvm.Cond.code x code maxLocals ret :: tables_1
/-- a 'code' word, met by the world's own term for the bytes: nothing is compared byte by byte -/
theorem code_word {y : MethodName} {bytes : ByteArray} {mx : Nat} {rt : Option FieldType} {a : Array Value} {s : State} {m : MethodId} {meth : Method} {c : Code} (h1 : s.methodNamed? y = some m) (h2 : s.vm.method? m = some meth) (h3 : meth.code = some c) (h4 : c.code = bytes)
    (h5 : (c.maxLocals == mx && c.exceptionTable.isEmpty && decide (c.maxStack ≤ mostOperands) && decide (meth.sig.returnType = rt) && !meth.locks && decide (parseMethodDescriptor y.desc = some meth.sig)) = true) : (Jvm.Cond.code y bytes mx rt).before a s = true := by
  simp only [Bool.and_eq_true, beq_iff_eq, Bool.not_eq_true', decide_eq_true_eq] at h5
  obtain ⟨⟨⟨⟨⟨g1, g2⟩, g3⟩, g4⟩, g5⟩, g6⟩ := h5
  simp [Cond.before, Cond.holds, Cond.value, h1, h2, h3, h4, g1, g2, g3, g4, g5, g6]
def isCode : Jvm.Cond → Bool
  | .code _ _ _ _ => true
  | _ => false
theorem all_split {L : List Jvm.Cond} {P : Jvm.Cond → Bool} (h1 : L.all (fun c => isCode c || P c) = true) (h2 : ∀ c ∈ L.filter isCode, P c = true) : L.all P = true := by
  refine List.all_eq_true.mpr fun c hc => ?_
  have h := List.all_eq_true.mp h1 c hc
  rcases Bool.eq_false_or_eq_true (isCode c) with hi | hi
  · exact h2 c (List.mem_filter.mpr ⟨hc, hi⟩)
  · simpa [hi] using h
set_option maxRecDepth 65536 in
theorem w_c0 : (Jvm.Cond.code x code maxLocals ret).before args0 about1 = true := code_word (m := ⟨1, 2⟩) (meth := k1m2) (c := k1c2) (by decide +kernel) rfl rfl rfl (by decide +kernel)
set_option maxRecDepth 65536 in
theorem w_c1 : (Jvm.Cond.code ({ cls := "java/lang/Math", name := "min", desc := "(II)I" } : Jvm.MethodName) jdk_29_method_69_code (2 : Nat) (Option.some Jvm.ClassFile.FieldType.int)).before args0 about1 = true := code_word (m := ⟨2, 2⟩) (meth := k2m2) (c := k2c2) (by decide +kernel) rfl rfl rfl (by decide +kernel)
set_option maxRecDepth 65536 in
theorem w_c2 : (Jvm.Cond.code ({ cls := "java/lang/Math", name := "max", desc := "(II)I" } : Jvm.MethodName) jdk_29_method_65_code (2 : Nat) (Option.some Jvm.ClassFile.FieldType.int)).before args0 about1 = true := code_word (m := ⟨2, 1⟩) (meth := k2m1) (c := k2c1) (by decide +kernel) rfl rfl rfl (by decide +kernel)
set_option maxRecDepth 65536 in
theorem w_c3 : (Jvm.Cond.code ({ cls := "com/example/tally_of_calls/tallyofcalls/Counts", name := "between", desc := "(II)Lcom/example/tally_of_calls/tallyofcalls/Count;" } : Jvm.MethodName) prog_5_method_6_code (3 : Nat) (Option.some (Jvm.ClassFile.FieldType.object "com/example/tally_of_calls/tallyofcalls/Count"))).before args0 about1 = true := code_word (m := ⟨3, 1⟩) (meth := k3m1) (c := k3c1) (by decide +kernel) rfl rfl rfl (by decide +kernel)
set_option maxRecDepth 65536 in
theorem w_c4 : (Jvm.Cond.code ({ cls := "java/lang/StringBuilder", name := "<init>", desc := "()V" } : Jvm.MethodName) jdk_67_method_1_code (1 : Nat) (Option.none : Option Jvm.ClassFile.FieldType)).before args0 about1 = true := code_word (m := ⟨10, 0⟩) (meth := k10m0) (c := k10c0) (by decide +kernel) rfl rfl rfl (by decide +kernel)
set_option maxRecDepth 65536 in
theorem w_c5 : (Jvm.Cond.code ({ cls := "java/lang/AbstractStringBuilder", name := "<init>", desc := "(I)V" } : Jvm.MethodName) jdk_68_method_2_code (2 : Nat) (Option.none : Option Jvm.ClassFile.FieldType)).before args0 about1 = true := code_word (m := ⟨7, 1⟩) (meth := k7m1) (c := k7c1) (by decide +kernel) rfl rfl rfl (by decide +kernel)
set_option maxRecDepth 65536 in
theorem w_c6 : (Jvm.Cond.code ({ cls := "java/lang/Object", name := "<init>", desc := "()V" } : Jvm.MethodName) object_method_1_code (1 : Nat) (Option.none : Option Jvm.ClassFile.FieldType)).before args0 about1 = true := code_word (m := ⟨0, 0⟩) (meth := k0m0) (c := k0c0) (by decide +kernel) rfl rfl rfl (by decide +kernel)
set_option maxRecDepth 65536 in
theorem w_c7 : (Jvm.Cond.code ({ cls := "java/lang/StringBuilder", name := "append", desc := "(Ljava/lang/String;)Ljava/lang/StringBuilder;" } : Jvm.MethodName) jdk_67_method_7_code (2 : Nat) (Option.some (Jvm.ClassFile.FieldType.object "java/lang/StringBuilder"))).before args0 about1 = true := code_word (m := ⟨10, 1⟩) (meth := k10m1) (c := k10c1) (by decide +kernel) rfl rfl rfl (by decide +kernel)
set_option maxRecDepth 65536 in
theorem w_c8 : (Jvm.Cond.code ({ cls := "java/lang/AbstractStringBuilder", name := "append", desc := "(Ljava/lang/String;)Ljava/lang/AbstractStringBuilder;" } : Jvm.MethodName) jdk_68_method_22_code (3 : Nat) (Option.some (Jvm.ClassFile.FieldType.object "java/lang/AbstractStringBuilder"))).before args0 about1 = true := code_word (m := ⟨7, 5⟩) (meth := k7m5) (c := k7c5) (by decide +kernel) rfl rfl rfl (by decide +kernel)
set_option maxRecDepth 65536 in
theorem w_c9 : (Jvm.Cond.code ({ cls := "java/lang/String", name := "length", desc := "()I" } : Jvm.MethodName) jdk_42_method_54_code (1 : Nat) (Option.some Jvm.ClassFile.FieldType.int)).before args0 about1 = true := code_word (m := ⟨13, 3⟩) (meth := k13m3) (c := k13c3) (by decide +kernel) rfl rfl rfl (by decide +kernel)
set_option maxRecDepth 65536 in
theorem w_c10 : (Jvm.Cond.code ({ cls := "java/lang/String", name := "coder", desc := "()B" } : Jvm.MethodName) jdk_42_method_152_code (1 : Nat) (Option.some Jvm.ClassFile.FieldType.byte)).before args0 about1 = true := code_word (m := ⟨13, 8⟩) (meth := k13m8) (c := k13c8) (by decide +kernel) rfl rfl rfl (by decide +kernel)
set_option maxRecDepth 65536 in
theorem w_c11 : (Jvm.Cond.code ({ cls := "java/lang/AbstractStringBuilder", name := "ensureCapacityInternal", desc := "(I)V" } : Jvm.MethodName) jdk_68_method_9_code (3 : Nat) (Option.none : Option Jvm.ClassFile.FieldType)).before args0 about1 = true := code_word (m := ⟨7, 3⟩) (meth := k7m3) (c := k7c3) (by decide +kernel) rfl rfl rfl (by decide +kernel)
set_option maxRecDepth 65536 in
theorem w_c12 : (Jvm.Cond.code ({ cls := "java/lang/AbstractStringBuilder", name := "newCapacity", desc := "(I)I" } : Jvm.MethodName) jdk_68_method_10_code (6 : Nat) (Option.some Jvm.ClassFile.FieldType.int)).before args0 about1 = true := code_word (m := ⟨7, 4⟩) (meth := k7m4) (c := k7c4) (by decide +kernel) rfl rfl rfl (by decide +kernel)
set_option maxRecDepth 65536 in
theorem w_c13 : (Jvm.Cond.code ({ cls := "jdk/internal/util/ArraysSupport", name := "newLength", desc := "(III)I" } : Jvm.MethodName) jdk_48_method_27_code (4 : Nat) (Option.some Jvm.ClassFile.FieldType.int)).before args0 about1 = true := code_word (m := ⟨14, 1⟩) (meth := k14m1) (c := k14c1) (by decide +kernel) rfl rfl rfl (by decide +kernel)
set_option maxRecDepth 65536 in
theorem w_c14 : (Jvm.Cond.code ({ cls := "java/util/Arrays", name := "copyOf", desc := "([BI)[B" } : Jvm.MethodName) jdk_65_method_121_code (3 : Nat) (Option.some (Jvm.ClassFile.FieldType.array Jvm.ClassFile.FieldType.byte))).before args0 about1 = true := code_word (m := ⟨15, 1⟩) (meth := k15m1) (c := k15c1) (by decide +kernel) rfl rfl rfl (by decide +kernel)
set_option maxRecDepth 65536 in
theorem w_c15 : (Jvm.Cond.code ({ cls := "java/lang/AbstractStringBuilder", name := "putStringAt", desc := "(ILjava/lang/String;)V" } : Jvm.MethodName) jdk_68_method_73_code (3 : Nat) (Option.none : Option Jvm.ClassFile.FieldType)).before args0 about1 = true := code_word (m := ⟨7, 10⟩) (meth := k7m10) (c := k7c10) (by decide +kernel) rfl rfl rfl (by decide +kernel)
set_option maxRecDepth 65536 in
theorem w_c16 : (Jvm.Cond.code ({ cls := "java/lang/AbstractStringBuilder", name := "inflateIfNeededFor", desc := "(Ljava/lang/String;)V" } : Jvm.MethodName) jdk_68_method_71_code (2 : Nat) (Option.none : Option Jvm.ClassFile.FieldType)).before args0 about1 = true := code_word (m := ⟨7, 9⟩) (meth := k7m9) (c := k7c9) (by decide +kernel) rfl rfl rfl (by decide +kernel)
set_option maxRecDepth 65536 in
theorem w_c17 : (Jvm.Cond.code ({ cls := "java/lang/String", name := "getBytes", desc := "([BIB)V" } : Jvm.MethodName) jdk_42_method_147_code (4 : Nat) (Option.none : Option Jvm.ClassFile.FieldType)).before args0 about1 = true := code_word (m := ⟨13, 5⟩) (meth := k13m5) (c := k13c5) (by decide +kernel) rfl rfl rfl (by decide +kernel)
set_option maxRecDepth 65536 in
theorem w_c18 : (Jvm.Cond.code ({ cls := "java/lang/StringBuilder", name := "append", desc := "(I)Ljava/lang/StringBuilder;" } : Jvm.MethodName) jdk_67_method_15_code (2 : Nat) (Option.some (Jvm.ClassFile.FieldType.object "java/lang/StringBuilder"))).before args0 about1 = true := code_word (m := ⟨10, 2⟩) (meth := k10m2) (c := k10c2) (by decide +kernel) rfl rfl rfl (by decide +kernel)
set_option maxRecDepth 65536 in
theorem w_c19 : (Jvm.Cond.code ({ cls := "java/lang/AbstractStringBuilder", name := "append", desc := "(I)Ljava/lang/AbstractStringBuilder;" } : Jvm.MethodName) jdk_68_method_32_code (4 : Nat) (Option.some (Jvm.ClassFile.FieldType.object "java/lang/AbstractStringBuilder"))).before args0 about1 = true := code_word (m := ⟨7, 6⟩) (meth := k7m6) (c := k7c6) (by decide +kernel) rfl rfl rfl (by decide +kernel)
set_option maxRecDepth 65536 in
theorem w_c20 : (Jvm.Cond.code ({ cls := "java/lang/Integer", name := "stringSize", desc := "(I)I" } : Jvm.MethodName) jdk_33_method_13_code (4 : Nat) (Option.some Jvm.ClassFile.FieldType.int)).before args0 about1 = true := code_word (m := ⟨18, 1⟩) (meth := k18m1) (c := k18c1) (by decide +kernel) rfl rfl rfl (by decide +kernel)
set_option maxRecDepth 65536 in
theorem w_c21 : (Jvm.Cond.code ({ cls := "java/lang/AbstractStringBuilder", name := "isLatin1", desc := "()Z" } : Jvm.MethodName) jdk_68_method_68_code (1 : Nat) (Option.some Jvm.ClassFile.FieldType.boolean)).before args0 about1 = true := code_word (m := ⟨7, 8⟩) (meth := k7m8) (c := k7c8) (by decide +kernel) rfl rfl rfl (by decide +kernel)
set_option maxRecDepth 65536 in
theorem w_c22 : (Jvm.Cond.code ({ cls := "java/lang/Integer", name := "getChars", desc := "(II[B)I" } : Jvm.MethodName) jdk_33_method_12_code (7 : Nat) (Option.some Jvm.ClassFile.FieldType.int)).before args0 about1 = true := code_word (m := ⟨18, 0⟩) (meth := k18m0) (c := k18c0) (by decide +kernel) rfl rfl rfl (by decide +kernel)
set_option maxRecDepth 65536 in
theorem w_c23 : (Jvm.Cond.code ({ cls := "java/lang/StringBuilder", name := "toString", desc := "()Ljava/lang/String;" } : Jvm.MethodName) jdk_67_method_42_code (1 : Nat) (Option.some (Jvm.ClassFile.FieldType.object "java/lang/String"))).before args0 about1 = true := code_word (m := ⟨10, 3⟩) (meth := k10m3) (c := k10c3) (by decide +kernel) rfl rfl rfl (by decide +kernel)
set_option maxRecDepth 65536 in
theorem w_c24 : (Jvm.Cond.code ({ cls := "java/lang/String", name := "<init>", desc := "(Ljava/lang/StringBuilder;)V" } : Jvm.MethodName) jdk_42_method_53_code (2 : Nat) (Option.none : Option Jvm.ClassFile.FieldType)).before args0 about1 = true := code_word (m := ⟨13, 2⟩) (meth := k13m2) (c := k13c2) (by decide +kernel) rfl rfl rfl (by decide +kernel)
set_option maxRecDepth 65536 in
theorem w_c25 : (Jvm.Cond.code ({ cls := "java/lang/String", name := "<init>", desc := "(Ljava/lang/AbstractStringBuilder;Ljava/lang/Void;)V" } : Jvm.MethodName) jdk_42_method_150_code (5 : Nat) (Option.none : Option Jvm.ClassFile.FieldType)).before args0 about1 = true := code_word (m := ⟨13, 7⟩) (meth := k13m7) (c := k13c7) (by decide +kernel) rfl rfl rfl (by decide +kernel)
set_option maxRecDepth 65536 in
theorem w_c26 : (Jvm.Cond.code ({ cls := "java/lang/AbstractStringBuilder", name := "getValue", desc := "()[B" } : Jvm.MethodName) jdk_68_method_64_code (1 : Nat) (Option.some (Jvm.ClassFile.FieldType.array Jvm.ClassFile.FieldType.byte))).before args0 about1 = true := code_word (m := ⟨7, 7⟩) (meth := k7m7) (c := k7c7) (by decide +kernel) rfl rfl rfl (by decide +kernel)
set_option maxRecDepth 65536 in
theorem w_c27 : (Jvm.Cond.code ({ cls := "java/lang/StringBuilder", name := "length", desc := "()I" } : Jvm.MethodName) jdk_67_method_93_code (1 : Nat) (Option.some Jvm.ClassFile.FieldType.int)).before args0 about1 = true := code_word (m := ⟨10, 4⟩) (meth := k10m4) (c := k10c4) (by decide +kernel) rfl rfl rfl (by decide +kernel)
set_option maxRecDepth 65536 in
theorem w_c28 : (Jvm.Cond.code ({ cls := "java/lang/AbstractStringBuilder", name := "length", desc := "()I" } : Jvm.MethodName) jdk_68_method_6_code (1 : Nat) (Option.some Jvm.ClassFile.FieldType.int)).before args0 about1 = true := code_word (m := ⟨7, 2⟩) (meth := k7m2) (c := k7c2) (by decide +kernel) rfl rfl rfl (by decide +kernel)
set_option maxRecDepth 65536 in
theorem w_c29 : (Jvm.Cond.code ({ cls := "java/util/Arrays", name := "copyOfRange", desc := "([BII)[B" } : Jvm.MethodName) jdk_65_method_132_code (3 : Nat) (Option.some (Jvm.ClassFile.FieldType.array Jvm.ClassFile.FieldType.byte))).before args0 about1 = true := code_word (m := ⟨15, 3⟩) (meth := k15m3) (c := k15c3) (by decide +kernel) rfl rfl rfl (by decide +kernel)
set_option maxRecDepth 65536 in
theorem w_c30 : (Jvm.Cond.code ({ cls := "java/util/Arrays", name := "copyOfRangeByte", desc := "([BII)[B" } : Jvm.MethodName) jdk_65_method_133_code (5 : Nat) (Option.some (Jvm.ClassFile.FieldType.array Jvm.ClassFile.FieldType.byte))).before args0 about1 = true := code_word (m := ⟨15, 4⟩) (meth := k15m4) (c := k15c4) (by decide +kernel) rfl rfl rfl (by decide +kernel)
set_option maxRecDepth 65536 in
theorem w_c31 : (Jvm.Cond.code ({ cls := "java/util/Arrays", name := "checkLength", desc := "(II)V" } : Jvm.MethodName) jdk_65_method_131_code (2 : Nat) (Option.none : Option Jvm.ClassFile.FieldType)).before args0 about1 = true := code_word (m := ⟨15, 2⟩) (meth := k15m2) (c := k15c2) (by decide +kernel) rfl rfl rfl (by decide +kernel)
set_option maxRecDepth 65536 in
theorem w_c32 : (Jvm.Cond.code ({ cls := "com/example/tally_of_calls/tallyofcalls/Count", name := "<init>", desc := "(IJLjava/lang/String;)V" } : Jvm.MethodName) prog_4_method_1_code (5 : Nat) (Option.none : Option Jvm.ClassFile.FieldType)).before args0 about1 = true := code_word (m := ⟨4, 0⟩) (meth := k4m0) (c := k4c0) (by decide +kernel) rfl rfl rfl (by decide +kernel)
set_option maxRecDepth 65536 in
theorem w_c33 : (Jvm.Cond.code ({ cls := "com/example/tally_of_calls/tallyofcalls/Count", name := "min", desc := "()I" } : Jvm.MethodName) prog_4_method_2_code (1 : Nat) (Option.some Jvm.ClassFile.FieldType.int)).before args0 about1 = true := code_word (m := ⟨4, 1⟩) (meth := k4m1) (c := k4c1) (by decide +kernel) rfl rfl rfl (by decide +kernel)
set_option maxRecDepth 65536 in
theorem w_c34 : (Jvm.Cond.code ({ cls := "com/example/tally_of_calls/tallyofcalls/Count", name := "max", desc := "()J" } : Jvm.MethodName) prog_4_method_3_code (1 : Nat) (Option.some Jvm.ClassFile.FieldType.long)).before args0 about1 = true := code_word (m := ⟨4, 2⟩) (meth := k4m2) (c := k4c2) (by decide +kernel) rfl rfl rfl (by decide +kernel)
set_option maxRecDepth 65536 in
theorem w_c35 : (Jvm.Cond.code ({ cls := "com/example/tally_of_calls/tallyofcalls/Count", name := "phrase", desc := "()Ljava/lang/String;" } : Jvm.MethodName) prog_4_method_4_code (1 : Nat) (Option.some (Jvm.ClassFile.FieldType.object "java/lang/String"))).before args0 about1 = true := code_word (m := ⟨4, 3⟩) (meth := k4m3) (c := k4c3) (by decide +kernel) rfl rfl rfl (by decide +kernel)
set_option maxRecDepth 65536 in
theorem w_c36 : (Jvm.Cond.code ({ cls := "com/example/tally_of_calls/tallyofcalls/CountsBetweenPinLaw", name := "digits", desc := "(I)I" } : Jvm.MethodName) method_2_code (1 : Nat) (Option.some Jvm.ClassFile.FieldType.int)).before args0 about1 = true := code_word (m := ⟨1, 1⟩) (meth := k1m1) (c := k1c1) (by decide +kernel) rfl rfl rfl (by decide +kernel)
set_option maxRecDepth 65536 in
theorem w_c37 : (Jvm.Cond.code ({ cls := "java/lang/String", name := "<init>", desc := "([C)V" } : Jvm.MethodName) jdk_42_method_3_code (2 : Nat) (Option.none : Option Jvm.ClassFile.FieldType)).before args0 about1 = true := code_word (m := ⟨13, 1⟩) (meth := k13m1) (c := k13c1) (by decide +kernel) rfl rfl rfl (by decide +kernel)
set_option maxRecDepth 65536 in
theorem w_c38 : (Jvm.Cond.code ({ cls := "java/lang/String", name := "<init>", desc := "([CIILjava/lang/Void;)V" } : Jvm.MethodName) jdk_42_method_149_code (6 : Nat) (Option.none : Option Jvm.ClassFile.FieldType)).before args0 about1 = true := code_word (m := ⟨13, 6⟩) (meth := k13m6) (c := k13c6) (by decide +kernel) rfl rfl rfl (by decide +kernel)
set_option maxRecDepth 65536 in
theorem w_c39 : (Jvm.Cond.code ({ cls := "java/lang/StringUTF16", name := "compress", desc := "([CII)[B" } : Jvm.MethodName) jdk_52_method_16_code (6 : Nat) (Option.some (Jvm.ClassFile.FieldType.array Jvm.ClassFile.FieldType.byte))).before args0 about1 = true := code_word (m := ⟨19, 2⟩) (meth := k19m2) (c := k19c2) (by decide +kernel) rfl rfl rfl (by decide +kernel)
set_option maxRecDepth 65536 in
theorem w_c40 : (Jvm.Cond.code ({ cls := "java/lang/StringUTF16", name := "compress", desc := "([CI[BII)I" } : Jvm.MethodName) jdk_52_method_21_code (7 : Nat) (Option.some Jvm.ClassFile.FieldType.int)).before args0 about1 = true := code_word (m := ⟨19, 3⟩) (meth := k19m3) (c := k19c3) (by decide +kernel) rfl rfl rfl (by decide +kernel)
set_option maxRecDepth 65536 in
theorem w_c41 : (Jvm.Cond.code ({ cls := "java/lang/StringUTF16", name := "coderFromArrayLen", desc := "([BI)B" } : Jvm.MethodName) jdk_52_method_15_code (2 : Nat) (Option.some Jvm.ClassFile.FieldType.byte)).before args0 about1 = true := code_word (m := ⟨19, 1⟩) (meth := k19m1) (c := k19c1) (by decide +kernel) rfl rfl rfl (by decide +kernel)
set_option maxRecDepth 65536 in
theorem w_c42 : (Jvm.Cond.code ({ cls := "java/lang/String", name := "equals", desc := "(Ljava/lang/Object;)Z" } : Jvm.MethodName) jdk_42_method_66_code (3 : Nat) (Option.some Jvm.ClassFile.FieldType.boolean)).before args0 about1 = true := code_word (m := ⟨13, 4⟩) (meth := k13m4) (c := k13c4) (by decide +kernel) rfl rfl rfl (by decide +kernel)
set_option maxRecDepth 65536 in
theorem w_c43 : (Jvm.Cond.code ({ cls := "java/lang/StringLatin1", name := "equals", desc := "([B[B)Z" } : Jvm.MethodName) jdk_43_method_13_code (3 : Nat) (Option.some Jvm.ClassFile.FieldType.boolean)).before args0 about1 = true := code_word (m := ⟨20, 1⟩) (meth := k20m1) (c := k20c1) (by decide +kernel) rfl rfl rfl (by decide +kernel)
def codes1 : List Jvm.Cond := [Jvm.Cond.code x code maxLocals ret, Jvm.Cond.code ({ cls := "java/lang/Math", name := "min", desc := "(II)I" } : Jvm.MethodName) jdk_29_method_69_code (2 : Nat) (Option.some Jvm.ClassFile.FieldType.int), Jvm.Cond.code ({ cls := "java/lang/Math", name := "max", desc := "(II)I" } : Jvm.MethodName) jdk_29_method_65_code (2 : Nat) (Option.some Jvm.ClassFile.FieldType.int), Jvm.Cond.code ({ cls := "com/example/tally_of_calls/tallyofcalls/Counts", name := "between", desc := "(II)Lcom/example/tally_of_calls/tallyofcalls/Count;" } : Jvm.MethodName) prog_5_method_6_code (3 : Nat) (Option.some (Jvm.ClassFile.FieldType.object "com/example/tally_of_calls/tallyofcalls/Count")), Jvm.Cond.code ({ cls := "java/lang/StringBuilder", name := "<init>", desc := "()V" } : Jvm.MethodName) jdk_67_method_1_code (1 : Nat) (Option.none : Option Jvm.ClassFile.FieldType), Jvm.Cond.code ({ cls := "java/lang/AbstractStringBuilder", name := "<init>", desc := "(I)V" } : Jvm.MethodName) jdk_68_method_2_code (2 : Nat) (Option.none : Option Jvm.ClassFile.FieldType), Jvm.Cond.code ({ cls := "java/lang/Object", name := "<init>", desc := "()V" } : Jvm.MethodName) object_method_1_code (1 : Nat) (Option.none : Option Jvm.ClassFile.FieldType), Jvm.Cond.code ({ cls := "java/lang/StringBuilder", name := "append", desc := "(Ljava/lang/String;)Ljava/lang/StringBuilder;" } : Jvm.MethodName) jdk_67_method_7_code (2 : Nat) (Option.some (Jvm.ClassFile.FieldType.object "java/lang/StringBuilder")), Jvm.Cond.code ({ cls := "java/lang/AbstractStringBuilder", name := "append", desc := "(Ljava/lang/String;)Ljava/lang/AbstractStringBuilder;" } : Jvm.MethodName) jdk_68_method_22_code (3 : Nat) (Option.some (Jvm.ClassFile.FieldType.object "java/lang/AbstractStringBuilder")), Jvm.Cond.code ({ cls := "java/lang/String", name := "length", desc := "()I" } : Jvm.MethodName) jdk_42_method_54_code (1 : Nat) (Option.some Jvm.ClassFile.FieldType.int), Jvm.Cond.code ({ cls := "java/lang/String", name := "coder", desc := "()B" } : Jvm.MethodName) jdk_42_method_152_code (1 : Nat) (Option.some Jvm.ClassFile.FieldType.byte), Jvm.Cond.code ({ cls := "java/lang/AbstractStringBuilder", name := "ensureCapacityInternal", desc := "(I)V" } : Jvm.MethodName) jdk_68_method_9_code (3 : Nat) (Option.none : Option Jvm.ClassFile.FieldType), Jvm.Cond.code ({ cls := "java/lang/AbstractStringBuilder", name := "newCapacity", desc := "(I)I" } : Jvm.MethodName) jdk_68_method_10_code (6 : Nat) (Option.some Jvm.ClassFile.FieldType.int), Jvm.Cond.code ({ cls := "jdk/internal/util/ArraysSupport", name := "newLength", desc := "(III)I" } : Jvm.MethodName) jdk_48_method_27_code (4 : Nat) (Option.some Jvm.ClassFile.FieldType.int), Jvm.Cond.code ({ cls := "java/util/Arrays", name := "copyOf", desc := "([BI)[B" } : Jvm.MethodName) jdk_65_method_121_code (3 : Nat) (Option.some (Jvm.ClassFile.FieldType.array Jvm.ClassFile.FieldType.byte)), Jvm.Cond.code ({ cls := "java/lang/AbstractStringBuilder", name := "putStringAt", desc := "(ILjava/lang/String;)V" } : Jvm.MethodName) jdk_68_method_73_code (3 : Nat) (Option.none : Option Jvm.ClassFile.FieldType), Jvm.Cond.code ({ cls := "java/lang/AbstractStringBuilder", name := "inflateIfNeededFor", desc := "(Ljava/lang/String;)V" } : Jvm.MethodName) jdk_68_method_71_code (2 : Nat) (Option.none : Option Jvm.ClassFile.FieldType), Jvm.Cond.code ({ cls := "java/lang/String", name := "getBytes", desc := "([BIB)V" } : Jvm.MethodName) jdk_42_method_147_code (4 : Nat) (Option.none : Option Jvm.ClassFile.FieldType), Jvm.Cond.code ({ cls := "java/lang/StringBuilder", name := "append", desc := "(I)Ljava/lang/StringBuilder;" } : Jvm.MethodName) jdk_67_method_15_code (2 : Nat) (Option.some (Jvm.ClassFile.FieldType.object "java/lang/StringBuilder")), Jvm.Cond.code ({ cls := "java/lang/AbstractStringBuilder", name := "append", desc := "(I)Ljava/lang/AbstractStringBuilder;" } : Jvm.MethodName) jdk_68_method_32_code (4 : Nat) (Option.some (Jvm.ClassFile.FieldType.object "java/lang/AbstractStringBuilder")), Jvm.Cond.code ({ cls := "java/lang/Integer", name := "stringSize", desc := "(I)I" } : Jvm.MethodName) jdk_33_method_13_code (4 : Nat) (Option.some Jvm.ClassFile.FieldType.int), Jvm.Cond.code ({ cls := "java/lang/AbstractStringBuilder", name := "isLatin1", desc := "()Z" } : Jvm.MethodName) jdk_68_method_68_code (1 : Nat) (Option.some Jvm.ClassFile.FieldType.boolean), Jvm.Cond.code ({ cls := "java/lang/Integer", name := "getChars", desc := "(II[B)I" } : Jvm.MethodName) jdk_33_method_12_code (7 : Nat) (Option.some Jvm.ClassFile.FieldType.int), Jvm.Cond.code ({ cls := "java/lang/StringBuilder", name := "toString", desc := "()Ljava/lang/String;" } : Jvm.MethodName) jdk_67_method_42_code (1 : Nat) (Option.some (Jvm.ClassFile.FieldType.object "java/lang/String")), Jvm.Cond.code ({ cls := "java/lang/String", name := "<init>", desc := "(Ljava/lang/StringBuilder;)V" } : Jvm.MethodName) jdk_42_method_53_code (2 : Nat) (Option.none : Option Jvm.ClassFile.FieldType), Jvm.Cond.code ({ cls := "java/lang/String", name := "<init>", desc := "(Ljava/lang/AbstractStringBuilder;Ljava/lang/Void;)V" } : Jvm.MethodName) jdk_42_method_150_code (5 : Nat) (Option.none : Option Jvm.ClassFile.FieldType), Jvm.Cond.code ({ cls := "java/lang/AbstractStringBuilder", name := "getValue", desc := "()[B" } : Jvm.MethodName) jdk_68_method_64_code (1 : Nat) (Option.some (Jvm.ClassFile.FieldType.array Jvm.ClassFile.FieldType.byte)), Jvm.Cond.code ({ cls := "java/lang/StringBuilder", name := "length", desc := "()I" } : Jvm.MethodName) jdk_67_method_93_code (1 : Nat) (Option.some Jvm.ClassFile.FieldType.int), Jvm.Cond.code ({ cls := "java/lang/AbstractStringBuilder", name := "length", desc := "()I" } : Jvm.MethodName) jdk_68_method_6_code (1 : Nat) (Option.some Jvm.ClassFile.FieldType.int), Jvm.Cond.code ({ cls := "java/util/Arrays", name := "copyOfRange", desc := "([BII)[B" } : Jvm.MethodName) jdk_65_method_132_code (3 : Nat) (Option.some (Jvm.ClassFile.FieldType.array Jvm.ClassFile.FieldType.byte)), Jvm.Cond.code ({ cls := "java/util/Arrays", name := "copyOfRangeByte", desc := "([BII)[B" } : Jvm.MethodName) jdk_65_method_133_code (5 : Nat) (Option.some (Jvm.ClassFile.FieldType.array Jvm.ClassFile.FieldType.byte)), Jvm.Cond.code ({ cls := "java/util/Arrays", name := "checkLength", desc := "(II)V" } : Jvm.MethodName) jdk_65_method_131_code (2 : Nat) (Option.none : Option Jvm.ClassFile.FieldType), Jvm.Cond.code ({ cls := "com/example/tally_of_calls/tallyofcalls/Count", name := "<init>", desc := "(IJLjava/lang/String;)V" } : Jvm.MethodName) prog_4_method_1_code (5 : Nat) (Option.none : Option Jvm.ClassFile.FieldType), Jvm.Cond.code ({ cls := "com/example/tally_of_calls/tallyofcalls/Count", name := "min", desc := "()I" } : Jvm.MethodName) prog_4_method_2_code (1 : Nat) (Option.some Jvm.ClassFile.FieldType.int), Jvm.Cond.code ({ cls := "com/example/tally_of_calls/tallyofcalls/Count", name := "max", desc := "()J" } : Jvm.MethodName) prog_4_method_3_code (1 : Nat) (Option.some Jvm.ClassFile.FieldType.long), Jvm.Cond.code ({ cls := "com/example/tally_of_calls/tallyofcalls/Count", name := "phrase", desc := "()Ljava/lang/String;" } : Jvm.MethodName) prog_4_method_4_code (1 : Nat) (Option.some (Jvm.ClassFile.FieldType.object "java/lang/String")), Jvm.Cond.code ({ cls := "com/example/tally_of_calls/tallyofcalls/CountsBetweenPinLaw", name := "digits", desc := "(I)I" } : Jvm.MethodName) method_2_code (1 : Nat) (Option.some Jvm.ClassFile.FieldType.int), Jvm.Cond.code ({ cls := "java/lang/String", name := "<init>", desc := "([C)V" } : Jvm.MethodName) jdk_42_method_3_code (2 : Nat) (Option.none : Option Jvm.ClassFile.FieldType), Jvm.Cond.code ({ cls := "java/lang/String", name := "<init>", desc := "([CIILjava/lang/Void;)V" } : Jvm.MethodName) jdk_42_method_149_code (6 : Nat) (Option.none : Option Jvm.ClassFile.FieldType), Jvm.Cond.code ({ cls := "java/lang/StringUTF16", name := "compress", desc := "([CII)[B" } : Jvm.MethodName) jdk_52_method_16_code (6 : Nat) (Option.some (Jvm.ClassFile.FieldType.array Jvm.ClassFile.FieldType.byte)), Jvm.Cond.code ({ cls := "java/lang/StringUTF16", name := "compress", desc := "([CI[BII)I" } : Jvm.MethodName) jdk_52_method_21_code (7 : Nat) (Option.some Jvm.ClassFile.FieldType.int), Jvm.Cond.code ({ cls := "java/lang/StringUTF16", name := "coderFromArrayLen", desc := "([BI)B" } : Jvm.MethodName) jdk_52_method_15_code (2 : Nat) (Option.some Jvm.ClassFile.FieldType.byte), Jvm.Cond.code ({ cls := "java/lang/String", name := "equals", desc := "(Ljava/lang/Object;)Z" } : Jvm.MethodName) jdk_42_method_66_code (3 : Nat) (Option.some Jvm.ClassFile.FieldType.boolean), Jvm.Cond.code ({ cls := "java/lang/StringLatin1", name := "equals", desc := "([B[B)Z" } : Jvm.MethodName) jdk_43_method_13_code (3 : Nat) (Option.some Jvm.ClassFile.FieldType.boolean)]
set_option maxRecDepth 65536 in
theorem codes_eq : words1.filter isCode = codes1 := rfl
theorem w_codes : ∀ c ∈ words1.filter isCode, c.before args0 about1 = true := by
  rw [codes_eq]
  intro c hc
  simp only [codes1, List.mem_cons, List.not_mem_nil, or_false] at hc
  rcases hc with rfl | rfl | rfl | rfl | rfl | rfl | rfl | rfl | rfl | rfl | rfl | rfl | rfl | rfl | rfl | rfl | rfl | rfl | rfl | rfl | rfl | rfl | rfl | rfl | rfl | rfl | rfl | rfl | rfl | rfl | rfl | rfl | rfl | rfl | rfl | rfl | rfl | rfl | rfl | rfl | rfl | rfl | rfl | rfl
  · exact w_c0
  · exact w_c1
  · exact w_c2
  · exact w_c3
  · exact w_c4
  · exact w_c5
  · exact w_c6
  · exact w_c7
  · exact w_c8
  · exact w_c9
  · exact w_c10
  · exact w_c11
  · exact w_c12
  · exact w_c13
  · exact w_c14
  · exact w_c15
  · exact w_c16
  · exact w_c17
  · exact w_c18
  · exact w_c19
  · exact w_c20
  · exact w_c21
  · exact w_c22
  · exact w_c23
  · exact w_c24
  · exact w_c25
  · exact w_c26
  · exact w_c27
  · exact w_c28
  · exact w_c29
  · exact w_c30
  · exact w_c31
  · exact w_c32
  · exact w_c33
  · exact w_c34
  · exact w_c35
  · exact w_c36
  · exact w_c37
  · exact w_c38
  · exact w_c39
  · exact w_c40
  · exact w_c41
  · exact w_c42
  · exact w_c43
set_option maxRecDepth 65536 in
theorem w_t1 : (words1.take 24).all (fun c => isCode c || c.before args0 about1) = true := by decide +kernel
set_option maxRecDepth 65536 in
theorem w_t2 : ((words1.drop 24).take 24).all (fun c => isCode c || c.before args0 about1) = true := by decide +kernel
set_option maxRecDepth 65536 in
theorem w_t3 : (((words1.drop 24).drop 24).take 24).all (fun c => isCode c || c.before args0 about1) = true := by decide +kernel
set_option maxRecDepth 65536 in
theorem w_t4 : ((((words1.drop 24).drop 24).drop 24).take 24).all (fun c => isCode c || c.before args0 about1) = true := by decide +kernel
set_option maxRecDepth 65536 in
theorem w_t5 : (((((words1.drop 24).drop 24).drop 24).drop 24).take 24).all (fun c => isCode c || c.before args0 about1) = true := by decide +kernel
set_option maxRecDepth 65536 in
theorem w_t6 : ((((((words1.drop 24).drop 24).drop 24).drop 24).drop 24).take 24).all (fun c => isCode c || c.before args0 about1) = true := by decide +kernel
set_option maxRecDepth 65536 in
theorem w_t7 : (((((((words1.drop 24).drop 24).drop 24).drop 24).drop 24).drop 24).take 24).all (fun c => isCode c || c.before args0 about1) = true := by decide +kernel
set_option maxRecDepth 65536 in
theorem w_t8 : ((((((((words1.drop 24).drop 24).drop 24).drop 24).drop 24).drop 24).drop 24).take 24).all (fun c => isCode c || c.before args0 about1) = true := by decide +kernel
set_option maxRecDepth 65536 in
theorem w_t9 : (((((((((words1.drop 24).drop 24).drop 24).drop 24).drop 24).drop 24).drop 24).drop 24).take 24).all (fun c => isCode c || c.before args0 about1) = true := by decide +kernel
set_option maxRecDepth 65536 in
theorem w_t10 : ((((((((((words1.drop 24).drop 24).drop 24).drop 24).drop 24).drop 24).drop 24).drop 24).drop 24).take 24).all (fun c => isCode c || c.before args0 about1) = true := by decide +kernel
set_option maxRecDepth 65536 in
theorem w_t11 : ((((((((((words1.drop 24).drop 24).drop 24).drop 24).drop 24).drop 24).drop 24).drop 24).drop 24).drop 24).all (fun c => isCode c || c.before args0 about1) = true := by decide +kernel
theorem w_tables : (allAtoms (Jvm.Cond.code x code maxLocals ret :: tables_1)).before args0 about1 = true := by
  rw [allAtoms_all]
  show words1.all (fun c => c.before args0 about1) = true
  refine all_split ?_ w_codes
  rw [← List.take_append_drop 24 words1, List.all_append, w_t1, ← List.take_append_drop 24 (words1.drop 24), List.all_append, w_t2, ← List.take_append_drop 24 ((words1.drop 24).drop 24), List.all_append, w_t3, ← List.take_append_drop 24 (((words1.drop 24).drop 24).drop 24), List.all_append, w_t4, ← List.take_append_drop 24 ((((words1.drop 24).drop 24).drop 24).drop 24), List.all_append, w_t5, ← List.take_append_drop 24 (((((words1.drop 24).drop 24).drop 24).drop 24).drop 24), List.all_append, w_t6, ← List.take_append_drop 24 ((((((words1.drop 24).drop 24).drop 24).drop 24).drop 24).drop 24), List.all_append, w_t7, ← List.take_append_drop 24 (((((((words1.drop 24).drop 24).drop 24).drop 24).drop 24).drop 24).drop 24), List.all_append, w_t8, ← List.take_append_drop 24 ((((((((words1.drop 24).drop 24).drop 24).drop 24).drop 24).drop 24).drop 24).drop 24), List.all_append, w_t9, ← List.take_append_drop 24 (((((((((words1.drop 24).drop 24).drop 24).drop 24).drop 24).drop 24).drop 24).drop 24).drop 24), List.all_append, w_t10, w_t11]
  rfl
set_option maxRecDepth 65536 in
theorem w_rest : rest_1_c.before args0 about1 = true := by decide +kernel
set_option maxRecDepth 65536 in
theorem w_case : (Jvm.Cond.and given_1 narrow_1).before args0 about1 = true := by decide +kernel
set_option maxRecDepth 65536 in
theorem w_consts : constsHeld consts_1 about1 := Jvm.Lit.constsHeldB_iff.mp (by decide +kernel)
theorem w_applies : (headSpec (Jvm.Cond.code x code maxLocals ret :: tables_1) room_1).applies x e0.platform about1 = true :=
  (Spec.applies_iff w_frames).mpr ⟨w_running, w_runnable, w_alone, w_named, w_hears, w_ripe, w_room, w_tables⟩
theorem atStart : AtStart classFile x code maxLocals ret World_1 tables_1 room_1 Calls_1 rest_1 Pre_1 launch0 p0 e0 about1 theMethod args0 below0 :=
  ⟨lists_1, trivial, launch0.admits_env _ _ _, launch0.least_env, fairChoices_fair.cas, fairChoices_fair.clock, w_frames, w_args, w_heap, w_applies, ⟨w_consts, trivial⟩, w_rest, w_case⟩
end start1
theorem witness_1 : WitnessClaimed_1 := ⟨start1.p0, start1.e0, start1.about1, start1.theMethod, start1.args0, start1.below0, start1.atStart⟩
end Jvm.Pilot.@@N@@
