import JvmDerived
import JvmDerived.Pilot.@@N@@Statement
import JvmDerived.Pilot.@@N@@Code
set_option linter.unusedVariables false
set_option linter.unusedSimpArgs false
namespace Jvm.Pilot.@@N@@
open Jvm Jvm.ClassFile Sem Op Lib Jvm.Free Jvm.Stand Jvm.LawKit Jvm.RoadKit Bundle Jvm.Pilot.@@N@@.Jvm.D
/-- the run comes from S to an end of which Q holds -/
def own_Goes (p : Program) (e : Env) (below : List Frame) (S : State) (Q : Outcome → State → Prop) : Prop := ∃ s₂ o, Steps p.tables e below S s₂ ∧ s₂.status = .running ∧ Ended s₂ below o ∧ Q o s₂
theorem own_go {p : Program} {e : Env} {below : List Frame} {S N : State} {Q : Outcome → State → Prop} (h : ∀ t, Steps p.tables e below N t → Steps p.tables e below S t) (k : own_Goes p e below N Q) : own_Goes p e below S Q := by
  obtain ⟨s₂, o, h1, h2⟩ := k; exact ⟨s₂, o, h _ h1, h2⟩
/-- the model's own selection picks a private method itself -/
theorem own_selp {y : MethodName} {s : State} {args : Array Value} {n : Nat} (hy : y.cls ≠ "java/lang/invoke/MethodHandle" ∧ y.cls ≠ "java/lang/invoke/VarHandle") (hins : (Cond.instantiable y.cls n).before args s = true) (hpriv : (Cond.privateMethod y).before args s = true) (hinst : (Cond.instanceMethod y).before args s = true) : (Cond.selects y.cls y y).before args s = true := by
  obtain ⟨c, k, hc, hk, -, hniab, -, -⟩ := Cond.instantiable_spec hins
  have hni : k.isInterface = false := (Bool.or_eq_false_iff.mp hniab).1
  obtain ⟨mk, methM, hnamed, hmethM, -, -⟩ := Cond.instanceMethod_spec hinst
  have hfound : s.methodFound? y.cls y.name y.desc = some mk := State.methodFound?_of_named hnamed hy
  have hcls : mk.cls = c := Option.some.inj ((findClass_of_methodNamed hnamed).symm.trans hc)
  have hsel : selectMethod {} s.vm c mk = .method mk := selectMethod_private hmethM (Cond.privateMethod_at hpriv mk methM hnamed hmethM)
  simp only [Cond.before, Cond.holds, Cond.value, hc, hfound, hnamed, hsel, hcls, hk]
  simp; exact hni
/-- a place where roads meet: walked once, for whatever the roads bring -/
theorem own_join {p : Program} {e : Env} {below : List Frame} {S : State} {Q : Outcome → State → Prop} {α : Type} {P : α → Prop} {F : α → State} (h1 : ∀ z, P z → own_Goes p e below (F z) Q) (h2 : (∀ z, P z → own_Goes p e below (F z) Q) → own_Goes p e below S Q) : own_Goes p e below S Q := h2 h1
def own_cmp (x y : Int64) : Int32 := if x < y then -1 else if x = y then 0 else 1
def own_due (w1 s1 w2 s2 : Int64) : Int32 := if w1 = w2 then own_cmp s1 s2 else own_cmp w1 w2
def own_sg (r : Int32) : Int32 := if r < 0 then -1 else if 0 < r then 1 else 0
def own_ex (w1 s1 w2 s2 : Int64) : Int32 := if w1 < w2 then -1 else if w2 < w1 then 1 else if s1 < s2 then -1 else if s2 < s1 then 1 else 0
theorem own_tri (x y : Int64) : (x < y ∧ ¬ y < x ∧ ¬ x = y ∧ ¬ y = x) ∨ (¬ x < y ∧ ¬ y < x ∧ x = y) ∨ (¬ x < y ∧ y < x ∧ ¬ x = y ∧ ¬ y = x) := by
  simp only [Int64.lt_iff_toInt_lt, ← Int64.toInt_inj]
  omega
theorem own_l1 (w1 s1 w2 s2 : Int64) : own_sg (own_due w1 s1 w2 s2) = own_ex w1 s1 w2 s2 := by
  rcases own_tri w1 w2 with ⟨a, b, c, d⟩ | ⟨a, b, c⟩ | ⟨a, b, c, d⟩
  · simp [own_due, own_cmp, own_ex, a, c]; decide
  · rcases own_tri s1 s2 with ⟨e, f, g, i⟩ | ⟨e, f, g⟩ | ⟨e, f, g, i⟩
    · subst c; simp [own_due, own_cmp, own_ex, e]; decide
    · subst c; subst g; simp [own_due, own_cmp, own_ex]; decide
    · subst c; simp [own_due, own_cmp, own_ex, e, f, g]; decide
  · simp [own_due, own_cmp, own_ex, a, b, c]; decide
theorem own_l2 (w1 s1 w2 s2 : Int64) : own_sg (own_due w2 s2 w1 s1) = -own_ex w1 s1 w2 s2 := by
  rcases own_tri w1 w2 with ⟨a, b, c, d⟩ | ⟨a, b, c⟩ | ⟨a, b, c, d⟩
  · simp [own_due, own_cmp, own_ex, a, b, d]; decide
  · rcases own_tri s1 s2 with ⟨e, f, g, i⟩ | ⟨e, f, g⟩ | ⟨e, f, g, i⟩
    · subst c; simp [own_due, own_cmp, own_ex, e, f, i]; decide
    · subst c; subst g; simp [own_due, own_cmp, own_ex]; decide
    · subst c; simp [own_due, own_cmp, own_ex, e, f]; decide
  · simp [own_due, own_cmp, own_ex, a, b, d]; decide
theorem own_pn2 : plainName "java/lang/Long" = true := by first | (simp [plainName, overriddenIn]; done) | decide +kernel
theorem own_ef_own_cmpM (m : MethodId) (p1 : Int64) (p2 : Int64) : entryFrame m #[(.long p1), (.long p2)] 4 = (mkF m 0 #[.val (.long p1), .second, .val (.long p2), .second] []) := by first | (simp [entryFrame, mkF, argsToLocals, Value.category]; done) | rfl
def Q_own_cmpM (Z : State) (p1 : Int64) (p2 : Int64) (h0 : Heap) (n0 : Nat) (v : Option Value) (h : Heap) (L : List Loc) : Prop := v = some (.int (own_cmp p1 p2)) ∧ Fr n0 L ∧ h = h0
def G_own_cmpM (Z : State) (p1 : Int64) (p2 : Int64) (h0 : Heap) (n0 : Nat) (s : State) : Outcome → State → Prop := fun o U' => ∃ v L, o = .returned v ∧ Q_own_cmpM Z p1 p2 h0 n0 v U'.heap L ∧ FrameEnd s o U' L ({ frames := 0, cells := 0, slots := 0, locals := 0 } : Room).cells ({ frames := 0, cells := 0, slots := 0, locals := 0 } : Room).slots
theorem own_d2_0 : decode jdk_35_method_42_code 0 = .ok (.lload_n 0, 1) := by decide +kernel
theorem own_d2_1 : decode jdk_35_method_42_code 1 = .ok (.lload_n 2, 1) := by decide +kernel
theorem own_d2_2 : decode jdk_35_method_42_code 2 = .ok (.lcmp, 1) := by decide +kernel
theorem own_d2_3 : decode jdk_35_method_42_code 3 = .ok (.ifCond .ge 7, 3) := by decide +kernel
theorem own_d2_6 : decode jdk_35_method_42_code 6 = .ok (.iconst (-1), 1) := by decide +kernel
theorem own_d2_7 : decode jdk_35_method_42_code 7 = .ok (.goto 14, 3) := by decide +kernel
theorem own_d2_21 : decode jdk_35_method_42_code 21 = .ok (.ireturn, 1) := by decide +kernel
theorem own_d2_10 : decode jdk_35_method_42_code 10 = .ok (.lload_n 0, 1) := by decide +kernel
theorem own_d2_11 : decode jdk_35_method_42_code 11 = .ok (.lload_n 2, 1) := by decide +kernel
theorem own_d2_12 : decode jdk_35_method_42_code 12 = .ok (.lcmp, 1) := by decide +kernel
theorem own_d2_13 : decode jdk_35_method_42_code 13 = .ok (.ifCond .ne 7, 3) := by decide +kernel
theorem own_d2_16 : decode jdk_35_method_42_code 16 = .ok (.iconst 0, 1) := by decide +kernel
theorem own_d2_17 : decode jdk_35_method_42_code 17 = .ok (.goto 4, 3) := by decide +kernel
theorem own_d2_20 : decode jdk_35_method_42_code 20 = .ok (.iconst 1, 1) := by decide +kernel
set_option maxRecDepth 65536 in
set_option maxHeartbeats 40000000 in
theorem own_cmpM (l : Launch) (Z : State) (a0 : Array Value) (hw : ∀ d ∈ tables_1, d.before a0 Z = true) (ws : List Jvm.Cond) (p1 : Int64) (p2 : Int64) (h0 : Heap) (n0 : Nat) (Z0 : n0 ≤ h0.size)  :
    MetFree l (⟨"java/lang/Long", "compare", "(JJ)I"⟩ : MethodName) (head1 (Jvm.Cond.code (⟨"java/lang/Long", "compare", "(JJ)I"⟩ : MethodName) jdk_35_method_42_code 4 (some .int) :: ws) ({ frames := 0, cells := 0, slots := 0, locals := 0 } : Room)) (fun a U => a = #[(.long p1), (.long p2)] ∧ Z.Warmed39 U.vm ∧ U.heap = h0) (fun _ _ _ _ _ => True) (fun _ U o U' => ∃ v L, o = .returned v ∧ Q_own_cmpM Z p1 p2 h0 n0 v U'.heap L ∧ FrameEnd U o U' L ({ frames := 0, cells := 0, slots := 0, locals := 0 } : Room).cells ({ frames := 0, cells := 0, slots := 0, locals := 0 } : Room).slots) := by
  refine MetFree.of_bodySF (plainFor_of_name own_pn2) hisR ?_
  intro p e s m args below meth c s₁ Bd hml0 hP hK
  obtain ⟨rfl, hZ, hh⟩ := hP
  have hx := Bd.exec
  have hby := Bd.bytes
  have hml : c.maxLocals = 4 := hml0
  have hown : s.vm.findClass "java/lang/Long" = some m.cls := findClass_of_methodNamed Bd.named
  have hnm := (name_of_methodNamed Bd.named Bd.method).1
  have X0 : Stand p l e ({ frames := 0, cells := 0, slots := 0, locals := 0 } : Room) s m #[(.long p1), (.long p2)] below meth c s₁ [] 0 0 := Stand.of_body Bd
  have e0 : s₁.heap = h0 := by rw [← hh, Bd.state]; rfl
  have N0 := Fr.nil n0
  refine own_go (S := s₁.setTop (entryFrame m #[(.long p1), (.long p2)] 4)) (Q := (G_own_cmpM Z p1 p2 h0 n0 s)) (fun _ k => castTop (own_ef_own_cmpM m p1 p2) k) ?_
  show own_Goes p e below (s₁.setTop (mkF m 0 #[.val (.long p1), .second, .val (.long p2), .second] [])) (G_own_cmpM Z p1 p2 h0 n0 s)
  refine own_go (fun _ k => XS.lloadN X0.here hx rfl (hb hby own_d2_0) rfl k) ?_
  show own_Goes p e below (s₁.setTop (mkF m 1 #[.val (.long p1), .second, .val (.long p2), .second] [(.long p1)])) (G_own_cmpM Z p1 p2 h0 n0 s)
  refine own_go (fun _ k => XS.lloadN X0.here hx rfl (hb hby own_d2_1) rfl k) ?_
  show own_Goes p e below (s₁.setTop (mkF m 2 #[.val (.long p1), .second, .val (.long p2), .second] [(.long p2), (.long p1)])) (G_own_cmpM Z p1 p2 h0 n0 s)
  refine own_go (fun _ k => XT.lcmp X0.here hx rfl (hb hby own_d2_2) rfl k) ?_
  show own_Goes p e below (s₁.setTop (mkF m 3 #[.val (.long p1), .second, .val (.long p2), .second] [(.int (XT.cmpL p1 p2))])) (G_own_cmpM Z p1 p2 h0 n0 s)
  by_cases hc3_1 : p1 < p2
  · refine own_go (fun _ k => XS.ifNo X0.here hx rfl (hb hby own_d2_3) rfl (XT.ll_ge_f hc3_1) k) ?_
    show own_Goes p e below (s₁.setTop (mkF m 6 #[.val (.long p1), .second, .val (.long p2), .second] [])) (G_own_cmpM Z p1 p2 h0 n0 s)
    refine own_go (fun _ k => XS.iconst X0.here hx rfl (hb hby own_d2_6) k) ?_
    show own_Goes p e below (s₁.setTop (mkF m 7 #[.val (.long p1), .second, .val (.long p2), .second] [(.int (-1 : Int32))])) (G_own_cmpM Z p1 p2 h0 n0 s)
    refine own_go (fun _ k => XS.goto X0.here hx rfl (pc0 := 7) (pc' := 21) rfl (hb hby own_d2_7) (by decide) (by decide) k) ?_
    show own_Goes p e below (s₁.setTop (mkF m 21 #[.val (.long p1), .second, .val (.long p2), .second] [(.int (-1 : Int32))])) (G_own_cmpM Z p1 p2 h0 n0 s)
    obtain ⟨fs, hr, hrun, hended, hW, hsame⟩ := X0.leave (v := some (.int (-1 : Int32))) (fun h => by rw [Bd.returns] at h; cases h)
    refine ⟨_, _, retOut X0 hx (t := .int) (i := .ireturn) Bd.returns rfl (Or.inl ⟨rfl, Or.inl rfl, _, rfl⟩) (hb hby own_d2_21) hr, hrun, hended, _, _, rfl, ?_, ⟨_, rfl⟩, hW, hsame.mono (by decide) (by decide)⟩
    show Q_own_cmpM Z p1 p2 h0 n0 _ s₁.heap _
    rw [e0]
    exact ⟨by simp [own_cmp, hc3_1], N0, rfl⟩
  · refine own_go (fun _ k => XS.ifYes X0.here hx rfl (pc0 := 3) (pc' := 10) rfl (hb hby own_d2_3) rfl (XT.ll_ge_t hc3_1) (by decide) (by decide) k) ?_
    show own_Goes p e below (s₁.setTop (mkF m 10 #[.val (.long p1), .second, .val (.long p2), .second] [])) (G_own_cmpM Z p1 p2 h0 n0 s)
    refine own_go (fun _ k => XS.lloadN X0.here hx rfl (hb hby own_d2_10) rfl k) ?_
    show own_Goes p e below (s₁.setTop (mkF m 11 #[.val (.long p1), .second, .val (.long p2), .second] [(.long p1)])) (G_own_cmpM Z p1 p2 h0 n0 s)
    refine own_go (fun _ k => XS.lloadN X0.here hx rfl (hb hby own_d2_11) rfl k) ?_
    show own_Goes p e below (s₁.setTop (mkF m 12 #[.val (.long p1), .second, .val (.long p2), .second] [(.long p2), (.long p1)])) (G_own_cmpM Z p1 p2 h0 n0 s)
    refine own_go (fun _ k => XT.lcmp X0.here hx rfl (hb hby own_d2_12) rfl k) ?_
    show own_Goes p e below (s₁.setTop (mkF m 13 #[.val (.long p1), .second, .val (.long p2), .second] [(.int (XT.cmpL p1 p2))])) (G_own_cmpM Z p1 p2 h0 n0 s)
    by_cases hc13_2 : p1 = p2
    · refine own_go (fun _ k => XS.ifNo X0.here hx rfl (hb hby own_d2_13) rfl (XT.ll_ne_f hc13_2) k) ?_
      show own_Goes p e below (s₁.setTop (mkF m 16 #[.val (.long p1), .second, .val (.long p2), .second] [])) (G_own_cmpM Z p1 p2 h0 n0 s)
      refine own_go (fun _ k => XS.iconst X0.here hx rfl (hb hby own_d2_16) k) ?_
      show own_Goes p e below (s₁.setTop (mkF m 17 #[.val (.long p1), .second, .val (.long p2), .second] [(.int (0 : Int32))])) (G_own_cmpM Z p1 p2 h0 n0 s)
      refine own_go (fun _ k => XS.goto X0.here hx rfl (pc0 := 17) (pc' := 21) rfl (hb hby own_d2_17) (by decide) (by decide) k) ?_
      show own_Goes p e below (s₁.setTop (mkF m 21 #[.val (.long p1), .second, .val (.long p2), .second] [(.int (0 : Int32))])) (G_own_cmpM Z p1 p2 h0 n0 s)
      obtain ⟨fs, hr, hrun, hended, hW, hsame⟩ := X0.leave (v := some (.int (0 : Int32))) (fun h => by rw [Bd.returns] at h; cases h)
      refine ⟨_, _, retOut X0 hx (t := .int) (i := .ireturn) Bd.returns rfl (Or.inl ⟨rfl, Or.inl rfl, _, rfl⟩) (hb hby own_d2_21) hr, hrun, hended, _, _, rfl, ?_, ⟨_, rfl⟩, hW, hsame.mono (by decide) (by decide)⟩
      show Q_own_cmpM Z p1 p2 h0 n0 _ s₁.heap _
      rw [e0]
      exact ⟨by simp [own_cmp, hc3_1, hc13_2], N0, rfl⟩
    · refine own_go (fun _ k => XS.ifYes X0.here hx rfl (pc0 := 13) (pc' := 20) rfl (hb hby own_d2_13) rfl (XT.ll_ne_t hc13_2) (by decide) (by decide) k) ?_
      show own_Goes p e below (s₁.setTop (mkF m 20 #[.val (.long p1), .second, .val (.long p2), .second] [])) (G_own_cmpM Z p1 p2 h0 n0 s)
      refine own_go (fun _ k => XS.iconst X0.here hx rfl (hb hby own_d2_20) k) ?_
      show own_Goes p e below (s₁.setTop (mkF m 21 #[.val (.long p1), .second, .val (.long p2), .second] [(.int (1 : Int32))])) (G_own_cmpM Z p1 p2 h0 n0 s)
      obtain ⟨fs, hr, hrun, hended, hW, hsame⟩ := X0.leave (v := some (.int (1 : Int32))) (fun h => by rw [Bd.returns] at h; cases h)
      refine ⟨_, _, retOut X0 hx (t := .int) (i := .ireturn) Bd.returns rfl (Or.inl ⟨rfl, Or.inl rfl, _, rfl⟩) (hb hby own_d2_21) hr, hrun, hended, _, _, rfl, ?_, ⟨_, rfl⟩, hW, hsame.mono (by decide) (by decide)⟩
      show Q_own_cmpM Z p1 p2 h0 n0 _ s₁.heap _
      rw [e0]
      exact ⟨by simp [own_cmp, hc3_1, hc13_2], N0, rfl⟩
theorem own_pn3 : plainName "com/example/beltline/beltline/MessageQueueCompareDuePinLaw" = true := by first | (simp [plainName, overriddenIn]; done) | decide +kernel
theorem own_ef_own_sgM (m : MethodId) (p1 : Int32) : entryFrame m #[(.int p1)] 1 = (mkF m 0 #[.val (.int p1)] []) := by first | (simp [entryFrame, mkF, argsToLocals, Value.category]; done) | rfl
def Q_own_sgM (Z : State) (p1 : Int32) (h0 : Heap) (n0 : Nat) (v : Option Value) (h : Heap) (L : List Loc) : Prop := v = some (.int (own_sg p1)) ∧ Fr n0 L ∧ h = h0
def G_own_sgM (Z : State) (p1 : Int32) (h0 : Heap) (n0 : Nat) (s : State) : Outcome → State → Prop := fun o U' => ∃ v L, o = .returned v ∧ Q_own_sgM Z p1 h0 n0 v U'.heap L ∧ FrameEnd s o U' L ({ frames := 0, cells := 0, slots := 0, locals := 0 } : Room).cells ({ frames := 0, cells := 0, slots := 0, locals := 0 } : Room).slots
theorem own_d3_0 : decode method_2_code 0 = .ok (.iload_n 0, 1) := by decide +kernel
theorem own_d3_1 : decode method_2_code 1 = .ok (.ifCond .ge 5, 3) := by decide +kernel
theorem own_d3_4 : decode method_2_code 4 = .ok (.iconst (-1), 1) := by decide +kernel
theorem own_d3_5 : decode method_2_code 5 = .ok (.ireturn, 1) := by decide +kernel
theorem own_d3_6 : decode method_2_code 6 = .ok (.iload_n 0, 1) := by decide +kernel
theorem own_d3_7 : decode method_2_code 7 = .ok (.ifCond .le 5, 3) := by decide +kernel
theorem own_d3_10 : decode method_2_code 10 = .ok (.iconst 1, 1) := by decide +kernel
theorem own_d3_11 : decode method_2_code 11 = .ok (.ireturn, 1) := by decide +kernel
theorem own_d3_12 : decode method_2_code 12 = .ok (.iconst 0, 1) := by decide +kernel
theorem own_d3_13 : decode method_2_code 13 = .ok (.ireturn, 1) := by decide +kernel
set_option maxRecDepth 65536 in
set_option maxHeartbeats 40000000 in
theorem own_sgM (l : Launch) (Z : State) (a0 : Array Value) (hw : ∀ d ∈ tables_1, d.before a0 Z = true) (ws : List Jvm.Cond) (p1 : Int32) (h0 : Heap) (n0 : Nat) (Z0 : n0 ≤ h0.size)  :
    MetFree l (⟨"com/example/beltline/beltline/MessageQueueCompareDuePinLaw", "sign", "(I)I"⟩ : MethodName) (head1 (Jvm.Cond.code (⟨"com/example/beltline/beltline/MessageQueueCompareDuePinLaw", "sign", "(I)I"⟩ : MethodName) method_2_code 1 (some .int) :: ws) ({ frames := 0, cells := 0, slots := 0, locals := 0 } : Room)) (fun a U => a = #[(.int p1)] ∧ Z.Warmed39 U.vm ∧ U.heap = h0) (fun _ _ _ _ _ => True) (fun _ U o U' => ∃ v L, o = .returned v ∧ Q_own_sgM Z p1 h0 n0 v U'.heap L ∧ FrameEnd U o U' L ({ frames := 0, cells := 0, slots := 0, locals := 0 } : Room).cells ({ frames := 0, cells := 0, slots := 0, locals := 0 } : Room).slots) := by
  refine MetFree.of_bodySF (plainFor_of_name own_pn3) hisR ?_
  intro p e s m args below meth c s₁ Bd hml0 hP hK
  obtain ⟨rfl, hZ, hh⟩ := hP
  have hx := Bd.exec
  have hby := Bd.bytes
  have hml : c.maxLocals = 1 := hml0
  have hown : s.vm.findClass "com/example/beltline/beltline/MessageQueueCompareDuePinLaw" = some m.cls := findClass_of_methodNamed Bd.named
  have hnm := (name_of_methodNamed Bd.named Bd.method).1
  have X0 : Stand p l e ({ frames := 0, cells := 0, slots := 0, locals := 0 } : Room) s m #[(.int p1)] below meth c s₁ [] 0 0 := Stand.of_body Bd
  have e0 : s₁.heap = h0 := by rw [← hh, Bd.state]; rfl
  have N0 := Fr.nil n0
  refine own_go (S := s₁.setTop (entryFrame m #[(.int p1)] 1)) (Q := (G_own_sgM Z p1 h0 n0 s)) (fun _ k => castTop (own_ef_own_sgM m p1) k) ?_
  show own_Goes p e below (s₁.setTop (mkF m 0 #[.val (.int p1)] [])) (G_own_sgM Z p1 h0 n0 s)
  refine own_go (fun _ k => XS.iloadN X0.here hx rfl (hb hby own_d3_0) rfl k) ?_
  show own_Goes p e below (s₁.setTop (mkF m 1 #[.val (.int p1)] [(.int p1)])) (G_own_sgM Z p1 h0 n0 s)
  by_cases hc1_3 : p1 < (0 : Int32)
  · refine own_go (fun _ k => XS.ifNo X0.here hx rfl (hb hby own_d3_1) rfl (XT.i0_ge_f hc1_3) k) ?_
    show own_Goes p e below (s₁.setTop (mkF m 4 #[.val (.int p1)] [])) (G_own_sgM Z p1 h0 n0 s)
    refine own_go (fun _ k => XS.iconst X0.here hx rfl (hb hby own_d3_4) k) ?_
    show own_Goes p e below (s₁.setTop (mkF m 5 #[.val (.int p1)] [(.int (-1 : Int32))])) (G_own_sgM Z p1 h0 n0 s)
    obtain ⟨fs, hr, hrun, hended, hW, hsame⟩ := X0.leave (v := some (.int (-1 : Int32))) (fun h => by rw [Bd.returns] at h; cases h)
    refine ⟨_, _, retOut X0 hx (t := .int) (i := .ireturn) Bd.returns rfl (Or.inl ⟨rfl, Or.inl rfl, _, rfl⟩) (hb hby own_d3_5) hr, hrun, hended, _, _, rfl, ?_, ⟨_, rfl⟩, hW, hsame.mono (by decide) (by decide)⟩
    show Q_own_sgM Z p1 h0 n0 _ s₁.heap _
    rw [e0]
    exact ⟨by simp [own_sg, hc1_3], N0, rfl⟩
  · refine own_go (fun _ k => XS.ifYes X0.here hx rfl (pc0 := 1) (pc' := 6) rfl (hb hby own_d3_1) rfl (XT.i0_ge_t hc1_3) (by decide) (by decide) k) ?_
    show own_Goes p e below (s₁.setTop (mkF m 6 #[.val (.int p1)] [])) (G_own_sgM Z p1 h0 n0 s)
    refine own_go (fun _ k => XS.iloadN X0.here hx rfl (hb hby own_d3_6) rfl k) ?_
    show own_Goes p e below (s₁.setTop (mkF m 7 #[.val (.int p1)] [(.int p1)])) (G_own_sgM Z p1 h0 n0 s)
    by_cases hc7_4 : (0 : Int32) < p1
    · refine own_go (fun _ k => XS.ifNo X0.here hx rfl (hb hby own_d3_7) rfl (XT.i0_le_f hc7_4) k) ?_
      show own_Goes p e below (s₁.setTop (mkF m 10 #[.val (.int p1)] [])) (G_own_sgM Z p1 h0 n0 s)
      refine own_go (fun _ k => XS.iconst X0.here hx rfl (hb hby own_d3_10) k) ?_
      show own_Goes p e below (s₁.setTop (mkF m 11 #[.val (.int p1)] [(.int (1 : Int32))])) (G_own_sgM Z p1 h0 n0 s)
      obtain ⟨fs, hr, hrun, hended, hW, hsame⟩ := X0.leave (v := some (.int (1 : Int32))) (fun h => by rw [Bd.returns] at h; cases h)
      refine ⟨_, _, retOut X0 hx (t := .int) (i := .ireturn) Bd.returns rfl (Or.inl ⟨rfl, Or.inl rfl, _, rfl⟩) (hb hby own_d3_11) hr, hrun, hended, _, _, rfl, ?_, ⟨_, rfl⟩, hW, hsame.mono (by decide) (by decide)⟩
      show Q_own_sgM Z p1 h0 n0 _ s₁.heap _
      rw [e0]
      exact ⟨by simp [own_sg, hc1_3, hc7_4], N0, rfl⟩
    · refine own_go (fun _ k => XS.ifYes X0.here hx rfl (pc0 := 7) (pc' := 12) rfl (hb hby own_d3_7) rfl (XT.i0_le_t hc7_4) (by decide) (by decide) k) ?_
      show own_Goes p e below (s₁.setTop (mkF m 12 #[.val (.int p1)] [])) (G_own_sgM Z p1 h0 n0 s)
      refine own_go (fun _ k => XS.iconst X0.here hx rfl (hb hby own_d3_12) k) ?_
      show own_Goes p e below (s₁.setTop (mkF m 13 #[.val (.int p1)] [(.int (0 : Int32))])) (G_own_sgM Z p1 h0 n0 s)
      obtain ⟨fs, hr, hrun, hended, hW, hsame⟩ := X0.leave (v := some (.int (0 : Int32))) (fun h => by rw [Bd.returns] at h; cases h)
      refine ⟨_, _, retOut X0 hx (t := .int) (i := .ireturn) Bd.returns rfl (Or.inl ⟨rfl, Or.inl rfl, _, rfl⟩) (hb hby own_d3_13) hr, hrun, hended, _, _, rfl, ?_, ⟨_, rfl⟩, hW, hsame.mono (by decide) (by decide)⟩
      show Q_own_sgM Z p1 h0 n0 _ s₁.heap _
      rw [e0]
      exact ⟨by simp [own_sg, hc1_3, hc7_4], N0, rfl⟩
theorem own_pn1 : plainName "com/example/beltline/beltline/MessageQueue" = true := by first | (simp [plainName, overriddenIn]; done) | decide +kernel
theorem own_ef_own_dueM (m : MethodId) (p1 : Int64) (p2 : Int64) (p3 : Int64) (p4 : Int64) : entryFrame m #[(.long p1), (.long p2), (.long p3), (.long p4)] 8 = (mkF m 0 #[.val (.long p1), .second, .val (.long p2), .second, .val (.long p3), .second, .val (.long p4), .second] []) := by first | (simp [entryFrame, mkF, argsToLocals, Value.category]; done) | rfl
def Q_own_dueM (Z : State) (p1 : Int64) (p2 : Int64) (p3 : Int64) (p4 : Int64) (h0 : Heap) (n0 : Nat) (v : Option Value) (h : Heap) (L : List Loc) : Prop := v = some (.int (own_due p1 p2 p3 p4)) ∧ Fr n0 L ∧ h = h0
def G_own_dueM (Z : State) (p1 : Int64) (p2 : Int64) (p3 : Int64) (p4 : Int64) (h0 : Heap) (n0 : Nat) (s : State) : Outcome → State → Prop := fun o U' => ∃ v L, o = .returned v ∧ Q_own_dueM Z p1 p2 p3 p4 h0 n0 v U'.heap L ∧ FrameEnd s o U' L ({ frames := 1, cells := 0, slots := 0, locals := 15 } : Room).cells ({ frames := 1, cells := 0, slots := 0, locals := 15 } : Room).slots
theorem own_d1_0 : decode prog_27_method_57_code 0 = .ok (.lload_n 0, 1) := by decide +kernel
theorem own_d1_1 : decode prog_27_method_57_code 1 = .ok (.lload 4, 2) := by decide +kernel
theorem own_d1_3 : decode prog_27_method_57_code 3 = .ok (.lcmp, 1) := by decide +kernel
theorem own_d1_4 : decode prog_27_method_57_code 4 = .ok (.ifCond .eq 12, 3) := by decide +kernel
theorem own_d1_16 : decode prog_27_method_57_code 16 = .ok (.lload_n 2, 1) := by decide +kernel
theorem own_d1_17 : decode prog_27_method_57_code 17 = .ok (.lload 6, 2) := by decide +kernel
theorem own_d1_19 : decode prog_27_method_57_code 19 = .ok (.invokestatic 730, 3) := by decide +kernel
theorem own_pd0 : parseMethodDescriptor "(JJ)I" = some ⟨[.long, .long], some .int⟩ := by decide +kernel
theorem own_d1_22 : decode prog_27_method_57_code 22 = .ok (.ireturn, 1) := by decide +kernel
theorem own_d1_7 : decode prog_27_method_57_code 7 = .ok (.lload_n 0, 1) := by decide +kernel
theorem own_d1_8 : decode prog_27_method_57_code 8 = .ok (.lload 4, 2) := by decide +kernel
theorem own_d1_10 : decode prog_27_method_57_code 10 = .ok (.invokestatic 730, 3) := by decide +kernel
theorem own_d1_13 : decode prog_27_method_57_code 13 = .ok (.goto 9, 3) := by decide +kernel
set_option maxRecDepth 65536 in
set_option maxHeartbeats 40000000 in
theorem own_dueM (l : Launch) (Z : State) (a0 : Array Value) (hw : ∀ d ∈ tables_1, d.before a0 Z = true) (ws : List Jvm.Cond) (p1 : Int64) (p2 : Int64) (p3 : Int64) (p4 : Int64) (h0 : Heap) (n0 : Nat) (Z0 : n0 ≤ h0.size)  :
    MetFree l (⟨"com/example/beltline/beltline/MessageQueue", "compareDue", "(JJJJ)I"⟩ : MethodName) (head1 (Jvm.Cond.code (⟨"com/example/beltline/beltline/MessageQueue", "compareDue", "(JJJJ)I"⟩ : MethodName) prog_27_method_57_code 8 (some .int) :: ws) ({ frames := 1, cells := 0, slots := 0, locals := 15 } : Room)) (fun a U => a = #[(.long p1), (.long p2), (.long p3), (.long p4)] ∧ Z.Warmed39 U.vm ∧ U.heap = h0) (fun _ _ _ _ _ => True) (fun _ U o U' => ∃ v L, o = .returned v ∧ Q_own_dueM Z p1 p2 p3 p4 h0 n0 v U'.heap L ∧ FrameEnd U o U' L ({ frames := 1, cells := 0, slots := 0, locals := 15 } : Room).cells ({ frames := 1, cells := 0, slots := 0, locals := 15 } : Room).slots) := by
  refine MetFree.of_bodySF (plainFor_of_name own_pn1) hisR ?_
  intro p e s m args below meth c s₁ Bd hml0 hP hK
  obtain ⟨rfl, hZ, hh⟩ := hP
  have hx := Bd.exec
  have hby := Bd.bytes
  have hml : c.maxLocals = 8 := hml0
  have hown : s.vm.findClass "com/example/beltline/beltline/MessageQueue" = some m.cls := findClass_of_methodNamed Bd.named
  have hnm := (name_of_methodNamed Bd.named Bd.method).1
  have X0 : Stand p l e ({ frames := 1, cells := 0, slots := 0, locals := 15 } : Room) s m #[(.long p1), (.long p2), (.long p3), (.long p4)] below meth c s₁ [] 0 0 := Stand.of_body Bd
  have e0 : s₁.heap = h0 := by rw [← hh, Bd.state]; rfl
  have N0 := Fr.nil n0
  refine own_go (S := s₁.setTop (entryFrame m #[(.long p1), (.long p2), (.long p3), (.long p4)] 8)) (Q := (G_own_dueM Z p1 p2 p3 p4 h0 n0 s)) (fun _ k => castTop (own_ef_own_dueM m p1 p2 p3 p4) k) ?_
  show own_Goes p e below (s₁.setTop (mkF m 0 #[.val (.long p1), .second, .val (.long p2), .second, .val (.long p3), .second, .val (.long p4), .second] [])) (G_own_dueM Z p1 p2 p3 p4 h0 n0 s)
  refine own_go (fun _ k => XS.lloadN X0.here hx rfl (hb hby own_d1_0) rfl k) ?_
  show own_Goes p e below (s₁.setTop (mkF m 1 #[.val (.long p1), .second, .val (.long p2), .second, .val (.long p3), .second, .val (.long p4), .second] [(.long p1)])) (G_own_dueM Z p1 p2 p3 p4 h0 n0 s)
  refine own_go (fun _ k => XS.lload X0.here hx rfl (hb hby own_d1_1) rfl k) ?_
  show own_Goes p e below (s₁.setTop (mkF m 3 #[.val (.long p1), .second, .val (.long p2), .second, .val (.long p3), .second, .val (.long p4), .second] [(.long p3), (.long p1)])) (G_own_dueM Z p1 p2 p3 p4 h0 n0 s)
  refine own_go (fun _ k => XT.lcmp X0.here hx rfl (hb hby own_d1_3) rfl k) ?_
  show own_Goes p e below (s₁.setTop (mkF m 4 #[.val (.long p1), .second, .val (.long p2), .second, .val (.long p3), .second, .val (.long p4), .second] [(.int (XT.cmpL p1 p3))])) (G_own_dueM Z p1 p2 p3 p4 h0 n0 s)
  by_cases hc4_5 : p1 = p3
  · refine own_go (fun _ k => XS.ifYes X0.here hx rfl (pc0 := 4) (pc' := 16) rfl (hb hby own_d1_4) rfl (XT.ll_eq_t hc4_5) (by decide) (by decide) k) ?_
    show own_Goes p e below (s₁.setTop (mkF m 16 #[.val (.long p1), .second, .val (.long p2), .second, .val (.long p3), .second, .val (.long p4), .second] [])) (G_own_dueM Z p1 p2 p3 p4 h0 n0 s)
    refine own_go (fun _ k => XS.lloadN X0.here hx rfl (hb hby own_d1_16) rfl k) ?_
    show own_Goes p e below (s₁.setTop (mkF m 17 #[.val (.long p1), .second, .val (.long p2), .second, .val (.long p3), .second, .val (.long p4), .second] [(.long p2)])) (G_own_dueM Z p1 p2 p3 p4 h0 n0 s)
    refine own_go (fun _ k => XS.lload X0.here hx rfl (hb hby own_d1_17) rfl k) ?_
    show own_Goes p e below (s₁.setTop (mkF m 19 #[.val (.long p1), .second, .val (.long p2), .second, .val (.long p3), .second, .val (.long p4), .second] [(.long p4), (.long p2)])) (G_own_dueM Z p1 p2 p3 p4 h0 n0 s)
    obtain ⟨_, _, ⟨T6, L6, k6, n6⟩, -, X6, ⟨Lc6, hQ6, l6, y6, z6⟩, st6⟩ := Jvm.LawKit.callS X0 hx (y := (⟨"java/lang/Long", "compare", "(JJ)I"⟩ : MethodName)) hown (mvT hZ (hw _ (List.mem_of_getElem? (i := 4) rfl))) (mvT hZ (hw _ (List.mem_of_getElem? (i := 5) rfl))) (mvT hZ (hw _ (List.mem_of_getElem? (i := 6) rfl))) (mvT hZ (hw _ (List.mem_of_getElem? (i := 7) rfl))) (by decide) (backOf (W := 0) (own_cmpM l Z a0 hw [] p2 p4 h0 n0 Z0 ) hZ (hw _ (List.mem_of_getElem? (i := 7) rfl)) (hw _ (List.mem_of_getElem? (i := 6) rfl)) (by decide) (by decide)) (g := (mkF m 19 #[.val (.long p1), .second, .val (.long p2), .second, .val (.long p3), .second, .val (.long p4), .second] [(.long p4), (.long p2)])) rfl (by rw [hml]; rfl) (argsL := [(.long p2), (.long p4)]) (rest := []) (lenOf own_pd0 rfl) rfl (by show 2 * 0 + _ ≤ _; exact Nat.le_of_eq rfl) (hb hby own_d1_19) (fun _ _ => ⟨rfl, e0, (by decide : 0 + 0 ≤ _), (by decide : 0 + 0 ≤ _)⟩)
    dsimp only [Pt.U, Pt.locs, Pt.cells, Pt.slots] at X6 l6 y6 z6 st6 hQ6
    subst l6 y6 z6
    obtain ⟨rfl, N6q, e6⟩ := hQ6
    have N6 := Fr.app N0 N6q
    refine own_go st6 ?_
    show own_Goes p e below (T6.setTop (mkF m 22 #[.val (.long p1), .second, .val (.long p2), .second, .val (.long p3), .second, .val (.long p4), .second] [(.int (own_cmp p2 p4))])) (G_own_dueM Z p1 p2 p3 p4 h0 n0 s)
    obtain ⟨fs, hr, hrun, hended, hW, hsame⟩ := X6.leave (v := some (.int (own_cmp p2 p4))) (fun h => by rw [Bd.returns] at h; cases h)
    refine ⟨_, _, retOut X6 hx (t := .int) (i := .ireturn) Bd.returns rfl (Or.inl ⟨rfl, Or.inl rfl, _, rfl⟩) (hb hby own_d1_22) hr, hrun, hended, _, _, rfl, ?_, ⟨_, rfl⟩, hW, hsame.mono (by decide) (by decide)⟩
    show Q_own_dueM Z p1 p2 p3 p4 h0 n0 _ T6.heap _
    rw [e6]
    exact ⟨by simp [own_due, hc4_5], N6, rfl⟩
  · refine own_go (fun _ k => XS.ifNo X0.here hx rfl (hb hby own_d1_4) rfl (XT.ll_eq_f hc4_5) k) ?_
    show own_Goes p e below (s₁.setTop (mkF m 7 #[.val (.long p1), .second, .val (.long p2), .second, .val (.long p3), .second, .val (.long p4), .second] [])) (G_own_dueM Z p1 p2 p3 p4 h0 n0 s)
    refine own_go (fun _ k => XS.lloadN X0.here hx rfl (hb hby own_d1_7) rfl k) ?_
    show own_Goes p e below (s₁.setTop (mkF m 8 #[.val (.long p1), .second, .val (.long p2), .second, .val (.long p3), .second, .val (.long p4), .second] [(.long p1)])) (G_own_dueM Z p1 p2 p3 p4 h0 n0 s)
    refine own_go (fun _ k => XS.lload X0.here hx rfl (hb hby own_d1_8) rfl k) ?_
    show own_Goes p e below (s₁.setTop (mkF m 10 #[.val (.long p1), .second, .val (.long p2), .second, .val (.long p3), .second, .val (.long p4), .second] [(.long p3), (.long p1)])) (G_own_dueM Z p1 p2 p3 p4 h0 n0 s)
    obtain ⟨_, _, ⟨T7, L7, k7, n7⟩, -, X7, ⟨Lc7, hQ7, l7, y7, z7⟩, st7⟩ := Jvm.LawKit.callS X0 hx (y := (⟨"java/lang/Long", "compare", "(JJ)I"⟩ : MethodName)) hown (mvT hZ (hw _ (List.mem_of_getElem? (i := 4) rfl))) (mvT hZ (hw _ (List.mem_of_getElem? (i := 5) rfl))) (mvT hZ (hw _ (List.mem_of_getElem? (i := 6) rfl))) (mvT hZ (hw _ (List.mem_of_getElem? (i := 7) rfl))) (by decide) (backOf (W := 0) (own_cmpM l Z a0 hw [] p1 p3 h0 n0 Z0 ) hZ (hw _ (List.mem_of_getElem? (i := 7) rfl)) (hw _ (List.mem_of_getElem? (i := 6) rfl)) (by decide) (by decide)) (g := (mkF m 10 #[.val (.long p1), .second, .val (.long p2), .second, .val (.long p3), .second, .val (.long p4), .second] [(.long p3), (.long p1)])) rfl (by rw [hml]; rfl) (argsL := [(.long p1), (.long p3)]) (rest := []) (lenOf own_pd0 rfl) rfl (by show 2 * 0 + _ ≤ _; exact Nat.le_of_eq rfl) (hb hby own_d1_10) (fun _ _ => ⟨rfl, e0, (by decide : 0 + 0 ≤ _), (by decide : 0 + 0 ≤ _)⟩)
    dsimp only [Pt.U, Pt.locs, Pt.cells, Pt.slots] at X7 l7 y7 z7 st7 hQ7
    subst l7 y7 z7
    obtain ⟨rfl, N7q, e7⟩ := hQ7
    have N7 := Fr.app N0 N7q
    refine own_go st7 ?_
    show own_Goes p e below (T7.setTop (mkF m 13 #[.val (.long p1), .second, .val (.long p2), .second, .val (.long p3), .second, .val (.long p4), .second] [(.int (own_cmp p1 p3))])) (G_own_dueM Z p1 p2 p3 p4 h0 n0 s)
    refine own_go (fun _ k => XS.goto X7.here hx rfl (pc0 := 13) (pc' := 22) rfl (hb hby own_d1_13) (by decide) (by decide) k) ?_
    show own_Goes p e below (T7.setTop (mkF m 22 #[.val (.long p1), .second, .val (.long p2), .second, .val (.long p3), .second, .val (.long p4), .second] [(.int (own_cmp p1 p3))])) (G_own_dueM Z p1 p2 p3 p4 h0 n0 s)
    obtain ⟨fs, hr, hrun, hended, hW, hsame⟩ := X7.leave (v := some (.int (own_cmp p1 p3))) (fun h => by rw [Bd.returns] at h; cases h)
    refine ⟨_, _, retOut X7 hx (t := .int) (i := .ireturn) Bd.returns rfl (Or.inl ⟨rfl, Or.inl rfl, _, rfl⟩) (hb hby own_d1_22) hr, hrun, hended, _, _, rfl, ?_, ⟨_, rfl⟩, hW, hsame.mono (by decide) (by decide)⟩
    show Q_own_dueM Z p1 p2 p3 p4 h0 n0 _ T7.heap _
    rw [e7]
    exact ⟨by simp [own_due, hc4_5], N7, rfl⟩
theorem own_pn0 : plainName "com/example/beltline/beltline/MessageQueueCompareDuePinLaw" = true := by first | (simp [plainName, overriddenIn]; done) | decide +kernel
theorem own_ef_own_law (m : MethodId) (p1 : Int64) (p2 : Int64) (p3 : Int64) (p4 : Int64) (p5 : Int32) : entryFrame m #[(.long p1), (.long p2), (.long p3), (.long p4), (.int p5)] maxLocals = (mkF m 0 #[.val (.long p1), .second, .val (.long p2), .second, .val (.long p3), .second, .val (.long p4), .second, .val (.int p5), .unset, .unset, .unset] []) := by first | (simp [entryFrame, mkF, argsToLocals, Value.category, maxLocals]; done) | rfl
def Q_own_law (Z : State) (p1 : Int64) (p2 : Int64) (p3 : Int64) (p4 : Int64) (p5 : Int32) (h0 : Heap) (n0 : Nat) (v : Option Value) (h : Heap) (L : List Loc) : Prop := v = some (.int 1) ∧ Fr n0 L
def G_own_law (Z : State) (p1 : Int64) (p2 : Int64) (p3 : Int64) (p4 : Int64) (p5 : Int32) (h0 : Heap) (n0 : Nat) (s : State) : Outcome → State → Prop := fun o U' => ∃ v L, o = .returned v ∧ Q_own_law Z p1 p2 p3 p4 p5 h0 n0 v U'.heap L ∧ FrameEnd s o U' L room_1.cells room_1.slots
theorem own_pd1 : parseMethodDescriptor "(JJJJ)I" = some ⟨[.long, .long, .long, .long], some .int⟩ := by decide +kernel
theorem own_pd2 : parseMethodDescriptor "(I)I" = some ⟨[.int], some .int⟩ := by decide +kernel
set_option maxRecDepth 65536 in
set_option maxHeartbeats 40000000 in
theorem own_law (l : Launch) (Z : State) (a0 : Array Value) (hw : ∀ d ∈ tables_1, d.before a0 Z = true) (ws : List Jvm.Cond) (p1 : Int64) (p2 : Int64) (p3 : Int64) (p4 : Int64) (p5 : Int32) (h0 : Heap) (n0 : Nat) (Z0 : n0 ≤ h0.size)  :
    MetFree l x (head1 (Jvm.Cond.code x code maxLocals ret :: ws) room_1) (fun a U => a = #[(.long p1), (.long p2), (.long p3), (.long p4), (.int p5)] ∧ Z.Warmed39 U.vm ∧ U.heap = h0) (fun _ _ _ _ _ => True) (fun _ U o U' => ∃ v L, o = .returned v ∧ Q_own_law Z p1 p2 p3 p4 p5 h0 n0 v U'.heap L ∧ FrameEnd U o U' L room_1.cells room_1.slots) := by
  refine MetFree.of_bodySF (plainFor_of_name own_pn0) hisR ?_
  intro p e s m args below meth c s₁ Bd hml0 hP hK
  obtain ⟨rfl, hZ, hh⟩ := hP
  have hx := Bd.exec
  have hby := Bd.bytes
  have hml : c.maxLocals = 12 := hml0
  have hown : s.vm.findClass "com/example/beltline/beltline/MessageQueueCompareDuePinLaw" = some m.cls := findClass_of_methodNamed Bd.named
  have hnm := (name_of_methodNamed Bd.named Bd.method).1
  have X0 : Stand p l e room_1 s m #[(.long p1), (.long p2), (.long p3), (.long p4), (.int p5)] below meth c s₁ [] 0 0 := Stand.of_body Bd
  have e0 : s₁.heap = h0 := by rw [← hh, Bd.state]; rfl
  have N0 := Fr.nil n0
  refine own_go (S := s₁.setTop (entryFrame m #[(.long p1), (.long p2), (.long p3), (.long p4), (.int p5)] maxLocals)) (Q := (G_own_law Z p1 p2 p3 p4 p5 h0 n0 s)) (fun _ k => castTop (own_ef_own_law m p1 p2 p3 p4 p5) k) ?_
  show own_Goes p e below (s₁.setTop (mkF m 0 #[.val (.long p1), .second, .val (.long p2), .second, .val (.long p3), .second, .val (.long p4), .second, .val (.int p5), .unset, .unset, .unset] [])) (G_own_law Z p1 p2 p3 p4 p5 h0 n0 s)
  refine own_join (P := fun q3 : Int64 => True) (F := fun q3 => s₁.setTop (mkF m 10 #[.val (.long p1), .second, .val (.long p2), .second, .val (.long q3), .second, .val (.long p4), .second, .val (.int p5), .unset, .unset, .unset] [])) ?_ ?_
  · intro q3 h_q3
    show own_Goes p e below (s₁.setTop (mkF m 10 #[.val (.long p1), .second, .val (.long p2), .second, .val (.long q3), .second, .val (.long p4), .second, .val (.int p5), .unset, .unset, .unset] [])) (G_own_law Z p1 p2 p3 p4 p5 h0 n0 s)
    refine own_join (P := fun q4 : Int64 => True) (F := fun q4 => s₁.setTop (mkF m 20 #[.val (.long p1), .second, .val (.long p2), .second, .val (.long q3), .second, .val (.long q4), .second, .val (.int p5), .unset, .unset, .unset] [])) ?_ ?_
    · intro q4 h_q4
      show own_Goes p e below (s₁.setTop (mkF m 20 #[.val (.long p1), .second, .val (.long p2), .second, .val (.long q3), .second, .val (.long q4), .second, .val (.int p5), .unset, .unset, .unset] [])) (G_own_law Z p1 p2 p3 p4 p5 h0 n0 s)
      refine own_go (fun _ k => XS.lloadN X0.here hx rfl (hb hby at_20) rfl k) ?_
      show own_Goes p e below (s₁.setTop (mkF m 21 #[.val (.long p1), .second, .val (.long p2), .second, .val (.long q3), .second, .val (.long q4), .second, .val (.int p5), .unset, .unset, .unset] [(.long p1)])) (G_own_law Z p1 p2 p3 p4 p5 h0 n0 s)
      refine own_go (fun _ k => XS.lloadN X0.here hx rfl (hb hby at_21) rfl k) ?_
      show own_Goes p e below (s₁.setTop (mkF m 22 #[.val (.long p1), .second, .val (.long p2), .second, .val (.long q3), .second, .val (.long q4), .second, .val (.int p5), .unset, .unset, .unset] [(.long p2), (.long p1)])) (G_own_law Z p1 p2 p3 p4 p5 h0 n0 s)
      refine own_go (fun _ k => XS.lload X0.here hx rfl (hb hby at_22) rfl k) ?_
      show own_Goes p e below (s₁.setTop (mkF m 24 #[.val (.long p1), .second, .val (.long p2), .second, .val (.long q3), .second, .val (.long q4), .second, .val (.int p5), .unset, .unset, .unset] [(.long q3), (.long p2), (.long p1)])) (G_own_law Z p1 p2 p3 p4 p5 h0 n0 s)
      refine own_go (fun _ k => XS.lload X0.here hx rfl (hb hby at_24) rfl k) ?_
      show own_Goes p e below (s₁.setTop (mkF m 26 #[.val (.long p1), .second, .val (.long p2), .second, .val (.long q3), .second, .val (.long q4), .second, .val (.int p5), .unset, .unset, .unset] [(.long q4), (.long q3), (.long p2), (.long p1)])) (G_own_law Z p1 p2 p3 p4 p5 h0 n0 s)
      obtain ⟨_, _, ⟨T10, L10, k10, n10⟩, -, X10, ⟨Lc10, hQ10, l10, y10, z10⟩, st10⟩ := Jvm.LawKit.callS X0 hx (y := (⟨"com/example/beltline/beltline/MessageQueue", "compareDue", "(JJJJ)I"⟩ : MethodName)) hown (mvT hZ (hw _ (List.mem_of_getElem? (i := 0) rfl))) (mvT hZ (hw _ (List.mem_of_getElem? (i := 1) rfl))) (mvT hZ (hw _ (List.mem_of_getElem? (i := 2) rfl))) (mvT hZ (hw _ (List.mem_of_getElem? (i := 3) rfl))) (by decide) (backOf (W := 0) (own_dueM l Z a0 hw [] p1 p2 q3 q4 h0 n0 Z0 ) hZ (hw _ (List.mem_of_getElem? (i := 3) rfl)) (hw _ (List.mem_of_getElem? (i := 2) rfl)) (by decide) (by decide)) (g := (mkF m 26 #[.val (.long p1), .second, .val (.long p2), .second, .val (.long q3), .second, .val (.long q4), .second, .val (.int p5), .unset, .unset, .unset] [(.long q4), (.long q3), (.long p2), (.long p1)])) rfl (by rw [hml]; rfl) (argsL := [(.long p1), (.long p2), (.long q3), (.long q4)]) (rest := []) (lenOf own_pd1 rfl) rfl (by show 2 * 0 + _ ≤ _; exact Nat.le_of_eq rfl) (hb hby at_26) (fun _ _ => ⟨rfl, e0, (by decide : 0 + 0 ≤ _), (by decide : 0 + 0 ≤ _)⟩)
      dsimp only [Pt.U, Pt.locs, Pt.cells, Pt.slots] at X10 l10 y10 z10 st10 hQ10
      subst l10 y10 z10
      obtain ⟨rfl, N10q, e10⟩ := hQ10
      have N10 := Fr.app N0 N10q
      refine own_go st10 ?_
      show own_Goes p e below (T10.setTop (mkF m 29 #[.val (.long p1), .second, .val (.long p2), .second, .val (.long q3), .second, .val (.long q4), .second, .val (.int p5), .unset, .unset, .unset] [(.int (own_due p1 p2 q3 q4))])) (G_own_law Z p1 p2 p3 p4 p5 h0 n0 s)
      refine own_go (fun _ k => XS.istore X10.here hx rfl (hb hby at_29) rfl (l' := #[.val (.long p1), .second, .val (.long p2), .second, .val (.long q3), .second, .val (.long q4), .second, .val (.int p5), .val (.int (own_due p1 p2 q3 q4)), .unset, .unset]) rfl k) ?_
      show own_Goes p e below (T10.setTop (mkF m 31 #[.val (.long p1), .second, .val (.long p2), .second, .val (.long q3), .second, .val (.long q4), .second, .val (.int p5), .val (.int (own_due p1 p2 q3 q4)), .unset, .unset] [])) (G_own_law Z p1 p2 p3 p4 p5 h0 n0 s)
      refine own_go (fun _ k => XS.lload X10.here hx rfl (hb hby at_31) rfl k) ?_
      show own_Goes p e below (T10.setTop (mkF m 33 #[.val (.long p1), .second, .val (.long p2), .second, .val (.long q3), .second, .val (.long q4), .second, .val (.int p5), .val (.int (own_due p1 p2 q3 q4)), .unset, .unset] [(.long q3)])) (G_own_law Z p1 p2 p3 p4 p5 h0 n0 s)
      refine own_go (fun _ k => XS.lload X10.here hx rfl (hb hby at_33) rfl k) ?_
      show own_Goes p e below (T10.setTop (mkF m 35 #[.val (.long p1), .second, .val (.long p2), .second, .val (.long q3), .second, .val (.long q4), .second, .val (.int p5), .val (.int (own_due p1 p2 q3 q4)), .unset, .unset] [(.long q4), (.long q3)])) (G_own_law Z p1 p2 p3 p4 p5 h0 n0 s)
      refine own_go (fun _ k => XS.lloadN X10.here hx rfl (hb hby at_35) rfl k) ?_
      show own_Goes p e below (T10.setTop (mkF m 36 #[.val (.long p1), .second, .val (.long p2), .second, .val (.long q3), .second, .val (.long q4), .second, .val (.int p5), .val (.int (own_due p1 p2 q3 q4)), .unset, .unset] [(.long p1), (.long q4), (.long q3)])) (G_own_law Z p1 p2 p3 p4 p5 h0 n0 s)
      refine own_go (fun _ k => XS.lloadN X10.here hx rfl (hb hby at_36) rfl k) ?_
      show own_Goes p e below (T10.setTop (mkF m 37 #[.val (.long p1), .second, .val (.long p2), .second, .val (.long q3), .second, .val (.long q4), .second, .val (.int p5), .val (.int (own_due p1 p2 q3 q4)), .unset, .unset] [(.long p2), (.long p1), (.long q4), (.long q3)])) (G_own_law Z p1 p2 p3 p4 p5 h0 n0 s)
      obtain ⟨_, _, ⟨T11, L11, k11, n11⟩, -, X11, ⟨Lc11, hQ11, l11, y11, z11⟩, st11⟩ := Jvm.LawKit.callS X10 hx (y := (⟨"com/example/beltline/beltline/MessageQueue", "compareDue", "(JJJJ)I"⟩ : MethodName)) hown (mvT hZ (hw _ (List.mem_of_getElem? (i := 0) rfl))) (mvT hZ (hw _ (List.mem_of_getElem? (i := 1) rfl))) (mvT hZ (hw _ (List.mem_of_getElem? (i := 2) rfl))) (mvT hZ (hw _ (List.mem_of_getElem? (i := 3) rfl))) (by decide) (backOf (W := 0) (own_dueM l Z a0 hw [] q3 q4 p1 p2 h0 n0 Z0 ) hZ (hw _ (List.mem_of_getElem? (i := 3) rfl)) (hw _ (List.mem_of_getElem? (i := 2) rfl)) (by decide) (by decide)) (g := (mkF m 37 #[.val (.long p1), .second, .val (.long p2), .second, .val (.long q3), .second, .val (.long q4), .second, .val (.int p5), .val (.int (own_due p1 p2 q3 q4)), .unset, .unset] [(.long p2), (.long p1), (.long q4), (.long q3)])) rfl (by rw [hml]; rfl) (argsL := [(.long q3), (.long q4), (.long p1), (.long p2)]) (rest := []) (lenOf own_pd1 rfl) rfl (by show 2 * 0 + _ ≤ _; exact Nat.le_of_eq rfl) (hb hby at_37) (fun _ _ => ⟨rfl, e10, (by decide : 0 + 0 ≤ _), (by decide : 0 + 0 ≤ _)⟩)
      dsimp only [Pt.U, Pt.locs, Pt.cells, Pt.slots] at X11 l11 y11 z11 st11 hQ11
      subst l11 y11 z11
      obtain ⟨rfl, N11q, e11⟩ := hQ11
      have N11 := Fr.app N10 N11q
      refine own_go st11 ?_
      show own_Goes p e below (T11.setTop (mkF m 40 #[.val (.long p1), .second, .val (.long p2), .second, .val (.long q3), .second, .val (.long q4), .second, .val (.int p5), .val (.int (own_due p1 p2 q3 q4)), .unset, .unset] [(.int (own_due q3 q4 p1 p2))])) (G_own_law Z p1 p2 p3 p4 p5 h0 n0 s)
      refine own_go (fun _ k => XS.istore X11.here hx rfl (hb hby at_40) rfl (l' := #[.val (.long p1), .second, .val (.long p2), .second, .val (.long q3), .second, .val (.long q4), .second, .val (.int p5), .val (.int (own_due p1 p2 q3 q4)), .val (.int (own_due q3 q4 p1 p2)), .unset]) rfl k) ?_
      show own_Goes p e below (T11.setTop (mkF m 42 #[.val (.long p1), .second, .val (.long p2), .second, .val (.long q3), .second, .val (.long q4), .second, .val (.int p5), .val (.int (own_due p1 p2 q3 q4)), .val (.int (own_due q3 q4 p1 p2)), .unset] [])) (G_own_law Z p1 p2 p3 p4 p5 h0 n0 s)
      refine own_join (P := fun ex : Int32 => ex = own_ex p1 p2 q3 q4) (F := fun ex => T11.setTop (mkF m 97 #[.val (.long p1), .second, .val (.long p2), .second, .val (.long q3), .second, .val (.long q4), .second, .val (.int p5), .val (.int (own_due p1 p2 q3 q4)), .val (.int (own_due q3 q4 p1 p2)), .val (.int ex)] [])) ?_ ?_
      · intro ex h_ex
        show own_Goes p e below (T11.setTop (mkF m 97 #[.val (.long p1), .second, .val (.long p2), .second, .val (.long q3), .second, .val (.long q4), .second, .val (.int p5), .val (.int (own_due p1 p2 q3 q4)), .val (.int (own_due q3 q4 p1 p2)), .val (.int ex)] [])) (G_own_law Z p1 p2 p3 p4 p5 h0 n0 s)
        refine own_go (fun _ k => XS.iload X11.here hx rfl (hb hby at_97) rfl k) ?_
        show own_Goes p e below (T11.setTop (mkF m 99 #[.val (.long p1), .second, .val (.long p2), .second, .val (.long q3), .second, .val (.long q4), .second, .val (.int p5), .val (.int (own_due p1 p2 q3 q4)), .val (.int (own_due q3 q4 p1 p2)), .val (.int ex)] [(.int (own_due p1 p2 q3 q4))])) (G_own_law Z p1 p2 p3 p4 p5 h0 n0 s)
        obtain ⟨_, _, ⟨T13, L13, k13, n13⟩, -, X13, ⟨Lc13, hQ13, l13, y13, z13⟩, st13⟩ := Jvm.LawKit.callS X11 hx (y := (⟨"com/example/beltline/beltline/MessageQueueCompareDuePinLaw", "sign", "(I)I"⟩ : MethodName)) hown (mvT hZ (hw _ (List.mem_of_getElem? (i := 8) rfl))) (mvT hZ (hw _ (List.mem_of_getElem? (i := 9) rfl))) (mvT hZ (hw _ (List.mem_of_getElem? (i := 10) rfl))) (mvT hZ (hw _ (List.mem_of_getElem? (i := 11) rfl))) (by decide) (backOf (W := 0) (own_sgM l Z a0 hw [] (own_due p1 p2 q3 q4) h0 n0 Z0 ) hZ (hw _ (List.mem_of_getElem? (i := 11) rfl)) (hw _ (List.mem_of_getElem? (i := 10) rfl)) (by decide) (by decide)) (g := (mkF m 99 #[.val (.long p1), .second, .val (.long p2), .second, .val (.long q3), .second, .val (.long q4), .second, .val (.int p5), .val (.int (own_due p1 p2 q3 q4)), .val (.int (own_due q3 q4 p1 p2)), .val (.int ex)] [(.int (own_due p1 p2 q3 q4))])) rfl (by rw [hml]; rfl) (argsL := [(.int (own_due p1 p2 q3 q4))]) (rest := []) (lenOf own_pd2 rfl) rfl (by show 2 * 0 + _ ≤ _; exact Nat.le_of_eq rfl) (hb hby at_99) (fun _ _ => ⟨rfl, e11, (by decide : 0 + 0 ≤ _), (by decide : 0 + 0 ≤ _)⟩)
        dsimp only [Pt.U, Pt.locs, Pt.cells, Pt.slots] at X13 l13 y13 z13 st13 hQ13
        subst l13 y13 z13
        obtain ⟨rfl, N13q, e13⟩ := hQ13
        have N13 := Fr.app N11 N13q
        refine own_go st13 ?_
        show own_Goes p e below (T13.setTop (mkF m 102 #[.val (.long p1), .second, .val (.long p2), .second, .val (.long q3), .second, .val (.long q4), .second, .val (.int p5), .val (.int (own_due p1 p2 q3 q4)), .val (.int (own_due q3 q4 p1 p2)), .val (.int ex)] [(.int (own_sg (own_due p1 p2 q3 q4)))])) (G_own_law Z p1 p2 p3 p4 p5 h0 n0 s)
        refine own_go (fun _ k => XS.iload X13.here hx rfl (hb hby at_102) rfl k) ?_
        show own_Goes p e below (T13.setTop (mkF m 104 #[.val (.long p1), .second, .val (.long p2), .second, .val (.long q3), .second, .val (.long q4), .second, .val (.int p5), .val (.int (own_due p1 p2 q3 q4)), .val (.int (own_due q3 q4 p1 p2)), .val (.int ex)] [(.int ex), (.int (own_sg (own_due p1 p2 q3 q4)))])) (G_own_law Z p1 p2 p3 p4 p5 h0 n0 s)
        refine own_go (fun _ k => XS.icmpNo X13.here hx rfl (hb hby at_104) rfl (XT.ii_ne_f ((own_l1 p1 p2 q3 q4).trans h_ex.symm)) k) ?_
        show own_Goes p e below (T13.setTop (mkF m 107 #[.val (.long p1), .second, .val (.long p2), .second, .val (.long q3), .second, .val (.long q4), .second, .val (.int p5), .val (.int (own_due p1 p2 q3 q4)), .val (.int (own_due q3 q4 p1 p2)), .val (.int ex)] [])) (G_own_law Z p1 p2 p3 p4 p5 h0 n0 s)
        refine own_go (fun _ k => XS.iload X13.here hx rfl (hb hby at_107) rfl k) ?_
        show own_Goes p e below (T13.setTop (mkF m 109 #[.val (.long p1), .second, .val (.long p2), .second, .val (.long q3), .second, .val (.long q4), .second, .val (.int p5), .val (.int (own_due p1 p2 q3 q4)), .val (.int (own_due q3 q4 p1 p2)), .val (.int ex)] [(.int (own_due q3 q4 p1 p2))])) (G_own_law Z p1 p2 p3 p4 p5 h0 n0 s)
        obtain ⟨_, _, ⟨T14, L14, k14, n14⟩, -, X14, ⟨Lc14, hQ14, l14, y14, z14⟩, st14⟩ := Jvm.LawKit.callS X13 hx (y := (⟨"com/example/beltline/beltline/MessageQueueCompareDuePinLaw", "sign", "(I)I"⟩ : MethodName)) hown (mvT hZ (hw _ (List.mem_of_getElem? (i := 8) rfl))) (mvT hZ (hw _ (List.mem_of_getElem? (i := 9) rfl))) (mvT hZ (hw _ (List.mem_of_getElem? (i := 10) rfl))) (mvT hZ (hw _ (List.mem_of_getElem? (i := 11) rfl))) (by decide) (backOf (W := 0) (own_sgM l Z a0 hw [] (own_due q3 q4 p1 p2) h0 n0 Z0 ) hZ (hw _ (List.mem_of_getElem? (i := 11) rfl)) (hw _ (List.mem_of_getElem? (i := 10) rfl)) (by decide) (by decide)) (g := (mkF m 109 #[.val (.long p1), .second, .val (.long p2), .second, .val (.long q3), .second, .val (.long q4), .second, .val (.int p5), .val (.int (own_due p1 p2 q3 q4)), .val (.int (own_due q3 q4 p1 p2)), .val (.int ex)] [(.int (own_due q3 q4 p1 p2))])) rfl (by rw [hml]; rfl) (argsL := [(.int (own_due q3 q4 p1 p2))]) (rest := []) (lenOf own_pd2 rfl) rfl (by show 2 * 0 + _ ≤ _; exact Nat.le_of_eq rfl) (hb hby at_109) (fun _ _ => ⟨rfl, e13, (by decide : 0 + 0 ≤ _), (by decide : 0 + 0 ≤ _)⟩)
        dsimp only [Pt.U, Pt.locs, Pt.cells, Pt.slots] at X14 l14 y14 z14 st14 hQ14
        subst l14 y14 z14
        obtain ⟨rfl, N14q, e14⟩ := hQ14
        have N14 := Fr.app N13 N14q
        refine own_go st14 ?_
        show own_Goes p e below (T14.setTop (mkF m 112 #[.val (.long p1), .second, .val (.long p2), .second, .val (.long q3), .second, .val (.long q4), .second, .val (.int p5), .val (.int (own_due p1 p2 q3 q4)), .val (.int (own_due q3 q4 p1 p2)), .val (.int ex)] [(.int (own_sg (own_due q3 q4 p1 p2)))])) (G_own_law Z p1 p2 p3 p4 p5 h0 n0 s)
        refine own_go (fun _ k => XS.iload X14.here hx rfl (hb hby at_112) rfl k) ?_
        show own_Goes p e below (T14.setTop (mkF m 114 #[.val (.long p1), .second, .val (.long p2), .second, .val (.long q3), .second, .val (.long q4), .second, .val (.int p5), .val (.int (own_due p1 p2 q3 q4)), .val (.int (own_due q3 q4 p1 p2)), .val (.int ex)] [(.int ex), (.int (own_sg (own_due q3 q4 p1 p2)))])) (G_own_law Z p1 p2 p3 p4 p5 h0 n0 s)
        refine own_go (fun _ k => XS.ineg X14.here hx rfl (hb hby at_114) rfl k) ?_
        show own_Goes p e below (T14.setTop (mkF m 115 #[.val (.long p1), .second, .val (.long p2), .second, .val (.long q3), .second, .val (.long q4), .second, .val (.int p5), .val (.int (own_due p1 p2 q3 q4)), .val (.int (own_due q3 q4 p1 p2)), .val (.int ex)] [(.int (-ex)), (.int (own_sg (own_due q3 q4 p1 p2)))])) (G_own_law Z p1 p2 p3 p4 p5 h0 n0 s)
        refine own_go (fun _ k => XS.icmpNo X14.here hx rfl (hb hby at_115) rfl (XT.ii_ne_f (by rw [h_ex]; exact own_l2 p1 p2 q3 q4)) k) ?_
        show own_Goes p e below (T14.setTop (mkF m 118 #[.val (.long p1), .second, .val (.long p2), .second, .val (.long q3), .second, .val (.long q4), .second, .val (.int p5), .val (.int (own_due p1 p2 q3 q4)), .val (.int (own_due q3 q4 p1 p2)), .val (.int ex)] [])) (G_own_law Z p1 p2 p3 p4 p5 h0 n0 s)
        refine own_go (fun _ k => XS.iconst X14.here hx rfl (hb hby at_118) k) ?_
        show own_Goes p e below (T14.setTop (mkF m 119 #[.val (.long p1), .second, .val (.long p2), .second, .val (.long q3), .second, .val (.long q4), .second, .val (.int p5), .val (.int (own_due p1 p2 q3 q4)), .val (.int (own_due q3 q4 p1 p2)), .val (.int ex)] [(.int (1 : Int32))])) (G_own_law Z p1 p2 p3 p4 p5 h0 n0 s)
        refine own_go (fun _ k => XS.goto X14.here hx rfl (pc0 := 119) (pc' := 123) rfl (hb hby at_119) (by decide) (by decide) k) ?_
        show own_Goes p e below (T14.setTop (mkF m 123 #[.val (.long p1), .second, .val (.long p2), .second, .val (.long q3), .second, .val (.long q4), .second, .val (.int p5), .val (.int (own_due p1 p2 q3 q4)), .val (.int (own_due q3 q4 p1 p2)), .val (.int ex)] [(.int (1 : Int32))])) (G_own_law Z p1 p2 p3 p4 p5 h0 n0 s)
        obtain ⟨fs, hr, hrun, hended, hW, hsame⟩ := X14.leave (v := some (.int (1 : Int32))) (fun h => by rw [Bd.returns] at h; cases h)
        refine ⟨_, _, retN X14 hx (t := .boolean) Bd.returns (by simp) (hb hby at_123) hr, hrun, hended, _, _, rfl, ?_, ⟨_, rfl⟩, hW, hsame.mono (by decide) (by decide)⟩
        show Q_own_law Z p1 p2 p3 p4 p5 h0 n0 _ T14.heap _
        rw [e14]
        exact ⟨rfl, N14⟩
      · intro J97_12
        refine own_go (fun _ k => XS.lloadN X11.here hx rfl (hb hby at_42) rfl k) ?_
        show own_Goes p e below (T11.setTop (mkF m 43 #[.val (.long p1), .second, .val (.long p2), .second, .val (.long q3), .second, .val (.long q4), .second, .val (.int p5), .val (.int (own_due p1 p2 q3 q4)), .val (.int (own_due q3 q4 p1 p2)), .unset] [(.long p1)])) (G_own_law Z p1 p2 p3 p4 p5 h0 n0 s)
        refine own_go (fun _ k => XS.lload X11.here hx rfl (hb hby at_43) rfl k) ?_
        show own_Goes p e below (T11.setTop (mkF m 45 #[.val (.long p1), .second, .val (.long p2), .second, .val (.long q3), .second, .val (.long q4), .second, .val (.int p5), .val (.int (own_due p1 p2 q3 q4)), .val (.int (own_due q3 q4 p1 p2)), .unset] [(.long q3), (.long p1)])) (G_own_law Z p1 p2 p3 p4 p5 h0 n0 s)
        refine own_go (fun _ k => XT.lcmp X11.here hx rfl (hb hby at_45) rfl k) ?_
        show own_Goes p e below (T11.setTop (mkF m 46 #[.val (.long p1), .second, .val (.long p2), .second, .val (.long q3), .second, .val (.long q4), .second, .val (.int p5), .val (.int (own_due p1 p2 q3 q4)), .val (.int (own_due q3 q4 p1 p2)), .unset] [(.int (XT.cmpL p1 q3))])) (G_own_law Z p1 p2 p3 p4 p5 h0 n0 s)
        by_cases hc46_15 : p1 < q3
        · refine own_go (fun _ k => XS.ifNo X11.here hx rfl (hb hby at_46) rfl (XT.ll_ge_f hc46_15) k) ?_
          show own_Goes p e below (T11.setTop (mkF m 49 #[.val (.long p1), .second, .val (.long p2), .second, .val (.long q3), .second, .val (.long q4), .second, .val (.int p5), .val (.int (own_due p1 p2 q3 q4)), .val (.int (own_due q3 q4 p1 p2)), .unset] [])) (G_own_law Z p1 p2 p3 p4 p5 h0 n0 s)
          refine own_go (fun _ k => XS.iconst X11.here hx rfl (hb hby at_49) k) ?_
          show own_Goes p e below (T11.setTop (mkF m 50 #[.val (.long p1), .second, .val (.long p2), .second, .val (.long q3), .second, .val (.long q4), .second, .val (.int p5), .val (.int (own_due p1 p2 q3 q4)), .val (.int (own_due q3 q4 p1 p2)), .unset] [(.int (-1 : Int32))])) (G_own_law Z p1 p2 p3 p4 p5 h0 n0 s)
          refine own_go (fun _ k => XS.istore X11.here hx rfl (hb hby at_50) rfl (l' := #[.val (.long p1), .second, .val (.long p2), .second, .val (.long q3), .second, .val (.long q4), .second, .val (.int p5), .val (.int (own_due p1 p2 q3 q4)), .val (.int (own_due q3 q4 p1 p2)), .val (.int (-1 : Int32))]) rfl k) ?_
          show own_Goes p e below (T11.setTop (mkF m 52 #[.val (.long p1), .second, .val (.long p2), .second, .val (.long q3), .second, .val (.long q4), .second, .val (.int p5), .val (.int (own_due p1 p2 q3 q4)), .val (.int (own_due q3 q4 p1 p2)), .val (.int (-1 : Int32))] [])) (G_own_law Z p1 p2 p3 p4 p5 h0 n0 s)
          refine own_go (fun _ k => XS.goto X11.here hx rfl (pc0 := 52) (pc' := 97) rfl (hb hby at_52) (by decide) (by decide) k) ?_
          show own_Goes p e below (T11.setTop (mkF m 97 #[.val (.long p1), .second, .val (.long p2), .second, .val (.long q3), .second, .val (.long q4), .second, .val (.int p5), .val (.int (own_due p1 p2 q3 q4)), .val (.int (own_due q3 q4 p1 p2)), .val (.int (-1 : Int32))] [])) (G_own_law Z p1 p2 p3 p4 p5 h0 n0 s)
          exact J97_12 _ (by simp [own_ex, hc46_15])
        · refine own_go (fun _ k => XS.ifYes X11.here hx rfl (pc0 := 46) (pc' := 55) rfl (hb hby at_46) rfl (XT.ll_ge_t hc46_15) (by decide) (by decide) k) ?_
          show own_Goes p e below (T11.setTop (mkF m 55 #[.val (.long p1), .second, .val (.long p2), .second, .val (.long q3), .second, .val (.long q4), .second, .val (.int p5), .val (.int (own_due p1 p2 q3 q4)), .val (.int (own_due q3 q4 p1 p2)), .unset] [])) (G_own_law Z p1 p2 p3 p4 p5 h0 n0 s)
          refine own_go (fun _ k => XS.lloadN X11.here hx rfl (hb hby at_55) rfl k) ?_
          show own_Goes p e below (T11.setTop (mkF m 56 #[.val (.long p1), .second, .val (.long p2), .second, .val (.long q3), .second, .val (.long q4), .second, .val (.int p5), .val (.int (own_due p1 p2 q3 q4)), .val (.int (own_due q3 q4 p1 p2)), .unset] [(.long p1)])) (G_own_law Z p1 p2 p3 p4 p5 h0 n0 s)
          refine own_go (fun _ k => XS.lload X11.here hx rfl (hb hby at_56) rfl k) ?_
          show own_Goes p e below (T11.setTop (mkF m 58 #[.val (.long p1), .second, .val (.long p2), .second, .val (.long q3), .second, .val (.long q4), .second, .val (.int p5), .val (.int (own_due p1 p2 q3 q4)), .val (.int (own_due q3 q4 p1 p2)), .unset] [(.long q3), (.long p1)])) (G_own_law Z p1 p2 p3 p4 p5 h0 n0 s)
          refine own_go (fun _ k => XT.lcmp X11.here hx rfl (hb hby at_58) rfl k) ?_
          show own_Goes p e below (T11.setTop (mkF m 59 #[.val (.long p1), .second, .val (.long p2), .second, .val (.long q3), .second, .val (.long q4), .second, .val (.int p5), .val (.int (own_due p1 p2 q3 q4)), .val (.int (own_due q3 q4 p1 p2)), .unset] [(.int (XT.cmpL p1 q3))])) (G_own_law Z p1 p2 p3 p4 p5 h0 n0 s)
          by_cases hc59_16 : q3 < p1
          · refine own_go (fun _ k => XS.ifNo X11.here hx rfl (hb hby at_59) rfl (XT.ll_le_f hc59_16) k) ?_
            show own_Goes p e below (T11.setTop (mkF m 62 #[.val (.long p1), .second, .val (.long p2), .second, .val (.long q3), .second, .val (.long q4), .second, .val (.int p5), .val (.int (own_due p1 p2 q3 q4)), .val (.int (own_due q3 q4 p1 p2)), .unset] [])) (G_own_law Z p1 p2 p3 p4 p5 h0 n0 s)
            refine own_go (fun _ k => XS.iconst X11.here hx rfl (hb hby at_62) k) ?_
            show own_Goes p e below (T11.setTop (mkF m 63 #[.val (.long p1), .second, .val (.long p2), .second, .val (.long q3), .second, .val (.long q4), .second, .val (.int p5), .val (.int (own_due p1 p2 q3 q4)), .val (.int (own_due q3 q4 p1 p2)), .unset] [(.int (1 : Int32))])) (G_own_law Z p1 p2 p3 p4 p5 h0 n0 s)
            refine own_go (fun _ k => XS.istore X11.here hx rfl (hb hby at_63) rfl (l' := #[.val (.long p1), .second, .val (.long p2), .second, .val (.long q3), .second, .val (.long q4), .second, .val (.int p5), .val (.int (own_due p1 p2 q3 q4)), .val (.int (own_due q3 q4 p1 p2)), .val (.int (1 : Int32))]) rfl k) ?_
            show own_Goes p e below (T11.setTop (mkF m 65 #[.val (.long p1), .second, .val (.long p2), .second, .val (.long q3), .second, .val (.long q4), .second, .val (.int p5), .val (.int (own_due p1 p2 q3 q4)), .val (.int (own_due q3 q4 p1 p2)), .val (.int (1 : Int32))] [])) (G_own_law Z p1 p2 p3 p4 p5 h0 n0 s)
            refine own_go (fun _ k => XS.goto X11.here hx rfl (pc0 := 65) (pc' := 97) rfl (hb hby at_65) (by decide) (by decide) k) ?_
            show own_Goes p e below (T11.setTop (mkF m 97 #[.val (.long p1), .second, .val (.long p2), .second, .val (.long q3), .second, .val (.long q4), .second, .val (.int p5), .val (.int (own_due p1 p2 q3 q4)), .val (.int (own_due q3 q4 p1 p2)), .val (.int (1 : Int32))] [])) (G_own_law Z p1 p2 p3 p4 p5 h0 n0 s)
            exact J97_12 _ (by simp [own_ex, hc46_15, hc59_16])
          · refine own_go (fun _ k => XS.ifYes X11.here hx rfl (pc0 := 59) (pc' := 68) rfl (hb hby at_59) rfl (XT.ll_le_t hc59_16) (by decide) (by decide) k) ?_
            show own_Goes p e below (T11.setTop (mkF m 68 #[.val (.long p1), .second, .val (.long p2), .second, .val (.long q3), .second, .val (.long q4), .second, .val (.int p5), .val (.int (own_due p1 p2 q3 q4)), .val (.int (own_due q3 q4 p1 p2)), .unset] [])) (G_own_law Z p1 p2 p3 p4 p5 h0 n0 s)
            refine own_go (fun _ k => XS.lloadN X11.here hx rfl (hb hby at_68) rfl k) ?_
            show own_Goes p e below (T11.setTop (mkF m 69 #[.val (.long p1), .second, .val (.long p2), .second, .val (.long q3), .second, .val (.long q4), .second, .val (.int p5), .val (.int (own_due p1 p2 q3 q4)), .val (.int (own_due q3 q4 p1 p2)), .unset] [(.long p2)])) (G_own_law Z p1 p2 p3 p4 p5 h0 n0 s)
            refine own_go (fun _ k => XS.lload X11.here hx rfl (hb hby at_69) rfl k) ?_
            show own_Goes p e below (T11.setTop (mkF m 71 #[.val (.long p1), .second, .val (.long p2), .second, .val (.long q3), .second, .val (.long q4), .second, .val (.int p5), .val (.int (own_due p1 p2 q3 q4)), .val (.int (own_due q3 q4 p1 p2)), .unset] [(.long q4), (.long p2)])) (G_own_law Z p1 p2 p3 p4 p5 h0 n0 s)
            refine own_go (fun _ k => XT.lcmp X11.here hx rfl (hb hby at_71) rfl k) ?_
            show own_Goes p e below (T11.setTop (mkF m 72 #[.val (.long p1), .second, .val (.long p2), .second, .val (.long q3), .second, .val (.long q4), .second, .val (.int p5), .val (.int (own_due p1 p2 q3 q4)), .val (.int (own_due q3 q4 p1 p2)), .unset] [(.int (XT.cmpL p2 q4))])) (G_own_law Z p1 p2 p3 p4 p5 h0 n0 s)
            by_cases hc72_17 : p2 < q4
            · refine own_go (fun _ k => XS.ifNo X11.here hx rfl (hb hby at_72) rfl (XT.ll_ge_f hc72_17) k) ?_
              show own_Goes p e below (T11.setTop (mkF m 75 #[.val (.long p1), .second, .val (.long p2), .second, .val (.long q3), .second, .val (.long q4), .second, .val (.int p5), .val (.int (own_due p1 p2 q3 q4)), .val (.int (own_due q3 q4 p1 p2)), .unset] [])) (G_own_law Z p1 p2 p3 p4 p5 h0 n0 s)
              refine own_go (fun _ k => XS.iconst X11.here hx rfl (hb hby at_75) k) ?_
              show own_Goes p e below (T11.setTop (mkF m 76 #[.val (.long p1), .second, .val (.long p2), .second, .val (.long q3), .second, .val (.long q4), .second, .val (.int p5), .val (.int (own_due p1 p2 q3 q4)), .val (.int (own_due q3 q4 p1 p2)), .unset] [(.int (-1 : Int32))])) (G_own_law Z p1 p2 p3 p4 p5 h0 n0 s)
              refine own_go (fun _ k => XS.istore X11.here hx rfl (hb hby at_76) rfl (l' := #[.val (.long p1), .second, .val (.long p2), .second, .val (.long q3), .second, .val (.long q4), .second, .val (.int p5), .val (.int (own_due p1 p2 q3 q4)), .val (.int (own_due q3 q4 p1 p2)), .val (.int (-1 : Int32))]) rfl k) ?_
              show own_Goes p e below (T11.setTop (mkF m 78 #[.val (.long p1), .second, .val (.long p2), .second, .val (.long q3), .second, .val (.long q4), .second, .val (.int p5), .val (.int (own_due p1 p2 q3 q4)), .val (.int (own_due q3 q4 p1 p2)), .val (.int (-1 : Int32))] [])) (G_own_law Z p1 p2 p3 p4 p5 h0 n0 s)
              refine own_go (fun _ k => XS.goto X11.here hx rfl (pc0 := 78) (pc' := 97) rfl (hb hby at_78) (by decide) (by decide) k) ?_
              show own_Goes p e below (T11.setTop (mkF m 97 #[.val (.long p1), .second, .val (.long p2), .second, .val (.long q3), .second, .val (.long q4), .second, .val (.int p5), .val (.int (own_due p1 p2 q3 q4)), .val (.int (own_due q3 q4 p1 p2)), .val (.int (-1 : Int32))] [])) (G_own_law Z p1 p2 p3 p4 p5 h0 n0 s)
              exact J97_12 _ (by simp [own_ex, hc46_15, hc59_16, hc72_17])
            · refine own_go (fun _ k => XS.ifYes X11.here hx rfl (pc0 := 72) (pc' := 81) rfl (hb hby at_72) rfl (XT.ll_ge_t hc72_17) (by decide) (by decide) k) ?_
              show own_Goes p e below (T11.setTop (mkF m 81 #[.val (.long p1), .second, .val (.long p2), .second, .val (.long q3), .second, .val (.long q4), .second, .val (.int p5), .val (.int (own_due p1 p2 q3 q4)), .val (.int (own_due q3 q4 p1 p2)), .unset] [])) (G_own_law Z p1 p2 p3 p4 p5 h0 n0 s)
              refine own_go (fun _ k => XS.lloadN X11.here hx rfl (hb hby at_81) rfl k) ?_
              show own_Goes p e below (T11.setTop (mkF m 82 #[.val (.long p1), .second, .val (.long p2), .second, .val (.long q3), .second, .val (.long q4), .second, .val (.int p5), .val (.int (own_due p1 p2 q3 q4)), .val (.int (own_due q3 q4 p1 p2)), .unset] [(.long p2)])) (G_own_law Z p1 p2 p3 p4 p5 h0 n0 s)
              refine own_go (fun _ k => XS.lload X11.here hx rfl (hb hby at_82) rfl k) ?_
              show own_Goes p e below (T11.setTop (mkF m 84 #[.val (.long p1), .second, .val (.long p2), .second, .val (.long q3), .second, .val (.long q4), .second, .val (.int p5), .val (.int (own_due p1 p2 q3 q4)), .val (.int (own_due q3 q4 p1 p2)), .unset] [(.long q4), (.long p2)])) (G_own_law Z p1 p2 p3 p4 p5 h0 n0 s)
              refine own_go (fun _ k => XT.lcmp X11.here hx rfl (hb hby at_84) rfl k) ?_
              show own_Goes p e below (T11.setTop (mkF m 85 #[.val (.long p1), .second, .val (.long p2), .second, .val (.long q3), .second, .val (.long q4), .second, .val (.int p5), .val (.int (own_due p1 p2 q3 q4)), .val (.int (own_due q3 q4 p1 p2)), .unset] [(.int (XT.cmpL p2 q4))])) (G_own_law Z p1 p2 p3 p4 p5 h0 n0 s)
              by_cases hc85_18 : q4 < p2
              · refine own_go (fun _ k => XS.ifNo X11.here hx rfl (hb hby at_85) rfl (XT.ll_le_f hc85_18) k) ?_
                show own_Goes p e below (T11.setTop (mkF m 88 #[.val (.long p1), .second, .val (.long p2), .second, .val (.long q3), .second, .val (.long q4), .second, .val (.int p5), .val (.int (own_due p1 p2 q3 q4)), .val (.int (own_due q3 q4 p1 p2)), .unset] [])) (G_own_law Z p1 p2 p3 p4 p5 h0 n0 s)
                refine own_go (fun _ k => XS.iconst X11.here hx rfl (hb hby at_88) k) ?_
                show own_Goes p e below (T11.setTop (mkF m 89 #[.val (.long p1), .second, .val (.long p2), .second, .val (.long q3), .second, .val (.long q4), .second, .val (.int p5), .val (.int (own_due p1 p2 q3 q4)), .val (.int (own_due q3 q4 p1 p2)), .unset] [(.int (1 : Int32))])) (G_own_law Z p1 p2 p3 p4 p5 h0 n0 s)
                refine own_go (fun _ k => XS.istore X11.here hx rfl (hb hby at_89) rfl (l' := #[.val (.long p1), .second, .val (.long p2), .second, .val (.long q3), .second, .val (.long q4), .second, .val (.int p5), .val (.int (own_due p1 p2 q3 q4)), .val (.int (own_due q3 q4 p1 p2)), .val (.int (1 : Int32))]) rfl k) ?_
                show own_Goes p e below (T11.setTop (mkF m 91 #[.val (.long p1), .second, .val (.long p2), .second, .val (.long q3), .second, .val (.long q4), .second, .val (.int p5), .val (.int (own_due p1 p2 q3 q4)), .val (.int (own_due q3 q4 p1 p2)), .val (.int (1 : Int32))] [])) (G_own_law Z p1 p2 p3 p4 p5 h0 n0 s)
                refine own_go (fun _ k => XS.goto X11.here hx rfl (pc0 := 91) (pc' := 97) rfl (hb hby at_91) (by decide) (by decide) k) ?_
                show own_Goes p e below (T11.setTop (mkF m 97 #[.val (.long p1), .second, .val (.long p2), .second, .val (.long q3), .second, .val (.long q4), .second, .val (.int p5), .val (.int (own_due p1 p2 q3 q4)), .val (.int (own_due q3 q4 p1 p2)), .val (.int (1 : Int32))] [])) (G_own_law Z p1 p2 p3 p4 p5 h0 n0 s)
                exact J97_12 _ (by simp [own_ex, hc46_15, hc59_16, hc72_17, hc85_18])
              · refine own_go (fun _ k => XS.ifYes X11.here hx rfl (pc0 := 85) (pc' := 94) rfl (hb hby at_85) rfl (XT.ll_le_t hc85_18) (by decide) (by decide) k) ?_
                show own_Goes p e below (T11.setTop (mkF m 94 #[.val (.long p1), .second, .val (.long p2), .second, .val (.long q3), .second, .val (.long q4), .second, .val (.int p5), .val (.int (own_due p1 p2 q3 q4)), .val (.int (own_due q3 q4 p1 p2)), .unset] [])) (G_own_law Z p1 p2 p3 p4 p5 h0 n0 s)
                refine own_go (fun _ k => XS.iconst X11.here hx rfl (hb hby at_94) k) ?_
                show own_Goes p e below (T11.setTop (mkF m 95 #[.val (.long p1), .second, .val (.long p2), .second, .val (.long q3), .second, .val (.long q4), .second, .val (.int p5), .val (.int (own_due p1 p2 q3 q4)), .val (.int (own_due q3 q4 p1 p2)), .unset] [(.int (0 : Int32))])) (G_own_law Z p1 p2 p3 p4 p5 h0 n0 s)
                refine own_go (fun _ k => XS.istore X11.here hx rfl (hb hby at_95) rfl (l' := #[.val (.long p1), .second, .val (.long p2), .second, .val (.long q3), .second, .val (.long q4), .second, .val (.int p5), .val (.int (own_due p1 p2 q3 q4)), .val (.int (own_due q3 q4 p1 p2)), .val (.int (0 : Int32))]) rfl k) ?_
                show own_Goes p e below (T11.setTop (mkF m 97 #[.val (.long p1), .second, .val (.long p2), .second, .val (.long q3), .second, .val (.long q4), .second, .val (.int p5), .val (.int (own_due p1 p2 q3 q4)), .val (.int (own_due q3 q4 p1 p2)), .val (.int (0 : Int32))] [])) (G_own_law Z p1 p2 p3 p4 p5 h0 n0 s)
                exact J97_12 _ (by simp [own_ex, hc46_15, hc59_16, hc72_17, hc85_18])
    · intro J20_9
      refine own_go (fun _ k => XS.iload X0.here hx rfl (hb hby at_10) rfl k) ?_
      show own_Goes p e below (s₁.setTop (mkF m 12 #[.val (.long p1), .second, .val (.long p2), .second, .val (.long q3), .second, .val (.long p4), .second, .val (.int p5), .unset, .unset, .unset] [(.int p5)])) (G_own_law Z p1 p2 p3 p4 p5 h0 n0 s)
      refine own_go (fun _ k => XS.iconst X0.here hx rfl (hb hby at_12) k) ?_
      show own_Goes p e below (s₁.setTop (mkF m 13 #[.val (.long p1), .second, .val (.long p2), .second, .val (.long q3), .second, .val (.long p4), .second, .val (.int p5), .unset, .unset, .unset] [(.int (2 : Int32)), (.int p5)])) (G_own_law Z p1 p2 p3 p4 p5 h0 n0 s)
      refine own_go (fun _ k => XS.iand X0.here hx rfl (hb hby at_13) rfl k) ?_
      show own_Goes p e below (s₁.setTop (mkF m 14 #[.val (.long p1), .second, .val (.long p2), .second, .val (.long q3), .second, .val (.long p4), .second, .val (.int p5), .unset, .unset, .unset] [(.int (p5 &&& (2 : Int32)))])) (G_own_law Z p1 p2 p3 p4 p5 h0 n0 s)
      by_cases hc14_19 : (p5 &&& (2 : Int32)) = (0 : Int32)
      · refine own_go (fun _ k => XS.ifYes X0.here hx rfl (pc0 := 14) (pc' := 20) rfl (hb hby at_14) rfl (XT.i0_eq_t hc14_19) (by decide) (by decide) k) ?_
        show own_Goes p e below (s₁.setTop (mkF m 20 #[.val (.long p1), .second, .val (.long p2), .second, .val (.long q3), .second, .val (.long p4), .second, .val (.int p5), .unset, .unset, .unset] [])) (G_own_law Z p1 p2 p3 p4 p5 h0 n0 s)
        exact J20_9 _ trivial
      · refine own_go (fun _ k => XS.ifNo X0.here hx rfl (hb hby at_14) rfl (XT.i0_eq_f hc14_19) k) ?_
        show own_Goes p e below (s₁.setTop (mkF m 17 #[.val (.long p1), .second, .val (.long p2), .second, .val (.long q3), .second, .val (.long p4), .second, .val (.int p5), .unset, .unset, .unset] [])) (G_own_law Z p1 p2 p3 p4 p5 h0 n0 s)
        refine own_go (fun _ k => XS.lloadN X0.here hx rfl (hb hby at_17) rfl k) ?_
        show own_Goes p e below (s₁.setTop (mkF m 18 #[.val (.long p1), .second, .val (.long p2), .second, .val (.long q3), .second, .val (.long p4), .second, .val (.int p5), .unset, .unset, .unset] [(.long p2)])) (G_own_law Z p1 p2 p3 p4 p5 h0 n0 s)
        refine own_go (fun _ k => XS.lstore X0.here hx rfl (hb hby at_18) rfl (l' := #[.val (.long p1), .second, .val (.long p2), .second, .val (.long q3), .second, .val (.long p2), .second, .val (.int p5), .unset, .unset, .unset]) rfl k) ?_
        show own_Goes p e below (s₁.setTop (mkF m 20 #[.val (.long p1), .second, .val (.long p2), .second, .val (.long q3), .second, .val (.long p2), .second, .val (.int p5), .unset, .unset, .unset] [])) (G_own_law Z p1 p2 p3 p4 p5 h0 n0 s)
        exact J20_9 _ trivial
  · intro J10_8
    refine own_go (fun _ k => XS.iload X0.here hx rfl (hb hby at_0) rfl k) ?_
    show own_Goes p e below (s₁.setTop (mkF m 2 #[.val (.long p1), .second, .val (.long p2), .second, .val (.long p3), .second, .val (.long p4), .second, .val (.int p5), .unset, .unset, .unset] [(.int p5)])) (G_own_law Z p1 p2 p3 p4 p5 h0 n0 s)
    refine own_go (fun _ k => XS.iconst X0.here hx rfl (hb hby at_2) k) ?_
    show own_Goes p e below (s₁.setTop (mkF m 3 #[.val (.long p1), .second, .val (.long p2), .second, .val (.long p3), .second, .val (.long p4), .second, .val (.int p5), .unset, .unset, .unset] [(.int (1 : Int32)), (.int p5)])) (G_own_law Z p1 p2 p3 p4 p5 h0 n0 s)
    refine own_go (fun _ k => XS.iand X0.here hx rfl (hb hby at_3) rfl k) ?_
    show own_Goes p e below (s₁.setTop (mkF m 4 #[.val (.long p1), .second, .val (.long p2), .second, .val (.long p3), .second, .val (.long p4), .second, .val (.int p5), .unset, .unset, .unset] [(.int (p5 &&& (1 : Int32)))])) (G_own_law Z p1 p2 p3 p4 p5 h0 n0 s)
    by_cases hc4_20 : (p5 &&& (1 : Int32)) = (0 : Int32)
    · refine own_go (fun _ k => XS.ifYes X0.here hx rfl (pc0 := 4) (pc' := 10) rfl (hb hby at_4) rfl (XT.i0_eq_t hc4_20) (by decide) (by decide) k) ?_
      show own_Goes p e below (s₁.setTop (mkF m 10 #[.val (.long p1), .second, .val (.long p2), .second, .val (.long p3), .second, .val (.long p4), .second, .val (.int p5), .unset, .unset, .unset] [])) (G_own_law Z p1 p2 p3 p4 p5 h0 n0 s)
      exact J10_8 _ trivial
    · refine own_go (fun _ k => XS.ifNo X0.here hx rfl (hb hby at_4) rfl (XT.i0_eq_f hc4_20) k) ?_
      show own_Goes p e below (s₁.setTop (mkF m 7 #[.val (.long p1), .second, .val (.long p2), .second, .val (.long p3), .second, .val (.long p4), .second, .val (.int p5), .unset, .unset, .unset] [])) (G_own_law Z p1 p2 p3 p4 p5 h0 n0 s)
      refine own_go (fun _ k => XS.lloadN X0.here hx rfl (hb hby at_7) rfl k) ?_
      show own_Goes p e below (s₁.setTop (mkF m 8 #[.val (.long p1), .second, .val (.long p2), .second, .val (.long p3), .second, .val (.long p4), .second, .val (.int p5), .unset, .unset, .unset] [(.long p1)])) (G_own_law Z p1 p2 p3 p4 p5 h0 n0 s)
      refine own_go (fun _ k => XS.lstore X0.here hx rfl (hb hby at_8) rfl (l' := #[.val (.long p1), .second, .val (.long p2), .second, .val (.long p1), .second, .val (.long p4), .second, .val (.int p5), .unset, .unset, .unset]) rfl k) ?_
      show own_Goes p e below (s₁.setTop (mkF m 10 #[.val (.long p1), .second, .val (.long p2), .second, .val (.long p1), .second, .val (.long p4), .second, .val (.int p5), .unset, .unset, .unset] [])) (G_own_law Z p1 p2 p3 p4 p5 h0 n0 s)
      exact J10_8 _ trivial
set_option maxRecDepth 65536 in
set_option maxHeartbeats 40000000 in
theorem comes_1 {Post : Tables → Env → Array Value → State → Outcome → State → Prop} (hpost : ∀ tb e args s v u, (limb_1_1.after args s (.returned v) u = true ∧ limb_1_2.after args s (.returned v) u = true ∧ True) → FrameEnd s (.returned v) u (Jvm.fieldLocs frame_1_writes args s ++ Jvm.arrayLocs frame_1_arrays args s ++ Jvm.staticLocs frame_1_statics s) 0 0 → Post tb e args s (.returned v) u) :
    ArmFor flags0 classFile x code maxLocals ret World_1 tables_1 room_1 Calls_1 rest_1 Pre_1 Post := by
  intro l hfl _ _ p e ha hc hk s m args below hf hA hF happ hP
  obtain ⟨hcalls, hrest, hpre⟩ := hP
  obtain ⟨-, -, -, hnamed, -, -, -, hat⟩ := (Spec.applies_iff hf).mp happ
  obtain ⟨hg, hn⟩ := and_e (Cond.before_iff.mp (show (Jvm.Cond.and given_1 narrow_1).before args s = true from hpre))
  obtain ⟨hcount, k0⟩ := and_e hg
  obtain ⟨g0, k1⟩ := and_e k0
  obtain ⟨g1, k2⟩ := and_e k1
  obtain ⟨g2, k3⟩ := and_e k2
  obtain ⟨g3, k4⟩ := and_e k3
  have g4 := k4
  obtain ⟨w0, w1, w2, w3, w4, rfl⟩ : ∃ w0 w1 w2 w3 w4 : Value, args = #[w0, w1, w2, w3, w4] := by
    have hs : args.size = 5 := by simpa [Cond.value, given_1] using hcount
    obtain ⟨L⟩ := args
    match L, hs with
    | [w0, w1, w2, w3, w4], _ => exact ⟨w0, w1, w2, w3, w4, rfl⟩
  have hw := fun d (hd : d ∈ tables_1) => atoms_spec (ws := Jvm.Cond.code x code maxLocals ret :: tables_1) hat d (List.mem_cons_of_mem _ hd)
  have hfit : Fit s := fun {y c} hc i hi => by
    obtain ⟨ha, rfl⟩ := Array.getElem?_eq_some_iff.mp hc
    have q := List.all_eq_true.mp ((Array.all_eq_true_iff_forall_mem.mp hF) _ (Array.getElem_mem ha)) i (List.mem_range.mpr hi)
    simpa [Array.getElem?_eq_getElem hi] using q
  obtain ⟨i0, ei0⟩ := isL_v g0
  obtain rfl : w0 = (.long i0) := Option.some.inj ei0
  obtain ⟨i1, ei1⟩ := isL_v g1
  obtain rfl : w1 = (.long i1) := Option.some.inj ei1
  obtain ⟨i2, ei2⟩ := isL_v g2
  obtain rfl : w2 = (.long i2) := Option.some.inj ei2
  obtain ⟨i3, ei3⟩ := isL_v g3
  obtain rfl : w3 = (.long i3) := Option.some.inj ei3
  obtain ⟨i4, ei4⟩ := is_v g4
  obtain rfl : w4 = (.int i4) := Option.some.inj ei4
  obtain ⟨n, o, h1, h2, h3, _, L, rfl, ⟨rfl, N⟩, hq⟩ := own_law l s _ hw tables_1 i0 i1 i2 i3 i4 s.heap s.heap.size (Nat.le_refl _)  p e ha hc hk s m _ below hf ((Spec.applies_iff_loose hf).mp happ).1 ⟨rfl, State.Warmed39.refl s, rfl⟩ trivial
  refine ⟨n, _, h1, h2, h3, hpost _ _ _ _ _ _ ⟨Cond.after_iff.mpr rfl, Cond.after_iff.mpr (eq_i res_at (Term.int_eval (1)) rfl), trivial⟩ ⟨hq.1, hq.2.1, (hq.2.2.sift fun y hy => Or.inr (N y hy)).mono (by decide) (by decide)⟩⟩
theorem main_1_1 : Claimed_1_1 := comes_1 fun _ _ _ _ _ _ h hF => ⟨h.1, hF⟩
theorem main_1_2 : Claimed_1_2 := comes_1 fun _ _ _ _ _ _ h hF => ⟨h.2.1, hF⟩
end Jvm.Pilot.@@N@@
namespace Jvm.Pilot.@@N@@
open Jvm Jvm.ClassFile Sem Op Lib Jvm.Free Jvm.Stand Jvm.Pilot.@@N@@.Jvm.D
/-! MADE BY PROGRAM (witnessworld.py) out of the Statement's table words and the real class files: 14 classes; the members and pool entries that the words name. The judged class is class 1, her method 2. -/
namespace start1
open Jvm.ClassFile
def u (s : String) : CpInfo := .utf8 (stringToUtf16 s)
/-- a pool by its gaps: so many unusable entries, then the entry; so many at the end -/
def gap : Nat → List CpInfo → List CpInfo
  | 0, r => r
  | n + 1, r => .unusable :: gap n r
def poolList (es : List (Nat × CpInfo)) (last : Nat) : List CpInfo := es.foldr (fun e r => gap e.1 (e.2 :: r)) (gap last [])
def pool (es : List (Nat × CpInfo)) (last : Nat) : Array CpInfo := ⟨poolList es last⟩
def fileOf (pool : Array CpInfo) (this : Nat) (attrs : Array Attribute := #[]) (ms : Array MethodInfo := #[]) (fl : Nat := 33) (sup : Nat := 0) (ifs : Array Nat := #[]) (fds : Array FieldInfo := #[]) : ClassFile where
  minorVersion := 0
  majorVersion := 65
  constantPool := pool
  accessFlags := fl
  thisClass := this
  superClass := sup
  interfaces := ifs
  fields := fds
  methods := ms
  attributes := attrs
def plain (name : String) (sup : Option ClassId) : Class where
  name := name
  kind := .ordinary
  loader := none
  accessFlags := 33
  super := sup
  interfaces := #[]
  cf := none
  fields := #[]
  methods := #[]
  instanceTypes := #[]
  staticTypes := #[]
  resolved := #[]
  callSites := []
  init := .initialized
  statics := none
  mirror := none

def pool0 : Array CpInfo := pool [(5, u "<init>"), (0, u "()V"), (1, .class_ 10), (1, u "java/lang/Object")] 113

def k0m0 : Method := { name := "<init>", desc := "()V", sig := { parameters := [], returnType := none }, accessFlags := 1, code := none }
/-- java/lang/Object -/
def k0 : Class := { plain "java/lang/Object" none with
  accessFlags := 33
  interfaces := #[]
  cf := some (fileOf pool0 8 #[] #[{ accessFlags := 1, nameIndex := 5, descriptorIndex := 6, attributes := #[] }] 33 0 #[] #[])
  fields := #[]
  methods := #[k0m0]
  instanceTypes := #[]
  staticTypes := #[]
  resolved := Array.replicate 124 none
  statics := none }

def pool1 : Array CpInfo := pool [(2, .class_ 4), (1, u "java/lang/Object"), (0, u "<init>"), (0, u "()V"), (0, .methodref 8 9), (0, .class_ 10), (0, .nameAndType 11 12), (0, u "com/example/beltline/beltline/MessageQueue"), (0, u "compareDue"), (0, u "(JJJJ)I"), (0, .methodref 14 15), (0, .class_ 16), (0, .nameAndType 17 18), (0, u "com/example/beltline/beltline/MessageQueueCompareDuePinLaw"), (0, u "sign"), (0, u "(I)I"), (3, u "law"), (0, u "(JJJJI)Z")] 2

def k1m0 : Method := { name := "<init>", desc := "()V", sig := { parameters := [], returnType := none }, accessFlags := 2, code := none }
def k1c1 : Code := { maxStack := 1, maxLocals := 1, code := method_2_code, exceptionTable := #[], attributes := #[] }
def k1m1 : Method := { name := "sign", desc := "(I)I", sig := { parameters := [.int], returnType := some .int }, accessFlags := 10, code := some k1c1 }
def k1c2 : Code := { maxStack := 8, maxLocals := 12, code := code, exceptionTable := #[], attributes := #[] }
def k1m2 : Method := { name := "law", desc := "(JJJJI)Z", sig := { parameters := [.long, .long, .long, .long, .int], returnType := some .boolean }, accessFlags := 9, code := some k1c2 }
/-- com/example/beltline/beltline/MessageQueueCompareDuePinLaw -/
def k1 : Class := { plain "com/example/beltline/beltline/MessageQueueCompareDuePinLaw" (some 0) with
  accessFlags := 49
  interfaces := #[]
  cf := some (fileOf pool1 14 #[] #[{ accessFlags := 2, nameIndex := 5, descriptorIndex := 6, attributes := #[] }, { accessFlags := 10, nameIndex := 17, descriptorIndex := 18, attributes := #[] }, { accessFlags := 9, nameIndex := 22, descriptorIndex := 23, attributes := #[] }] 49 2 #[] #[])
  fields := #[]
  methods := #[k1m0, k1m1, k1m2]
  instanceTypes := #[]
  staticTypes := #[]
  resolved := Array.replicate 26 none
  statics := none }

def pool2 : Array CpInfo := pool [(4, .class_ 6), (1, u "java/lang/Object"), (6, .class_ 15), (1, u "com/example/beltline/beltline/MessageQueue"), (0, u "lock"), (0, u "Ljava/util/concurrent/locks/ReentrantLock;"), (4, u "lastReading"), (0, u "J"), (2, u "lastReadingTimeline"), (0, u "I"), (0, .class_ 29), (0, u "java/lang/Long"), (4, u "quietSince"), (4, u "DUE_ORDER"), (0, u "Ljava/util/Comparator;"), (5, u "syncMessages"), (0, u "Lcom/example/beltline/beltline/MessageHeap;"), (2, u "asyncMessages"), (8, u "heaps"), (0, u "Ljava/util/List;"), (5, u "found"), (2, u "keepingEmptyChains"), (4, u "BARRIER_ORDER"), (3, u "barriers"), (0, u "Ljava/util/PriorityQueue;"), (2, u "nextFrontSequence"), (2, u "idleHandlers"), (5, u "idlePending"), (0, u "Ljava/util/ArrayDeque;"), (6, u "caughtUp"), (0, u "Ljava/util/concurrent/locks/Condition;"), (8, u "pool"), (0, u "Lcom/example/beltline/beltline/MessagePool;"), (11, u "intake"), (0, u "Lcom/example/beltline/beltline/MessageIntake;"), (5, u "beforeSleep"), (0, u "Lcom/example/beltline/beltline/RacePoint;"), (2, u "afterSleep"), (2, u "idleHandlerThrew"), (0, u "Ljava/util/function/BiConsumer;"), (24, .class_ 163), (0, u "com/example/beltline/beltline/MessageQueue$IdleHandler"), (9, u "idle"), (0, u "Z"), (2, u "idleCaller"), (0, u "Ljava/lang/Thread;"), (13, u "lastToken"), (4, .class_ 198), (0, u "com/example/beltline/beltline/MessageQueue$Barrier"), (8, u "nextSequence"), (62, u "quitting"), (2, u "channels"), (0, u "Lcom/example/beltline/beltline/ChannelWatch;"), (45, u "loopStarted"), (29, u "taken"), (9, u "running"), (0, u "Ljava/lang/Object;"), (41, u "catchUpWaiters"), (77, u "loopEnded"), (63, u "quitKeepsDue"), (2, u "quitTime"), (60, u "toWake"), (46, u "nextInHeaps"), (0, u "Lcom/example/beltline/beltline/QueueEntry;"), (12, u "compareDue"), (0, u "(JJJJ)I"), (2, u "nextInLane"), (15, u "compare"), (39, .methodref 28 731), (0, .nameAndType 690 732), (0, u "(JJ)I"), (17, u "takenAtLastBatch"), (65, u "WAKE_BATCH"), (2, u "SOON_MILLIS"), (0, u "RECHECK_MILLIS"), (0, u "QUIET_MILLIS"), (78, .class_ 901), (0, u "com/example/beltline/beltline/MessageQueue$OnChannelEventListener")] 77

def k2c0 : Code := { maxStack := 4, maxLocals := 8, code := prog_27_method_57_code, exceptionTable := #[], attributes := #[] }
def k2m0 : Method := { name := "compareDue", desc := "(JJJJ)I", sig := { parameters := [.long, .long, .long, .long], returnType := some .int }, accessFlags := 8, code := some k2c0 }
/-- com/example/beltline/beltline/MessageQueue -/
def k2 : Class := { plain "com/example/beltline/beltline/MessageQueue" (some 0) with
  accessFlags := 49
  interfaces := #[]
  cf := some (fileOf pool2 13 #[.nestMembers #[197, 900, 162]] #[{ accessFlags := 8, nameIndex := 670, descriptorIndex := 671, attributes := #[] }] 49 4 #[] #[{ accessFlags := 26, nameIndex := 39, descriptorIndex := 40, attributes := #[] }, { accessFlags := 26, nameIndex := 74, descriptorIndex := 40, attributes := #[] }, { accessFlags := 26, nameIndex := 816, descriptorIndex := 27, attributes := #[] }, { accessFlags := 26, nameIndex := 819, descriptorIndex := 23, attributes := #[] }, { accessFlags := 26, nameIndex := 820, descriptorIndex := 23, attributes := #[] }, { accessFlags := 24, nameIndex := 821, descriptorIndex := 23, attributes := #[] }, { accessFlags := 18, nameIndex := 16, descriptorIndex := 17, attributes := #[] }, { accessFlags := 2, nameIndex := 609, descriptorIndex := 178, attributes := #[] }, { accessFlags := 2, nameIndex := 22, descriptorIndex := 23, attributes := #[] }, { accessFlags := 2, nameIndex := 26, descriptorIndex := 27, attributes := #[] }, { accessFlags := 2, nameIndex := 34, descriptorIndex := 23, attributes := #[] }, { accessFlags := 2, nameIndex := 674, descriptorIndex := 174, attributes := #[] }, { accessFlags := 2, nameIndex := 656, descriptorIndex := 657, attributes := #[] }, { accessFlags := 2, nameIndex := 350, descriptorIndex := 27, attributes := #[] }, { accessFlags := 2, nameIndex := 750, descriptorIndex := 27, attributes := #[] }, { accessFlags := 16, nameIndex := 46, descriptorIndex := 47, attributes := #[] }, { accessFlags := 16, nameIndex := 50, descriptorIndex := 47, attributes := #[] }, { accessFlags := 18, nameIndex := 59, descriptorIndex := 60, attributes := #[] }, { accessFlags := 18, nameIndex := 66, descriptorIndex := 60, attributes := #[] }, { accessFlags := 18, nameIndex := 69, descriptorIndex := 60, attributes := #[] }, { accessFlags := 18, nameIndex := 78, descriptorIndex := 79, attributes := #[] }, { accessFlags := 2, nameIndex := 192, descriptorIndex := 27, attributes := #[] }, { accessFlags := 2, nameIndex := 207, descriptorIndex := 23, attributes := #[] }, { accessFlags := 2, nameIndex := 82, descriptorIndex := 23, attributes := #[] }, { accessFlags := 2, nameIndex := 273, descriptorIndex := 274, attributes := #[] }, { accessFlags := 18, nameIndex := 85, descriptorIndex := 60, attributes := #[] }, { accessFlags := 18, nameIndex := 91, descriptorIndex := 92, attributes := #[] }, { accessFlags := 2, nameIndex := 173, descriptorIndex := 174, attributes := #[] }, { accessFlags := 2, nameIndex := 177, descriptorIndex := 178, attributes := #[] }, { accessFlags := 2, nameIndex := 360, descriptorIndex := 361, attributes := #[] }, { accessFlags := 2, nameIndex := 270, descriptorIndex := 174, attributes := #[] }, { accessFlags := 2, nameIndex := 545, descriptorIndex := 174, attributes := #[] }, { accessFlags := 2, nameIndex := 548, descriptorIndex := 23, attributes := #[] }, { accessFlags := 2, nameIndex := 320, descriptorIndex := 174, attributes := #[] }, { accessFlags := 2, nameIndex := 481, descriptorIndex := 174, attributes := #[] }, { accessFlags := 18, nameIndex := 99, descriptorIndex := 100, attributes := #[] }, { accessFlags := 2, nameIndex := 403, descriptorIndex := 27, attributes := #[] }, { accessFlags := 18, nameIndex := 136, descriptorIndex := 137, attributes := #[] }, { accessFlags := 16, nameIndex := 109, descriptorIndex := 110, attributes := #[] }, { accessFlags := 16, nameIndex := 122, descriptorIndex := 123, attributes := #[] }, { accessFlags := 16, nameIndex := 129, descriptorIndex := 130, attributes := #[] }, { accessFlags := 16, nameIndex := 133, descriptorIndex := 130, attributes := #[] }])
  fields := #[{ name := "DUE_ORDER", type := (.object "java/util/Comparator"), accessFlags := 26, slot := 0, constantValue := 0 }, { name := "BARRIER_ORDER", type := (.object "java/util/Comparator"), accessFlags := 26, slot := 1, constantValue := 0 }, { name := "WAKE_BATCH", type := .int, accessFlags := 26, slot := 2, constantValue := 0 }, { name := "SOON_MILLIS", type := .long, accessFlags := 26, slot := 3, constantValue := 0 }, { name := "RECHECK_MILLIS", type := .long, accessFlags := 26, slot := 4, constantValue := 0 }, { name := "QUIET_MILLIS", type := .long, accessFlags := 24, slot := 5, constantValue := 0 }, { name := "lock", type := (.object "java/util/concurrent/locks/ReentrantLock"), accessFlags := 18, slot := 0, constantValue := 0 }, { name := "toWake", type := (.object "java/lang/Thread"), accessFlags := 2, slot := 1, constantValue := 0 }, { name := "lastReading", type := .long, accessFlags := 2, slot := 2, constantValue := 0 }, { name := "lastReadingTimeline", type := .int, accessFlags := 2, slot := 3, constantValue := 0 }, { name := "quietSince", type := .long, accessFlags := 2, slot := 4, constantValue := 0 }, { name := "nextInLane", type := .boolean, accessFlags := 2, slot := 5, constantValue := 0 }, { name := "nextInHeaps", type := (.object "com/example/beltline/beltline/QueueEntry"), accessFlags := 2, slot := 6, constantValue := 0 }, { name := "taken", type := .int, accessFlags := 2, slot := 7, constantValue := 0 }, { name := "takenAtLastBatch", type := .int, accessFlags := 2, slot := 8, constantValue := 0 }, { name := "syncMessages", type := (.object "com/example/beltline/beltline/MessageHeap"), accessFlags := 16, slot := 9, constantValue := 0 }, { name := "asyncMessages", type := (.object "com/example/beltline/beltline/MessageHeap"), accessFlags := 16, slot := 10, constantValue := 0 }, { name := "heaps", type := (.object "java/util/List"), accessFlags := 18, slot := 11, constantValue := 0 }, { name := "found", type := (.object "java/util/List"), accessFlags := 18, slot := 12, constantValue := 0 }, { name := "keepingEmptyChains", type := (.object "java/util/List"), accessFlags := 18, slot := 13, constantValue := 0 }, { name := "barriers", type := (.object "java/util/PriorityQueue"), accessFlags := 18, slot := 14, constantValue := 0 }, { name := "lastToken", type := .int, accessFlags := 2, slot := 15, constantValue := 0 }, { name := "nextSequence", type := .long, accessFlags := 2, slot := 16, constantValue := 0 }, { name := "nextFrontSequence", type := .long, accessFlags := 2, slot := 17, constantValue := 0 }, { name := "channels", type := (.object "com/example/beltline/beltline/ChannelWatch"), accessFlags := 2, slot := 18, constantValue := 0 }, { name := "idleHandlers", type := (.object "java/util/List"), accessFlags := 18, slot := 19, constantValue := 0 }, { name := "idlePending", type := (.object "java/util/ArrayDeque"), accessFlags := 18, slot := 20, constantValue := 0 }, { name := "idle", type := .boolean, accessFlags := 2, slot := 21, constantValue := 0 }, { name := "idleCaller", type := (.object "java/lang/Thread"), accessFlags := 2, slot := 22, constantValue := 0 }, { name := "running", type := (.object "java/lang/Object"), accessFlags := 2, slot := 23, constantValue := 0 }, { name := "quitting", type := .boolean, accessFlags := 2, slot := 24, constantValue := 0 }, { name := "quitKeepsDue", type := .boolean, accessFlags := 2, slot := 25, constantValue := 0 }, { name := "quitTime", type := .long, accessFlags := 2, slot := 26, constantValue := 0 }, { name := "loopStarted", type := .boolean, accessFlags := 2, slot := 27, constantValue := 0 }, { name := "loopEnded", type := .boolean, accessFlags := 2, slot := 28, constantValue := 0 }, { name := "caughtUp", type := (.object "java/util/concurrent/locks/Condition"), accessFlags := 18, slot := 29, constantValue := 0 }, { name := "catchUpWaiters", type := .int, accessFlags := 2, slot := 30, constantValue := 0 }, { name := "idleHandlerThrew", type := (.object "java/util/function/BiConsumer"), accessFlags := 18, slot := 31, constantValue := 0 }, { name := "pool", type := (.object "com/example/beltline/beltline/MessagePool"), accessFlags := 16, slot := 32, constantValue := 0 }, { name := "intake", type := (.object "com/example/beltline/beltline/MessageIntake"), accessFlags := 16, slot := 33, constantValue := 0 }, { name := "beforeSleep", type := (.object "com/example/beltline/beltline/RacePoint"), accessFlags := 16, slot := 34, constantValue := 0 }, { name := "afterSleep", type := (.object "com/example/beltline/beltline/RacePoint"), accessFlags := 16, slot := 35, constantValue := 0 }]
  methods := #[k2m0]
  instanceTypes := #[(.object "java/util/concurrent/locks/ReentrantLock"), (.object "java/lang/Thread"), .long, .int, .long, .boolean, (.object "com/example/beltline/beltline/QueueEntry"), .int, .int, (.object "com/example/beltline/beltline/MessageHeap"), (.object "com/example/beltline/beltline/MessageHeap"), (.object "java/util/List"), (.object "java/util/List"), (.object "java/util/List"), (.object "java/util/PriorityQueue"), .int, .long, .long, (.object "com/example/beltline/beltline/ChannelWatch"), (.object "java/util/List"), (.object "java/util/ArrayDeque"), .boolean, (.object "java/lang/Thread"), (.object "java/lang/Object"), .boolean, .boolean, .long, .boolean, .boolean, (.object "java/util/concurrent/locks/Condition"), .int, (.object "java/util/function/BiConsumer"), (.object "com/example/beltline/beltline/MessagePool"), (.object "com/example/beltline/beltline/MessageIntake"), (.object "com/example/beltline/beltline/RacePoint"), (.object "com/example/beltline/beltline/RacePoint")]
  staticTypes := #[(.object "java/util/Comparator"), (.object "java/util/Comparator"), .int, .long, .long, .long]
  resolved := Array.replicate 979 none
  statics := none }

def pool3 : Array CpInfo := pool [(1, .class_ 2), (0, u "java/io/Serializable"), (0, .class_ 4), (0, u "java/lang/Object")] 2

/-- java/io/Serializable -/
def k3 : Class := { plain "java/io/Serializable" (some 0) with
  accessFlags := 1537
  interfaces := #[]
  cf := some (fileOf pool3 1 #[] #[] 1537 3 #[] #[])
  fields := #[]
  methods := #[]
  instanceTypes := #[]
  staticTypes := #[]
  resolved := Array.replicate 7 none
  statics := none }

def pool4 : Array CpInfo := pool [(2, .class_ 4), (1, u "java/lang/Object"), (0, u "<init>"), (0, u "()V"), (1, .class_ 10), (1, u "java/lang/Number"), (2, .class_ 14), (0, u "java/io/Serializable"), (0, u "serialVersionUID"), (0, u "J")] 20

def k4m0 : Method := { name := "<init>", desc := "()V", sig := { parameters := [], returnType := none }, accessFlags := 1, code := none }
/-- java/lang/Number -/
def k4 : Class := { plain "java/lang/Number" (some 0) with
  accessFlags := 1057
  interfaces := #[3]
  cf := some (fileOf pool4 8 #[] #[{ accessFlags := 1, nameIndex := 5, descriptorIndex := 6, attributes := #[] }] 1057 2 #[13] #[{ accessFlags := 26, nameIndex := 15, descriptorIndex := 16, attributes := #[] }])
  fields := #[{ name := "serialVersionUID", type := .long, accessFlags := 26, slot := 0, constantValue := 0 }]
  methods := #[k4m0]
  instanceTypes := #[]
  staticTypes := #[.long]
  resolved := Array.replicate 37 none
  statics := none }

def pool5 : Array CpInfo := pool [(1, .class_ 2), (0, u "java/lang/Comparable"), (0, .class_ 4), (0, u "java/lang/Object")] 7

/-- java/lang/Comparable -/
def k5 : Class := { plain "java/lang/Comparable" (some 0) with
  accessFlags := 1537
  interfaces := #[]
  cf := some (fileOf pool5 1 #[] #[] 1537 3 #[] #[])
  fields := #[]
  methods := #[]
  instanceTypes := #[]
  staticTypes := #[]
  resolved := Array.replicate 12 none
  statics := none }

def pool6 : Array CpInfo := pool [(1, .class_ 2), (0, u "java/lang/constant/Constable"), (0, .class_ 4), (0, u "java/lang/Object")] 6

/-- java/lang/constant/Constable -/
def k6 : Class := { plain "java/lang/constant/Constable" (some 0) with
  accessFlags := 1537
  interfaces := #[]
  cf := some (fileOf pool6 1 #[] #[] 1537 3 #[] #[])
  fields := #[]
  methods := #[]
  instanceTypes := #[]
  staticTypes := #[]
  resolved := Array.replicate 11 none
  statics := none }

def pool7 : Array CpInfo := pool [(1, .class_ 2), (0, u "java/lang/constant/ConstantDesc"), (0, .class_ 4), (0, u "java/lang/Object")] 32

/-- java/lang/constant/ConstantDesc -/
def k7 : Class := { plain "java/lang/constant/ConstantDesc" (some 0) with
  accessFlags := 1537
  interfaces := #[]
  cf := some (fileOf pool7 1 #[] #[] 1537 3 #[] #[])
  fields := #[]
  methods := #[]
  instanceTypes := #[]
  staticTypes := #[]
  resolved := Array.replicate 37 none
  statics := none }

def pool8 : Array CpInfo := pool [(1, .class_ 2), (0, u "java/lang/Long"), (232, .class_ 237), (1, u "java/lang/Long$LongCache"), (33, .class_ 272), (0, u "java/lang/Number"), (2, u "value"), (0, u "J"), (27, u "compare"), (0, u "(JJ)I"), (55, u "TYPE"), (0, u "Ljava/lang/Class;"), (0, .class_ 364), (0, u "java/lang/Comparable"), (0, .class_ 366), (0, u "java/lang/constant/Constable"), (0, .class_ 368), (0, u "java/lang/constant/ConstantDesc"), (0, u "MIN_VALUE"), (1, u "MAX_VALUE"), (4, u "SIZE"), (0, u "I"), (1, u "BYTES"), (1, u "serialVersionUID")] 142

def k8c0 : Code := { maxStack := 4, maxLocals := 4, code := jdk_35_method_42_code, exceptionTable := #[], attributes := #[] }
def k8m0 : Method := { name := "compare", desc := "(JJ)I", sig := { parameters := [.long, .long], returnType := some .int }, accessFlags := 9, code := some k8c0 }
/-- java/lang/Long -/
def k8 : Class := { plain "java/lang/Long" (some 4) with
  accessFlags := 49
  interfaces := #[5, 6, 7]
  cf := some (fileOf pool8 1 #[.nestMembers #[235]] #[{ accessFlags := 9, nameIndex := 304, descriptorIndex := 305, attributes := #[] }] 49 271 #[363, 365, 367] #[{ accessFlags := 25, nameIndex := 369, descriptorIndex := 276, attributes := #[] }, { accessFlags := 25, nameIndex := 371, descriptorIndex := 276, attributes := #[] }, { accessFlags := 25, nameIndex := 361, descriptorIndex := 362, attributes := #[] }, { accessFlags := 18, nameIndex := 275, descriptorIndex := 276, attributes := #[] }, { accessFlags := 25, nameIndex := 376, descriptorIndex := 377, attributes := #[] }, { accessFlags := 25, nameIndex := 379, descriptorIndex := 377, attributes := #[] }, { accessFlags := 26, nameIndex := 381, descriptorIndex := 276, attributes := #[] }])
  fields := #[{ name := "MIN_VALUE", type := .long, accessFlags := 25, slot := 0, constantValue := 0 }, { name := "MAX_VALUE", type := .long, accessFlags := 25, slot := 1, constantValue := 0 }, { name := "TYPE", type := (.object "java/lang/Class"), accessFlags := 25, slot := 2, constantValue := 0 }, { name := "value", type := .long, accessFlags := 18, slot := 0, constantValue := 0 }, { name := "SIZE", type := .int, accessFlags := 25, slot := 3, constantValue := 0 }, { name := "BYTES", type := .int, accessFlags := 25, slot := 4, constantValue := 0 }, { name := "serialVersionUID", type := .long, accessFlags := 26, slot := 5, constantValue := 0 }]
  methods := #[k8m0]
  instanceTypes := #[.long]
  staticTypes := #[.long, .long, (.object "java/lang/Class"), .int, .int, .long]
  resolved := Array.replicate 524 none
  statics := none }

def pool9 : Array CpInfo := pool [(1, u "java/lang/Cloneable"), (0, .class_ 1), (0, u "java/lang/Object"), (0, .class_ 3)] 3

/-- java/lang/Cloneable -/
def k9 : Class := { plain "java/lang/Cloneable" (some 0) with
  accessFlags := 1537
  interfaces := #[]
  cf := some (fileOf pool9 2 #[] #[] 1537 4 #[] #[])
  fields := #[]
  methods := #[]
  instanceTypes := #[]
  staticTypes := #[]
  resolved := Array.replicate 8 none
  statics := none }

/-- the primitive byte -/
def k10 : Class := { plain "byte" none with kind := .primitive 'B', accessFlags := 0x411 }
/-- [B -/
def k11 : Class := { plain "[B" (some 0) with kind := .array 10 .byte, interfaces := #[9, 3], accessFlags := 1041 }

/-- the primitive int -/
def k12 : Class := { plain "int" none with kind := .primitive 'I', accessFlags := 0x411 }
/-- [I -/
def k13 : Class := { plain "[I" (some 0) with kind := .array 12 .int, interfaces := #[9, 3], accessFlags := 1041 }

def heap : Heap := #[]
def classes : Array Class := #[k0, k1, k2, k3, k4, k5, k6, k7, k8, k9, k10, k11, k12, k13]
def interned : List (Array UInt16 × Addr) := []
def slotsUsed : Nat := 0
def theMethod : MethodId := ⟨1, 2⟩
def args0 : Array Value := #[.long 5, .long 6, .long 7, .long 8, .int 0]
def aboutOver (below : List Frame) : State where
  vm := { classes := classes, interned := interned.toArray }
  heap := heap
  slotsUsed := slotsUsed
  threads := #[{ frames := .invoking theMethod args0 :: below }]
def below0 : List Frame := [.native { method := ⟨0, 0⟩, args := #[] }]
def about1 : State := aboutOver below0
def p0 : Program := .bare "" "" ""
def e0 : Env := launch0.env 0 0 0
theorem w_frames : about1.frames = Frame.invoking theMethod args0 :: below0 := rfl
set_option maxRecDepth 65536 in
theorem w_args : argsFit about1.vm theMethod args0 = true := by decide +kernel
set_option maxRecDepth 65536 in
theorem w_heap : heapFits about1 = true := by decide +kernel
set_option maxRecDepth 65536 in
theorem w_runnable : about1.curStatus? = some .runnable := by decide +kernel
set_option maxRecDepth 65536 in
theorem w_alone : about1.alone = true := by decide +kernel
set_option maxRecDepth 65536 in
theorem w_named : about1.methodNamed? x = some theMethod := by decide +kernel
set_option maxRecDepth 65536 in
theorem w_hears : about1.hears theMethod below0 = true := by decide +kernel
set_option maxRecDepth 65536 in
theorem w_ripe : about1.ripe theMethod args0 below0 = true := by decide +kernel
theorem w_running : about1.status = .running := rfl
set_option maxRecDepth 65536 in
theorem w_room : about1.hasRoom e0.platform room_1 = true :=
  launch0.hasRoom_least _ room_1 (by decide +kernel) (by decide +kernel) (by decide +kernel) (by decide +kernel) (by decide +kernel) (by decide +kernel)
theorem allAtoms_all (ts : List Jvm.Cond) (a : Array Jvm.Value) (st : Jvm.State) : (allAtoms ts).before a st = ts.all (fun c => c.before a st) := by
  induction ts with
  | nil => rfl
  | cons c t ih =>
    show (Jvm.Cond.and c (allAtoms t)).before a st = _
    rw [Jvm.Cond.before_and, ih, List.all_cons]
def words1 : List Jvm.Cond := Jvm.Cond.code x code maxLocals ret :: tables_1
/-- a 'code' word, met by the world's own term for the bytes: nothing is compared byte by byte -/
theorem code_word {y : MethodName} {bytes : ByteArray} {mx : Nat} {rt : Option FieldType} {a : Array Value} {s : State} {m : MethodId} {meth : Method} {c : Code} (h1 : s.methodNamed? y = some m) (h2 : s.vm.method? m = some meth) (h3 : meth.code = some c) (h4 : c.code = bytes)
    (h5 : (c.maxLocals == mx && c.exceptionTable.isEmpty && decide (c.maxStack ≤ mostOperands) && decide (meth.sig.returnType = rt) && !meth.locks && decide (parseMethodDescriptor y.desc = some meth.sig)) = true) : (Jvm.Cond.code y bytes mx rt).before a s = true := by
  simp only [Bool.and_eq_true, beq_iff_eq, Bool.not_eq_true', decide_eq_true_eq] at h5
  obtain ⟨⟨⟨⟨⟨g1, g2⟩, g3⟩, g4⟩, g5⟩, g6⟩ := h5
  simp [Cond.before, Cond.holds, Cond.value, h1, h2, h3, h4, g1, g2, g3, g4, g5, g6]
def isCode : Jvm.Cond → Bool
  | .code _ _ _ _ => true
  | _ => false
theorem all_split {L : List Jvm.Cond} {P : Jvm.Cond → Bool} (h1 : L.all (fun c => isCode c || P c) = true) (h2 : ∀ c ∈ L.filter isCode, P c = true) : L.all P = true := by
  refine List.all_eq_true.mpr fun c hc => ?_
  have h := List.all_eq_true.mp h1 c hc
  rcases Bool.eq_false_or_eq_true (isCode c) with hi | hi
  · exact h2 c (List.mem_filter.mpr ⟨hc, hi⟩)
  · simpa [hi] using h
set_option maxRecDepth 65536 in
theorem w_c0 : (Jvm.Cond.code x code maxLocals ret).before args0 about1 = true := code_word (m := ⟨1, 2⟩) (meth := k1m2) (c := k1c2) (by decide +kernel) rfl rfl rfl (by decide +kernel)
set_option maxRecDepth 65536 in
theorem w_c1 : (Jvm.Cond.code ({ cls := "com/example/beltline/beltline/MessageQueue", name := "compareDue", desc := "(JJJJ)I" } : Jvm.MethodName) prog_27_method_57_code (8 : Nat) (Option.some Jvm.ClassFile.FieldType.int)).before args0 about1 = true := code_word (m := ⟨2, 0⟩) (meth := k2m0) (c := k2c0) (by decide +kernel) rfl rfl rfl (by decide +kernel)
set_option maxRecDepth 65536 in
theorem w_c2 : (Jvm.Cond.code ({ cls := "java/lang/Long", name := "compare", desc := "(JJ)I" } : Jvm.MethodName) jdk_35_method_42_code (4 : Nat) (Option.some Jvm.ClassFile.FieldType.int)).before args0 about1 = true := code_word (m := ⟨8, 0⟩) (meth := k8m0) (c := k8c0) (by decide +kernel) rfl rfl rfl (by decide +kernel)
set_option maxRecDepth 65536 in
theorem w_c3 : (Jvm.Cond.code ({ cls := "com/example/beltline/beltline/MessageQueueCompareDuePinLaw", name := "sign", desc := "(I)I" } : Jvm.MethodName) method_2_code (1 : Nat) (Option.some Jvm.ClassFile.FieldType.int)).before args0 about1 = true := code_word (m := ⟨1, 1⟩) (meth := k1m1) (c := k1c1) (by decide +kernel) rfl rfl rfl (by decide +kernel)
def codes1 : List Jvm.Cond := [Jvm.Cond.code x code maxLocals ret, Jvm.Cond.code ({ cls := "com/example/beltline/beltline/MessageQueue", name := "compareDue", desc := "(JJJJ)I" } : Jvm.MethodName) prog_27_method_57_code (8 : Nat) (Option.some Jvm.ClassFile.FieldType.int), Jvm.Cond.code ({ cls := "java/lang/Long", name := "compare", desc := "(JJ)I" } : Jvm.MethodName) jdk_35_method_42_code (4 : Nat) (Option.some Jvm.ClassFile.FieldType.int), Jvm.Cond.code ({ cls := "com/example/beltline/beltline/MessageQueueCompareDuePinLaw", name := "sign", desc := "(I)I" } : Jvm.MethodName) method_2_code (1 : Nat) (Option.some Jvm.ClassFile.FieldType.int)]
set_option maxRecDepth 65536 in
theorem codes_eq : words1.filter isCode = codes1 := rfl
theorem w_codes : ∀ c ∈ words1.filter isCode, c.before args0 about1 = true := by
  rw [codes_eq]
  intro c hc
  simp only [codes1, List.mem_cons, List.not_mem_nil, or_false] at hc
  rcases hc with rfl | rfl | rfl | rfl
  · exact w_c0
  · exact w_c1
  · exact w_c2
  · exact w_c3
set_option maxRecDepth 65536 in
theorem w_t1 : words1.all (fun c => isCode c || c.before args0 about1) = true := by decide +kernel
theorem w_tables : (allAtoms (Jvm.Cond.code x code maxLocals ret :: tables_1)).before args0 about1 = true := by
  rw [allAtoms_all]
  show words1.all (fun c => c.before args0 about1) = true
  refine all_split ?_ w_codes
  rw [w_t1]
set_option maxRecDepth 65536 in
theorem w_case : (Jvm.Cond.and given_1 narrow_1).before args0 about1 = true := by decide +kernel
theorem w_applies : (headSpec (Jvm.Cond.code x code maxLocals ret :: tables_1) room_1).applies x e0.platform about1 = true :=
  (Spec.applies_iff w_frames).mpr ⟨w_running, w_runnable, w_alone, w_named, w_hears, w_ripe, w_room, w_tables⟩
theorem atStart : AtStart classFile x code maxLocals ret World_1 tables_1 room_1 Calls_1 rest_1 Pre_1 launch0 p0 e0 about1 theMethod args0 below0 :=
  ⟨lists_1, trivial, launch0.admits_env _ _ _, launch0.least_env, fairChoices_fair.cas, fairChoices_fair.clock, w_frames, w_args, w_heap, w_applies, trivial, trivial, w_case⟩
end start1
theorem witness_1 : WitnessClaimed_1 := ⟨start1.p0, start1.e0, start1.about1, start1.theMethod, start1.args0, start1.below0, start1.atStart⟩
end Jvm.Pilot.@@N@@
