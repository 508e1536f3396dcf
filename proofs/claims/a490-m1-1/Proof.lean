import JvmDerived
import JvmDerived.Pilot.@@N@@Statement
import JvmDerived.Pilot.@@N@@Code
set_option linter.unusedVariables false
set_option linter.unusedSimpArgs false
namespace Jvm.Pilot.@@N@@
open Jvm Jvm.ClassFile Sem Op Lib Jvm.Free Jvm.Stand Jvm.LawKit Jvm.RoadKit Bundle Jvm.Pilot.@@N@@.Jvm.D
/-- the run comes from S to an end of which Q holds -/
def own_Goes (p : Program) (e : Env) (below : List Frame) (S : State) (Q : Outcome → State → Prop) : Prop := ∃ s₂ o, Steps p.tables e below S s₂ ∧ s₂.status = .running ∧ Ended s₂ below o ∧ Q o s₂
theorem own_go {p : Program} {e : Env} {below : List Frame} {S N : State} {Q : Outcome → State → Prop} (h : ∀ t, Steps p.tables e below N t → Steps p.tables e below S t) (k : own_Goes p e below N Q) : own_Goes p e below S Q := by
  obtain ⟨s₂, o, h1, h2⟩ := k; exact ⟨s₂, o, h _ h1, h2⟩
/-- the model's own selection picks a private method itself -/
theorem own_selp {y : MethodName} {s : State} {args : Array Value} {n : Nat} (hy : y.cls ≠ "java/lang/invoke/MethodHandle" ∧ y.cls ≠ "java/lang/invoke/VarHandle") (hins : (Cond.instantiable y.cls n).before args s = true) (hpriv : (Cond.privateMethod y).before args s = true) (hinst : (Cond.instanceMethod y).before args s = true) : (Cond.selects y.cls y y).before args s = true := by
  obtain ⟨c, k, hc, hk, -, hniab, -, -⟩ := Cond.instantiable_spec hins
  have hni : k.isInterface = false := (Bool.or_eq_false_iff.mp hniab).1
  obtain ⟨mk, methM, hnamed, hmethM, -, -⟩ := Cond.instanceMethod_spec hinst
  have hfound : s.methodFound? y.cls y.name y.desc = some mk := State.methodFound?_of_named hnamed hy
  have hcls : mk.cls = c := Option.some.inj ((findClass_of_methodNamed hnamed).symm.trans hc)
  have hsel : selectMethod {} s.vm c mk = .method mk := selectMethod_private hmethM (Cond.privateMethod_at hpriv mk methM hnamed hmethM)
  simp only [Cond.before, Cond.holds, Cond.value, hc, hfound, hnamed, hsel, hcls, hk]
  simp; exact hni
/-- a place where roads meet: walked once, for whatever the roads bring -/
theorem own_join {p : Program} {e : Env} {below : List Frame} {S : State} {Q : Outcome → State → Prop} {α : Type} {P : α → Prop} {F : α → State} (h1 : ∀ z, P z → own_Goes p e below (F z) Q) (h2 : (∀ z, P z → own_Goes p e below (F z) Q) → own_Goes p e below S Q) : own_Goes p e below S Q := h2 h1
def own_sc (c : Int64) : Int32 := if (0 ≤ c.toInt ∧ c.toInt < 55296) ∨ (57344 ≤ c.toInt ∧ c.toInt < 1114112) then 1 else 0
theorem own_idx (y : Int32) : ¬ (y &&& 7) < 0 ∧ (y &&& 7) < 8 := by
  have h := c_and y 7 (by decide)
  have e1 : (0 : Int32).toInt = 0 := by decide
  have e2 : (7 : Int32).toInt = 7 := by decide
  have e3 : (8 : Int32).toInt = 8 := by decide
  rw [Int32.lt_iff_toInt_lt, Int32.lt_iff_toInt_lt]
  omega
theorem own_k : (0 : Int64).toInt = 0 ∧ (55296 : Int64).toInt = 55296 ∧ (57343 : Int64).toInt = 57343 ∧ (57344 : Int64).toInt = 57344 ∧ (1114111 : Int64).toInt = 1114111 ∧ (1114112 : Int64).toInt = 1114112 := by decide
theorem own_pn1 : plainName "com/example/remnant/remnant/core/Char" = true := by first | (simp [plainName, overriddenIn]; done) | decide +kernel
theorem own_ef_own_isM (m : MethodId) (p1 : Int64) : entryFrame m #[(.long p1)] 2 = (mkF m 0 #[.val (.long p1), .second] []) := by first | (simp [entryFrame, mkF, argsToLocals, Value.category]; done) | rfl
def Q_own_isM (Z : State) (p1 : Int64) (h0 : Heap) (n0 : Nat) (v : Option Value) (h : Heap) (L : List Loc) : Prop := v = some (.int (own_sc p1)) ∧ Fr n0 L ∧ h = h0
def G_own_isM (Z : State) (p1 : Int64) (h0 : Heap) (n0 : Nat) (s : State) : Outcome → State → Prop := fun o U' => ∃ v L, o = .returned v ∧ Q_own_isM Z p1 h0 n0 v U'.heap L ∧ FrameEnd s o U' L ({ frames := 0, cells := 0, slots := 0, locals := 0 } : Room).cells ({ frames := 0, cells := 0, slots := 0, locals := 0 } : Room).slots
theorem own_d1_0 : decode prog_51_method_3_code 0 = .ok (.lload_n 0, 1) := by decide +kernel
theorem own_d1_1 : decode prog_51_method_3_code 1 = .ok (.lconst 0, 1) := by decide +kernel
theorem own_d1_2 : decode prog_51_method_3_code 2 = .ok (.lcmp, 1) := by decide +kernel
theorem own_d1_3 : decode prog_51_method_3_code 3 = .ok (.ifCond .lt 31, 3) := by decide +kernel
theorem own_d1_34 : decode prog_51_method_3_code 34 = .ok (.iconst 0, 1) := by decide +kernel
theorem own_d1_35 : decode prog_51_method_3_code 35 = .ok (.ireturn, 1) := by decide +kernel
theorem own_d1_6 : decode prog_51_method_3_code 6 = .ok (.lload_n 0, 1) := by decide +kernel
theorem own_d1_7 : decode prog_51_method_3_code 7 = .ok (.ldc2_w 22, 3) := by decide +kernel
theorem own_d1_10 : decode prog_51_method_3_code 10 = .ok (.lcmp, 1) := by decide +kernel
theorem own_d1_11 : decode prog_51_method_3_code 11 = .ok (.ifCond .gt 23, 3) := by decide +kernel
theorem own_d1_14 : decode prog_51_method_3_code 14 = .ok (.lload_n 0, 1) := by decide +kernel
theorem own_d1_15 : decode prog_51_method_3_code 15 = .ok (.ldc2_w 24, 3) := by decide +kernel
theorem own_d1_18 : decode prog_51_method_3_code 18 = .ok (.lcmp, 1) := by decide +kernel
theorem own_d1_19 : decode prog_51_method_3_code 19 = .ok (.ifCond .lt 11, 3) := by decide +kernel
theorem own_d1_30 : decode prog_51_method_3_code 30 = .ok (.iconst 1, 1) := by decide +kernel
theorem own_d1_31 : decode prog_51_method_3_code 31 = .ok (.goto 4, 3) := by decide +kernel
theorem own_d1_22 : decode prog_51_method_3_code 22 = .ok (.lload_n 0, 1) := by decide +kernel
theorem own_d1_23 : decode prog_51_method_3_code 23 = .ok (.ldc2_w 26, 3) := by decide +kernel
theorem own_d1_26 : decode prog_51_method_3_code 26 = .ok (.lcmp, 1) := by decide +kernel
theorem own_d1_27 : decode prog_51_method_3_code 27 = .ok (.ifCond .le 7, 3) := by decide +kernel
set_option maxRecDepth 65536 in
set_option maxHeartbeats 40000000 in
theorem own_isM (l : Launch) (Z : State) (a0 : Array Value) (hw : ∀ d ∈ tables_1, d.before a0 Z = true) (ws : List Jvm.Cond) (p1 : Int64) (h0 : Heap) (n0 : Nat) (Z0 : n0 ≤ h0.size)  :
    MetFree l (⟨"com/example/remnant/remnant/core/Char", "isScalarValue", "(J)Z"⟩ : MethodName) (head1 (Jvm.Cond.code (⟨"com/example/remnant/remnant/core/Char", "isScalarValue", "(J)Z"⟩ : MethodName) prog_51_method_3_code 2 (some .boolean) :: ws) ({ frames := 0, cells := 0, slots := 0, locals := 0 } : Room)) (fun a U => a = #[(.long p1)] ∧ Z.Warmed39 U.vm ∧ U.heap = h0) (fun _ _ _ _ _ => True) (fun _ U o U' => ∃ v L, o = .returned v ∧ Q_own_isM Z p1 h0 n0 v U'.heap L ∧ FrameEnd U o U' L ({ frames := 0, cells := 0, slots := 0, locals := 0 } : Room).cells ({ frames := 0, cells := 0, slots := 0, locals := 0 } : Room).slots) := by
  refine MetFree.of_bodySF (plainFor_of_name own_pn1) hisR ?_
  intro p e s m args below meth c s₁ Bd hml0 hP hK
  obtain ⟨rfl, hZ, hh⟩ := hP
  have hx := Bd.exec
  have hby := Bd.bytes
  have hml : c.maxLocals = 2 := hml0
  have hown : s.vm.findClass "com/example/remnant/remnant/core/Char" = some m.cls := findClass_of_methodNamed Bd.named
  have hnm := (name_of_methodNamed Bd.named Bd.method).1
  have X0 : Stand p l e ({ frames := 0, cells := 0, slots := 0, locals := 0 } : Room) s m #[(.long p1)] below meth c s₁ [] 0 0 := Stand.of_body Bd
  have e0 : s₁.heap = h0 := by rw [← hh, Bd.state]; rfl
  have N0 := Fr.nil n0
  refine own_go (S := s₁.setTop (entryFrame m #[(.long p1)] 2)) (Q := (G_own_isM Z p1 h0 n0 s)) (fun _ k => castTop (own_ef_own_isM m p1) k) ?_
  show own_Goes p e below (s₁.setTop (mkF m 0 #[.val (.long p1), .second] [])) (G_own_isM Z p1 h0 n0 s)
  refine own_go (fun _ k => XS.lloadN X0.here hx rfl (hb hby own_d1_0) rfl k) ?_
  show own_Goes p e below (s₁.setTop (mkF m 1 #[.val (.long p1), .second] [(.long p1)])) (G_own_isM Z p1 h0 n0 s)
  refine own_go (fun _ k => XS.lconst X0.here hx rfl (hb hby own_d1_1) k) ?_
  show own_Goes p e below (s₁.setTop (mkF m 2 #[.val (.long p1), .second] [(.long (0 : Int64)), (.long p1)])) (G_own_isM Z p1 h0 n0 s)
  refine own_go (fun _ k => XT.lcmp X0.here hx rfl (hb hby own_d1_2) rfl k) ?_
  show own_Goes p e below (s₁.setTop (mkF m 3 #[.val (.long p1), .second] [(.int (XT.cmpL p1 (0 : Int64)))])) (G_own_isM Z p1 h0 n0 s)
  by_cases hc3_1 : p1 < (0 : Int64)
  · refine own_go (fun _ k => XS.ifYes X0.here hx rfl (pc0 := 3) (pc' := 34) rfl (hb hby own_d1_3) rfl (XT.ll_lt_t hc3_1) (by decide) (by decide) k) ?_
    show own_Goes p e below (s₁.setTop (mkF m 34 #[.val (.long p1), .second] [])) (G_own_isM Z p1 h0 n0 s)
    refine own_go (fun _ k => XS.iconst X0.here hx rfl (hb hby own_d1_34) k) ?_
    show own_Goes p e below (s₁.setTop (mkF m 35 #[.val (.long p1), .second] [(.int (0 : Int32))])) (G_own_isM Z p1 h0 n0 s)
    obtain ⟨fs, hr, hrun, hended, hW, hsame⟩ := X0.leave (v := some (.int (0 : Int32))) (fun h => by rw [Bd.returns] at h; cases h)
    refine ⟨_, _, retN X0 hx (t := .boolean) Bd.returns (by simp) (hb hby own_d1_35) hr, hrun, hended, _, _, rfl, ?_, ⟨_, rfl⟩, hW, hsame.mono (by decide) (by decide)⟩
    show Q_own_isM Z p1 h0 n0 _ s₁.heap _
    rw [e0]
    have kk := own_k
    rw [Int64.lt_iff_toInt_lt] at hc3_1
    have hsc : own_sc p1 = 0 := if_neg (by omega)
    exact ⟨by rw [hsc], N0, rfl⟩
  · refine own_go (fun _ k => XS.ifNo X0.here hx rfl (hb hby own_d1_3) rfl (XT.ll_lt_f hc3_1) k) ?_
    show own_Goes p e below (s₁.setTop (mkF m 6 #[.val (.long p1), .second] [])) (G_own_isM Z p1 h0 n0 s)
    refine own_go (fun _ k => XS.lloadN X0.here hx rfl (hb hby own_d1_6) rfl k) ?_
    show own_Goes p e below (s₁.setTop (mkF m 7 #[.val (.long p1), .second] [(.long p1)])) (G_own_isM Z p1 h0 n0 s)
    refine own_go (fun _ k => Jvm.Stand.ldc2J (own := "com/example/remnant/remnant/core/Char") (index := 22) (v := (1114111 : Int64)) X0 hx hown (mvT hZ (hw _ (List.mem_of_getElem? (i := 12) rfl))) rfl (hb hby own_d1_7) k) ?_
    show own_Goes p e below (s₁.setTop (mkF m 10 #[.val (.long p1), .second] [(.long (1114111 : Int64)), (.long p1)])) (G_own_isM Z p1 h0 n0 s)
    refine own_go (fun _ k => XT.lcmp X0.here hx rfl (hb hby own_d1_10) rfl k) ?_
    show own_Goes p e below (s₁.setTop (mkF m 11 #[.val (.long p1), .second] [(.int (XT.cmpL p1 (1114111 : Int64)))])) (G_own_isM Z p1 h0 n0 s)
    by_cases hc11_2 : (1114111 : Int64) < p1
    · refine own_go (fun _ k => XS.ifYes X0.here hx rfl (pc0 := 11) (pc' := 34) rfl (hb hby own_d1_11) rfl (XT.ll_gt_t hc11_2) (by decide) (by decide) k) ?_
      show own_Goes p e below (s₁.setTop (mkF m 34 #[.val (.long p1), .second] [])) (G_own_isM Z p1 h0 n0 s)
      refine own_go (fun _ k => XS.iconst X0.here hx rfl (hb hby own_d1_34) k) ?_
      show own_Goes p e below (s₁.setTop (mkF m 35 #[.val (.long p1), .second] [(.int (0 : Int32))])) (G_own_isM Z p1 h0 n0 s)
      obtain ⟨fs, hr, hrun, hended, hW, hsame⟩ := X0.leave (v := some (.int (0 : Int32))) (fun h => by rw [Bd.returns] at h; cases h)
      refine ⟨_, _, retN X0 hx (t := .boolean) Bd.returns (by simp) (hb hby own_d1_35) hr, hrun, hended, _, _, rfl, ?_, ⟨_, rfl⟩, hW, hsame.mono (by decide) (by decide)⟩
      show Q_own_isM Z p1 h0 n0 _ s₁.heap _
      rw [e0]
      have kk := own_k
      rw [Int64.lt_iff_toInt_lt] at hc3_1
      rw [Int64.lt_iff_toInt_lt] at hc11_2
      have hsc : own_sc p1 = 0 := if_neg (by omega)
      exact ⟨by rw [hsc], N0, rfl⟩
    · refine own_go (fun _ k => XS.ifNo X0.here hx rfl (hb hby own_d1_11) rfl (XT.ll_gt_f hc11_2) k) ?_
      show own_Goes p e below (s₁.setTop (mkF m 14 #[.val (.long p1), .second] [])) (G_own_isM Z p1 h0 n0 s)
      refine own_go (fun _ k => XS.lloadN X0.here hx rfl (hb hby own_d1_14) rfl k) ?_
      show own_Goes p e below (s₁.setTop (mkF m 15 #[.val (.long p1), .second] [(.long p1)])) (G_own_isM Z p1 h0 n0 s)
      refine own_go (fun _ k => Jvm.Stand.ldc2J (own := "com/example/remnant/remnant/core/Char") (index := 24) (v := (55296 : Int64)) X0 hx hown (mvT hZ (hw _ (List.mem_of_getElem? (i := 13) rfl))) rfl (hb hby own_d1_15) k) ?_
      show own_Goes p e below (s₁.setTop (mkF m 18 #[.val (.long p1), .second] [(.long (55296 : Int64)), (.long p1)])) (G_own_isM Z p1 h0 n0 s)
      refine own_go (fun _ k => XT.lcmp X0.here hx rfl (hb hby own_d1_18) rfl k) ?_
      show own_Goes p e below (s₁.setTop (mkF m 19 #[.val (.long p1), .second] [(.int (XT.cmpL p1 (55296 : Int64)))])) (G_own_isM Z p1 h0 n0 s)
      by_cases hc19_3 : p1 < (55296 : Int64)
      · refine own_go (fun _ k => XS.ifYes X0.here hx rfl (pc0 := 19) (pc' := 30) rfl (hb hby own_d1_19) rfl (XT.ll_lt_t hc19_3) (by decide) (by decide) k) ?_
        show own_Goes p e below (s₁.setTop (mkF m 30 #[.val (.long p1), .second] [])) (G_own_isM Z p1 h0 n0 s)
        refine own_go (fun _ k => XS.iconst X0.here hx rfl (hb hby own_d1_30) k) ?_
        show own_Goes p e below (s₁.setTop (mkF m 31 #[.val (.long p1), .second] [(.int (1 : Int32))])) (G_own_isM Z p1 h0 n0 s)
        refine own_go (fun _ k => XS.goto X0.here hx rfl (pc0 := 31) (pc' := 35) rfl (hb hby own_d1_31) (by decide) (by decide) k) ?_
        show own_Goes p e below (s₁.setTop (mkF m 35 #[.val (.long p1), .second] [(.int (1 : Int32))])) (G_own_isM Z p1 h0 n0 s)
        obtain ⟨fs, hr, hrun, hended, hW, hsame⟩ := X0.leave (v := some (.int (1 : Int32))) (fun h => by rw [Bd.returns] at h; cases h)
        refine ⟨_, _, retN X0 hx (t := .boolean) Bd.returns (by simp) (hb hby own_d1_35) hr, hrun, hended, _, _, rfl, ?_, ⟨_, rfl⟩, hW, hsame.mono (by decide) (by decide)⟩
        show Q_own_isM Z p1 h0 n0 _ s₁.heap _
        rw [e0]
        have kk := own_k
        rw [Int64.lt_iff_toInt_lt] at hc3_1
        rw [Int64.lt_iff_toInt_lt] at hc11_2
        rw [Int64.lt_iff_toInt_lt] at hc19_3
        have hsc : own_sc p1 = 1 := if_pos (by omega)
        exact ⟨by rw [hsc], N0, rfl⟩
      · refine own_go (fun _ k => XS.ifNo X0.here hx rfl (hb hby own_d1_19) rfl (XT.ll_lt_f hc19_3) k) ?_
        show own_Goes p e below (s₁.setTop (mkF m 22 #[.val (.long p1), .second] [])) (G_own_isM Z p1 h0 n0 s)
        refine own_go (fun _ k => XS.lloadN X0.here hx rfl (hb hby own_d1_22) rfl k) ?_
        show own_Goes p e below (s₁.setTop (mkF m 23 #[.val (.long p1), .second] [(.long p1)])) (G_own_isM Z p1 h0 n0 s)
        refine own_go (fun _ k => Jvm.Stand.ldc2J (own := "com/example/remnant/remnant/core/Char") (index := 26) (v := (57343 : Int64)) X0 hx hown (mvT hZ (hw _ (List.mem_of_getElem? (i := 15) rfl))) rfl (hb hby own_d1_23) k) ?_
        show own_Goes p e below (s₁.setTop (mkF m 26 #[.val (.long p1), .second] [(.long (57343 : Int64)), (.long p1)])) (G_own_isM Z p1 h0 n0 s)
        refine own_go (fun _ k => XT.lcmp X0.here hx rfl (hb hby own_d1_26) rfl k) ?_
        show own_Goes p e below (s₁.setTop (mkF m 27 #[.val (.long p1), .second] [(.int (XT.cmpL p1 (57343 : Int64)))])) (G_own_isM Z p1 h0 n0 s)
        by_cases hc27_4 : (57343 : Int64) < p1
        · refine own_go (fun _ k => XS.ifNo X0.here hx rfl (hb hby own_d1_27) rfl (XT.ll_le_f hc27_4) k) ?_
          show own_Goes p e below (s₁.setTop (mkF m 30 #[.val (.long p1), .second] [])) (G_own_isM Z p1 h0 n0 s)
          refine own_go (fun _ k => XS.iconst X0.here hx rfl (hb hby own_d1_30) k) ?_
          show own_Goes p e below (s₁.setTop (mkF m 31 #[.val (.long p1), .second] [(.int (1 : Int32))])) (G_own_isM Z p1 h0 n0 s)
          refine own_go (fun _ k => XS.goto X0.here hx rfl (pc0 := 31) (pc' := 35) rfl (hb hby own_d1_31) (by decide) (by decide) k) ?_
          show own_Goes p e below (s₁.setTop (mkF m 35 #[.val (.long p1), .second] [(.int (1 : Int32))])) (G_own_isM Z p1 h0 n0 s)
          obtain ⟨fs, hr, hrun, hended, hW, hsame⟩ := X0.leave (v := some (.int (1 : Int32))) (fun h => by rw [Bd.returns] at h; cases h)
          refine ⟨_, _, retN X0 hx (t := .boolean) Bd.returns (by simp) (hb hby own_d1_35) hr, hrun, hended, _, _, rfl, ?_, ⟨_, rfl⟩, hW, hsame.mono (by decide) (by decide)⟩
          show Q_own_isM Z p1 h0 n0 _ s₁.heap _
          rw [e0]
          have kk := own_k
          rw [Int64.lt_iff_toInt_lt] at hc3_1
          rw [Int64.lt_iff_toInt_lt] at hc11_2
          rw [Int64.lt_iff_toInt_lt] at hc19_3
          rw [Int64.lt_iff_toInt_lt] at hc27_4
          have hsc : own_sc p1 = 1 := if_pos (by omega)
          exact ⟨by rw [hsc], N0, rfl⟩
        · refine own_go (fun _ k => XS.ifYes X0.here hx rfl (pc0 := 27) (pc' := 34) rfl (hb hby own_d1_27) rfl (XT.ll_le_t hc27_4) (by decide) (by decide) k) ?_
          show own_Goes p e below (s₁.setTop (mkF m 34 #[.val (.long p1), .second] [])) (G_own_isM Z p1 h0 n0 s)
          refine own_go (fun _ k => XS.iconst X0.here hx rfl (hb hby own_d1_34) k) ?_
          show own_Goes p e below (s₁.setTop (mkF m 35 #[.val (.long p1), .second] [(.int (0 : Int32))])) (G_own_isM Z p1 h0 n0 s)
          obtain ⟨fs, hr, hrun, hended, hW, hsame⟩ := X0.leave (v := some (.int (0 : Int32))) (fun h => by rw [Bd.returns] at h; cases h)
          refine ⟨_, _, retN X0 hx (t := .boolean) Bd.returns (by simp) (hb hby own_d1_35) hr, hrun, hended, _, _, rfl, ?_, ⟨_, rfl⟩, hW, hsame.mono (by decide) (by decide)⟩
          show Q_own_isM Z p1 h0 n0 _ s₁.heap _
          rw [e0]
          have kk := own_k
          rw [Int64.lt_iff_toInt_lt] at hc3_1
          rw [Int64.lt_iff_toInt_lt] at hc11_2
          rw [Int64.lt_iff_toInt_lt] at hc19_3
          rw [Int64.lt_iff_toInt_lt] at hc27_4
          have hsc : own_sc p1 = 0 := if_neg (by omega)
          exact ⟨by rw [hsc], N0, rfl⟩
theorem own_pn0 : plainName "com/example/remnant/remnant/core/CharIsScalarValuePinLaw" = true := by first | (simp [plainName, overriddenIn]; done) | decide +kernel
theorem own_ef_own_law (m : MethodId) (p1 : Int64) (p2 : Int32) (p3 : Int32) : entryFrame m #[(.long p1), (.int p2), (.int p3)] maxLocals = (mkF m 0 #[.val (.long p1), .second, .val (.int p2), .val (.int p3), .unset, .unset, .unset, .unset] []) := by first | (simp [entryFrame, mkF, argsToLocals, Value.category, maxLocals]; done) | rfl
def Q_own_law (Z : State) (p1 : Int64) (p2 : Int32) (p3 : Int32) (h0 : Heap) (n0 : Nat) (v : Option Value) (h : Heap) (L : List Loc) : Prop := v = some (.int 1) ∧ Fr n0 L
def G_own_law (Z : State) (p1 : Int64) (p2 : Int32) (p3 : Int32) (h0 : Heap) (n0 : Nat) (s : State) : Outcome → State → Prop := fun o U' => ∃ v L, o = .returned v ∧ Q_own_law Z p1 p2 p3 h0 n0 v U'.heap L ∧ FrameEnd s o U' L room_1.cells room_1.slots
theorem own_pd0 : parseMethodDescriptor "(J)Z" = some ⟨[.long], some .boolean⟩ := by decide +kernel
set_option maxRecDepth 65536 in
set_option maxHeartbeats 40000000 in
theorem own_law (l : Launch) (Z : State) (a0 : Array Value) (hw : ∀ d ∈ tables_1, d.before a0 Z = true) (ws : List Jvm.Cond) (p1 : Int64) (p2 : Int32) (p3 : Int32) (h0 : Heap) (n0 : Nat) (Z0 : n0 ≤ h0.size)  :
    MetFree l x (head1 (Jvm.Cond.code x code maxLocals ret :: ws) room_1) (fun a U => a = #[(.long p1), (.int p2), (.int p3)] ∧ Z.Warmed39 U.vm ∧ U.heap = h0) (fun _ _ _ _ _ => True) (fun _ U o U' => ∃ v L, o = .returned v ∧ Q_own_law Z p1 p2 p3 h0 n0 v U'.heap L ∧ FrameEnd U o U' L room_1.cells room_1.slots) := by
  refine MetFree.of_bodySF (plainFor_of_name own_pn0) hisR ?_
  intro p e s m args below meth c s₁ Bd hml0 hP hK
  obtain ⟨rfl, hZ, hh⟩ := hP
  have hx := Bd.exec
  have hby := Bd.bytes
  have hml : c.maxLocals = 8 := hml0
  have hown : s.vm.findClass "com/example/remnant/remnant/core/CharIsScalarValuePinLaw" = some m.cls := findClass_of_methodNamed Bd.named
  have hnm := (name_of_methodNamed Bd.named Bd.method).1
  have X0 : Stand p l e room_1 s m #[(.long p1), (.int p2), (.int p3)] below meth c s₁ [] 0 0 := Stand.of_body Bd
  have e0 : s₁.heap = h0 := by rw [← hh, Bd.state]; rfl
  have N0 := Fr.nil n0
  refine own_go (S := s₁.setTop (entryFrame m #[(.long p1), (.int p2), (.int p3)] maxLocals)) (Q := (G_own_law Z p1 p2 p3 h0 n0 s)) (fun _ k => castTop (own_ef_own_law m p1 p2 p3) k) ?_
  show own_Goes p e below (s₁.setTop (mkF m 0 #[.val (.long p1), .second, .val (.int p2), .val (.int p3), .unset, .unset, .unset, .unset] [])) (G_own_law Z p1 p2 p3 h0 n0 s)
  refine own_go (fun _ k => XS.bipush X0.here hx rfl (hb hby at_0) k) ?_
  show own_Goes p e below (s₁.setTop (mkF m 2 #[.val (.long p1), .second, .val (.int p2), .val (.int p3), .unset, .unset, .unset, .unset] [(.int (8 : Int32))])) (G_own_law Z p1 p2 p3 h0 n0 s)
  obtain ⟨T5, h5, cA5, X5, e5, E5, A5, st5⟩ := newP X0 hx hZ (aty := .long) (hw _ (List.mem_of_getElem? (i := 0) rfl)) e0 (g := (mkF m 2 #[.val (.long p1), .second, .val (.int p2), .val (.int p3), .unset, .unset, .unset, .unset] [(.int (8 : Int32))])) rfl (hb hby at_2) rfl (by decide) (cap := 8) (by decide) (by decide) (by decide) (by decide)
  obtain ⟨b5, g5⟩ : ∃ z, z = h0.size := ⟨_, rfl⟩
  rw [← g5] at A5 st5
  have g_b5 : n0 ≤ b5 := by rw [g5]; exact Z0
  have Z5 : n0 ≤ h5.size := Nat.le_trans Z0 E5.1
  have Av5 : Arv Z h5 b5 cA5 .long (8 : Int32) [] (.long (0 : Int64)) := Arv.new A5 (by decide)
  have Aw5 : Arv Z h5 b5 cA5 .long (8 : Int32) [(.long (0 : Int64)), (.long (0 : Int64)), (.long (0 : Int64)), (.long (0 : Int64)), (.long (0 : Int64)), (.long (0 : Int64)), (.long (0 : Int64)), (.long (0 : Int64))] (.long (0 : Int64)) := Av5.pad (pad_rep [] _ 8)
  refine own_go st5 ?_
  show own_Goes p e below (T5.setTop (mkF m 4 #[.val (.long p1), .second, .val (.int p2), .val (.int p3), .unset, .unset, .unset, .unset] [(.ref b5)])) (G_own_law Z p1 p2 p3 h0 n0 s)
  refine own_go (fun _ k => XS.dup X5.here hx rfl (hb hby at_4) rfl rfl k) ?_
  show own_Goes p e below (T5.setTop (mkF m 5 #[.val (.long p1), .second, .val (.int p2), .val (.int p3), .unset, .unset, .unset, .unset] [(.ref b5), (.ref b5)])) (G_own_law Z p1 p2 p3 h0 n0 s)
  refine own_go (fun _ k => XS.iconst X5.here hx rfl (hb hby at_5) k) ?_
  show own_Goes p e below (T5.setTop (mkF m 6 #[.val (.long p1), .second, .val (.int p2), .val (.int p3), .unset, .unset, .unset, .unset] [(.int (0 : Int32)), (.ref b5), (.ref b5)])) (G_own_law Z p1 p2 p3 h0 n0 s)
  refine own_go (fun _ k => XS.lconst X5.here hx rfl (hb hby at_6) k) ?_
  show own_Goes p e below (T5.setTop (mkF m 7 #[.val (.long p1), .second, .val (.int p2), .val (.int p3), .unset, .unset, .unset, .unset] [(.long (0 : Int64)), (.int (0 : Int32)), (.ref b5), (.ref b5)])) (G_own_law Z p1 p2 p3 h0 n0 s)
  obtain ⟨c7, Ar7, q7, s7, z7, H7, G7⟩ := Aw5
  have hin7 := inb_of s7 (j := (0 : Int32)) (by decide)
  obtain ⟨T7, h7, X7, e7, W7, st7⟩ := stJ X5 hx hZ e5 Ar7 hin7 (g := (mkF m 7 #[.val (.long p1), .second, .val (.int p2), .val (.int p3), .unset, .unset, .unset, .unset] [(.long (0 : Int64)), (.int (0 : Int32)), (.ref b5), (.ref b5)])) rfl rfl (hb hby at_7)
  have Av7 : Arv Z h7 b5 cA5 .long (8 : Int32) [(.long (0 : Int64)), (.long (0 : Int64)), (.long (0 : Int64)), (.long (0 : Int64)), (.long (0 : Int64)), (.long (0 : Int64)), (.long (0 : Int64)), (.long (0 : Int64))] (.long (0 : Int64)) := Arv.set Ar7 q7 s7 z7 H7 G7 (v := (.long (0 : Int64))) rfl W7 0 rfl (by decide)
  have N7 := Fr.snoc X7 N0 g_b5
  have Z7 : n0 ≤ h7.size := by rw [W7.size]; exact Z5
  refine own_go st7 ?_
  show own_Goes p e below (T7.setTop (mkF m 8 #[.val (.long p1), .second, .val (.int p2), .val (.int p3), .unset, .unset, .unset, .unset] [(.ref b5)])) (G_own_law Z p1 p2 p3 h0 n0 s)
  refine own_go (fun _ k => XS.dup X7.here hx rfl (hb hby at_8) rfl rfl k) ?_
  show own_Goes p e below (T7.setTop (mkF m 9 #[.val (.long p1), .second, .val (.int p2), .val (.int p3), .unset, .unset, .unset, .unset] [(.ref b5), (.ref b5)])) (G_own_law Z p1 p2 p3 h0 n0 s)
  refine own_go (fun _ k => XS.iconst X7.here hx rfl (hb hby at_9) k) ?_
  show own_Goes p e below (T7.setTop (mkF m 10 #[.val (.long p1), .second, .val (.int p2), .val (.int p3), .unset, .unset, .unset, .unset] [(.int (1 : Int32)), (.ref b5), (.ref b5)])) (G_own_law Z p1 p2 p3 h0 n0 s)
  refine own_go (fun _ k => Jvm.Stand.ldc2J (own := "com/example/remnant/remnant/core/CharIsScalarValuePinLaw") (index := 7) (v := (55296 : Int64)) X7 hx hown (mvT hZ (hw _ (List.mem_of_getElem? (i := 1) rfl))) rfl (hb hby at_10) k) ?_
  show own_Goes p e below (T7.setTop (mkF m 13 #[.val (.long p1), .second, .val (.int p2), .val (.int p3), .unset, .unset, .unset, .unset] [(.long (55296 : Int64)), (.int (1 : Int32)), (.ref b5), (.ref b5)])) (G_own_law Z p1 p2 p3 h0 n0 s)
  obtain ⟨c8, Ar8, q8, s8, z8, H8, G8⟩ := Av7
  have hin8 := inb_of s8 (j := (1 : Int32)) (by decide)
  obtain ⟨T8, h8, X8, e8, W8, st8⟩ := stJ X7 hx hZ e7 Ar8 hin8 (g := (mkF m 13 #[.val (.long p1), .second, .val (.int p2), .val (.int p3), .unset, .unset, .unset, .unset] [(.long (55296 : Int64)), (.int (1 : Int32)), (.ref b5), (.ref b5)])) rfl rfl (hb hby at_13)
  have Av8 : Arv Z h8 b5 cA5 .long (8 : Int32) [(.long (0 : Int64)), (.long (55296 : Int64)), (.long (0 : Int64)), (.long (0 : Int64)), (.long (0 : Int64)), (.long (0 : Int64)), (.long (0 : Int64)), (.long (0 : Int64))] (.long (0 : Int64)) := Arv.set Ar8 q8 s8 z8 H8 G8 (v := (.long (55296 : Int64))) rfl W8 1 rfl (by decide)
  have N8 := Fr.snoc X8 N7 g_b5
  have Z8 : n0 ≤ h8.size := by rw [W8.size]; exact Z7
  refine own_go st8 ?_
  show own_Goes p e below (T8.setTop (mkF m 14 #[.val (.long p1), .second, .val (.int p2), .val (.int p3), .unset, .unset, .unset, .unset] [(.ref b5)])) (G_own_law Z p1 p2 p3 h0 n0 s)
  refine own_go (fun _ k => XS.dup X8.here hx rfl (hb hby at_14) rfl rfl k) ?_
  show own_Goes p e below (T8.setTop (mkF m 15 #[.val (.long p1), .second, .val (.int p2), .val (.int p3), .unset, .unset, .unset, .unset] [(.ref b5), (.ref b5)])) (G_own_law Z p1 p2 p3 h0 n0 s)
  refine own_go (fun _ k => XS.iconst X8.here hx rfl (hb hby at_15) k) ?_
  show own_Goes p e below (T8.setTop (mkF m 16 #[.val (.long p1), .second, .val (.int p2), .val (.int p3), .unset, .unset, .unset, .unset] [(.int (2 : Int32)), (.ref b5), (.ref b5)])) (G_own_law Z p1 p2 p3 h0 n0 s)
  refine own_go (fun _ k => Jvm.Stand.ldc2J (own := "com/example/remnant/remnant/core/CharIsScalarValuePinLaw") (index := 9) (v := (57343 : Int64)) X8 hx hown (mvT hZ (hw _ (List.mem_of_getElem? (i := 2) rfl))) rfl (hb hby at_16) k) ?_
  show own_Goes p e below (T8.setTop (mkF m 19 #[.val (.long p1), .second, .val (.int p2), .val (.int p3), .unset, .unset, .unset, .unset] [(.long (57343 : Int64)), (.int (2 : Int32)), (.ref b5), (.ref b5)])) (G_own_law Z p1 p2 p3 h0 n0 s)
  obtain ⟨c9, Ar9, q9, s9, z9, H9, G9⟩ := Av8
  have hin9 := inb_of s9 (j := (2 : Int32)) (by decide)
  obtain ⟨T9, h9, X9, e9, W9, st9⟩ := stJ X8 hx hZ e8 Ar9 hin9 (g := (mkF m 19 #[.val (.long p1), .second, .val (.int p2), .val (.int p3), .unset, .unset, .unset, .unset] [(.long (57343 : Int64)), (.int (2 : Int32)), (.ref b5), (.ref b5)])) rfl rfl (hb hby at_19)
  have Av9 : Arv Z h9 b5 cA5 .long (8 : Int32) [(.long (0 : Int64)), (.long (55296 : Int64)), (.long (57343 : Int64)), (.long (0 : Int64)), (.long (0 : Int64)), (.long (0 : Int64)), (.long (0 : Int64)), (.long (0 : Int64))] (.long (0 : Int64)) := Arv.set Ar9 q9 s9 z9 H9 G9 (v := (.long (57343 : Int64))) rfl W9 2 rfl (by decide)
  have N9 := Fr.snoc X9 N8 g_b5
  have Z9 : n0 ≤ h9.size := by rw [W9.size]; exact Z8
  refine own_go st9 ?_
  show own_Goes p e below (T9.setTop (mkF m 20 #[.val (.long p1), .second, .val (.int p2), .val (.int p3), .unset, .unset, .unset, .unset] [(.ref b5)])) (G_own_law Z p1 p2 p3 h0 n0 s)
  refine own_go (fun _ k => XS.dup X9.here hx rfl (hb hby at_20) rfl rfl k) ?_
  show own_Goes p e below (T9.setTop (mkF m 21 #[.val (.long p1), .second, .val (.int p2), .val (.int p3), .unset, .unset, .unset, .unset] [(.ref b5), (.ref b5)])) (G_own_law Z p1 p2 p3 h0 n0 s)
  refine own_go (fun _ k => XS.iconst X9.here hx rfl (hb hby at_21) k) ?_
  show own_Goes p e below (T9.setTop (mkF m 22 #[.val (.long p1), .second, .val (.int p2), .val (.int p3), .unset, .unset, .unset, .unset] [(.int (3 : Int32)), (.ref b5), (.ref b5)])) (G_own_law Z p1 p2 p3 h0 n0 s)
  refine own_go (fun _ k => Jvm.Stand.ldc2J (own := "com/example/remnant/remnant/core/CharIsScalarValuePinLaw") (index := 11) (v := (1114111 : Int64)) X9 hx hown (mvT hZ (hw _ (List.mem_of_getElem? (i := 3) rfl))) rfl (hb hby at_22) k) ?_
  show own_Goes p e below (T9.setTop (mkF m 25 #[.val (.long p1), .second, .val (.int p2), .val (.int p3), .unset, .unset, .unset, .unset] [(.long (1114111 : Int64)), (.int (3 : Int32)), (.ref b5), (.ref b5)])) (G_own_law Z p1 p2 p3 h0 n0 s)
  obtain ⟨c10, Ar10, q10, s10, z10, H10, G10⟩ := Av9
  have hin10 := inb_of s10 (j := (3 : Int32)) (by decide)
  obtain ⟨T10, h10, X10, e10, W10, st10⟩ := stJ X9 hx hZ e9 Ar10 hin10 (g := (mkF m 25 #[.val (.long p1), .second, .val (.int p2), .val (.int p3), .unset, .unset, .unset, .unset] [(.long (1114111 : Int64)), (.int (3 : Int32)), (.ref b5), (.ref b5)])) rfl rfl (hb hby at_25)
  have Av10 : Arv Z h10 b5 cA5 .long (8 : Int32) [(.long (0 : Int64)), (.long (55296 : Int64)), (.long (57343 : Int64)), (.long (1114111 : Int64)), (.long (0 : Int64)), (.long (0 : Int64)), (.long (0 : Int64)), (.long (0 : Int64))] (.long (0 : Int64)) := Arv.set Ar10 q10 s10 z10 H10 G10 (v := (.long (1114111 : Int64))) rfl W10 3 rfl (by decide)
  have N10 := Fr.snoc X10 N9 g_b5
  have Z10 : n0 ≤ h10.size := by rw [W10.size]; exact Z9
  refine own_go st10 ?_
  show own_Goes p e below (T10.setTop (mkF m 26 #[.val (.long p1), .second, .val (.int p2), .val (.int p3), .unset, .unset, .unset, .unset] [(.ref b5)])) (G_own_law Z p1 p2 p3 h0 n0 s)
  refine own_go (fun _ k => XS.dup X10.here hx rfl (hb hby at_26) rfl rfl k) ?_
  show own_Goes p e below (T10.setTop (mkF m 27 #[.val (.long p1), .second, .val (.int p2), .val (.int p3), .unset, .unset, .unset, .unset] [(.ref b5), (.ref b5)])) (G_own_law Z p1 p2 p3 h0 n0 s)
  refine own_go (fun _ k => XS.iconst X10.here hx rfl (hb hby at_27) k) ?_
  show own_Goes p e below (T10.setTop (mkF m 28 #[.val (.long p1), .second, .val (.int p2), .val (.int p3), .unset, .unset, .unset, .unset] [(.int (4 : Int32)), (.ref b5), (.ref b5)])) (G_own_law Z p1 p2 p3 h0 n0 s)
  refine own_go (fun _ k => Jvm.Stand.ldc2J (own := "com/example/remnant/remnant/core/CharIsScalarValuePinLaw") (index := 13) (v := (57344 : Int64)) X10 hx hown (mvT hZ (hw _ (List.mem_of_getElem? (i := 4) rfl))) rfl (hb hby at_28) k) ?_
  show own_Goes p e below (T10.setTop (mkF m 31 #[.val (.long p1), .second, .val (.int p2), .val (.int p3), .unset, .unset, .unset, .unset] [(.long (57344 : Int64)), (.int (4 : Int32)), (.ref b5), (.ref b5)])) (G_own_law Z p1 p2 p3 h0 n0 s)
  obtain ⟨c11, Ar11, q11, s11, z11, H11, G11⟩ := Av10
  have hin11 := inb_of s11 (j := (4 : Int32)) (by decide)
  obtain ⟨T11, h11, X11, e11, W11, st11⟩ := stJ X10 hx hZ e10 Ar11 hin11 (g := (mkF m 31 #[.val (.long p1), .second, .val (.int p2), .val (.int p3), .unset, .unset, .unset, .unset] [(.long (57344 : Int64)), (.int (4 : Int32)), (.ref b5), (.ref b5)])) rfl rfl (hb hby at_31)
  have Av11 : Arv Z h11 b5 cA5 .long (8 : Int32) [(.long (0 : Int64)), (.long (55296 : Int64)), (.long (57343 : Int64)), (.long (1114111 : Int64)), (.long (57344 : Int64)), (.long (0 : Int64)), (.long (0 : Int64)), (.long (0 : Int64))] (.long (0 : Int64)) := Arv.set Ar11 q11 s11 z11 H11 G11 (v := (.long (57344 : Int64))) rfl W11 4 rfl (by decide)
  have N11 := Fr.snoc X11 N10 g_b5
  have Z11 : n0 ≤ h11.size := by rw [W11.size]; exact Z10
  refine own_go st11 ?_
  show own_Goes p e below (T11.setTop (mkF m 32 #[.val (.long p1), .second, .val (.int p2), .val (.int p3), .unset, .unset, .unset, .unset] [(.ref b5)])) (G_own_law Z p1 p2 p3 h0 n0 s)
  refine own_go (fun _ k => XS.dup X11.here hx rfl (hb hby at_32) rfl rfl k) ?_
  show own_Goes p e below (T11.setTop (mkF m 33 #[.val (.long p1), .second, .val (.int p2), .val (.int p3), .unset, .unset, .unset, .unset] [(.ref b5), (.ref b5)])) (G_own_law Z p1 p2 p3 h0 n0 s)
  refine own_go (fun _ k => XS.iconst X11.here hx rfl (hb hby at_33) k) ?_
  show own_Goes p e below (T11.setTop (mkF m 34 #[.val (.long p1), .second, .val (.int p2), .val (.int p3), .unset, .unset, .unset, .unset] [(.int (5 : Int32)), (.ref b5), (.ref b5)])) (G_own_law Z p1 p2 p3 h0 n0 s)
  refine own_go (fun _ k => Jvm.Stand.ldc2J (own := "com/example/remnant/remnant/core/CharIsScalarValuePinLaw") (index := 17) (v := (-9223372036854775808 : Int64)) X11 hx hown (mvT hZ (hw _ (List.mem_of_getElem? (i := 5) rfl))) rfl (hb hby at_34) k) ?_
  show own_Goes p e below (T11.setTop (mkF m 37 #[.val (.long p1), .second, .val (.int p2), .val (.int p3), .unset, .unset, .unset, .unset] [(.long (-9223372036854775808 : Int64)), (.int (5 : Int32)), (.ref b5), (.ref b5)])) (G_own_law Z p1 p2 p3 h0 n0 s)
  obtain ⟨c12, Ar12, q12, s12, z12, H12, G12⟩ := Av11
  have hin12 := inb_of s12 (j := (5 : Int32)) (by decide)
  obtain ⟨T12, h12, X12, e12, W12, st12⟩ := stJ X11 hx hZ e11 Ar12 hin12 (g := (mkF m 37 #[.val (.long p1), .second, .val (.int p2), .val (.int p3), .unset, .unset, .unset, .unset] [(.long (-9223372036854775808 : Int64)), (.int (5 : Int32)), (.ref b5), (.ref b5)])) rfl rfl (hb hby at_37)
  have Av12 : Arv Z h12 b5 cA5 .long (8 : Int32) [(.long (0 : Int64)), (.long (55296 : Int64)), (.long (57343 : Int64)), (.long (1114111 : Int64)), (.long (57344 : Int64)), (.long (-9223372036854775808 : Int64)), (.long (0 : Int64)), (.long (0 : Int64))] (.long (0 : Int64)) := Arv.set Ar12 q12 s12 z12 H12 G12 (v := (.long (-9223372036854775808 : Int64))) rfl W12 5 rfl (by decide)
  have N12 := Fr.snoc X12 N11 g_b5
  have Z12 : n0 ≤ h12.size := by rw [W12.size]; exact Z11
  refine own_go st12 ?_
  show own_Goes p e below (T12.setTop (mkF m 38 #[.val (.long p1), .second, .val (.int p2), .val (.int p3), .unset, .unset, .unset, .unset] [(.ref b5)])) (G_own_law Z p1 p2 p3 h0 n0 s)
  refine own_go (fun _ k => XS.dup X12.here hx rfl (hb hby at_38) rfl rfl k) ?_
  show own_Goes p e below (T12.setTop (mkF m 39 #[.val (.long p1), .second, .val (.int p2), .val (.int p3), .unset, .unset, .unset, .unset] [(.ref b5), (.ref b5)])) (G_own_law Z p1 p2 p3 h0 n0 s)
  refine own_go (fun _ k => XS.bipush X12.here hx rfl (hb hby at_39) k) ?_
  show own_Goes p e below (T12.setTop (mkF m 41 #[.val (.long p1), .second, .val (.int p2), .val (.int p3), .unset, .unset, .unset, .unset] [(.int (6 : Int32)), (.ref b5), (.ref b5)])) (G_own_law Z p1 p2 p3 h0 n0 s)
  refine own_go (fun _ k => Jvm.Stand.ldc2J (own := "com/example/remnant/remnant/core/CharIsScalarValuePinLaw") (index := 19) (v := (4294967361 : Int64)) X12 hx hown (mvT hZ (hw _ (List.mem_of_getElem? (i := 6) rfl))) rfl (hb hby at_41) k) ?_
  show own_Goes p e below (T12.setTop (mkF m 44 #[.val (.long p1), .second, .val (.int p2), .val (.int p3), .unset, .unset, .unset, .unset] [(.long (4294967361 : Int64)), (.int (6 : Int32)), (.ref b5), (.ref b5)])) (G_own_law Z p1 p2 p3 h0 n0 s)
  obtain ⟨c13, Ar13, q13, s13, z13, H13, G13⟩ := Av12
  have hin13 := inb_of s13 (j := (6 : Int32)) (by decide)
  obtain ⟨T13, h13, X13, e13, W13, st13⟩ := stJ X12 hx hZ e12 Ar13 hin13 (g := (mkF m 44 #[.val (.long p1), .second, .val (.int p2), .val (.int p3), .unset, .unset, .unset, .unset] [(.long (4294967361 : Int64)), (.int (6 : Int32)), (.ref b5), (.ref b5)])) rfl rfl (hb hby at_44)
  have Av13 : Arv Z h13 b5 cA5 .long (8 : Int32) [(.long (0 : Int64)), (.long (55296 : Int64)), (.long (57343 : Int64)), (.long (1114111 : Int64)), (.long (57344 : Int64)), (.long (-9223372036854775808 : Int64)), (.long (4294967361 : Int64)), (.long (0 : Int64))] (.long (0 : Int64)) := Arv.set Ar13 q13 s13 z13 H13 G13 (v := (.long (4294967361 : Int64))) rfl W13 6 rfl (by decide)
  have N13 := Fr.snoc X13 N12 g_b5
  have Z13 : n0 ≤ h13.size := by rw [W13.size]; exact Z12
  refine own_go st13 ?_
  show own_Goes p e below (T13.setTop (mkF m 45 #[.val (.long p1), .second, .val (.int p2), .val (.int p3), .unset, .unset, .unset, .unset] [(.ref b5)])) (G_own_law Z p1 p2 p3 h0 n0 s)
  refine own_go (fun _ k => XS.dup X13.here hx rfl (hb hby at_45) rfl rfl k) ?_
  show own_Goes p e below (T13.setTop (mkF m 46 #[.val (.long p1), .second, .val (.int p2), .val (.int p3), .unset, .unset, .unset, .unset] [(.ref b5), (.ref b5)])) (G_own_law Z p1 p2 p3 h0 n0 s)
  refine own_go (fun _ k => XS.bipush X13.here hx rfl (hb hby at_46) k) ?_
  show own_Goes p e below (T13.setTop (mkF m 48 #[.val (.long p1), .second, .val (.int p2), .val (.int p3), .unset, .unset, .unset, .unset] [(.int (7 : Int32)), (.ref b5), (.ref b5)])) (G_own_law Z p1 p2 p3 h0 n0 s)
  refine own_go (fun _ k => Jvm.Stand.ldc2J (own := "com/example/remnant/remnant/core/CharIsScalarValuePinLaw") (index := 21) (v := (4294967295 : Int64)) X13 hx hown (mvT hZ (hw _ (List.mem_of_getElem? (i := 7) rfl))) rfl (hb hby at_48) k) ?_
  show own_Goes p e below (T13.setTop (mkF m 51 #[.val (.long p1), .second, .val (.int p2), .val (.int p3), .unset, .unset, .unset, .unset] [(.long (4294967295 : Int64)), (.int (7 : Int32)), (.ref b5), (.ref b5)])) (G_own_law Z p1 p2 p3 h0 n0 s)
  obtain ⟨c14, Ar14, q14, s14, z14, H14, G14⟩ := Av13
  have hin14 := inb_of s14 (j := (7 : Int32)) (by decide)
  obtain ⟨T14, h14, X14, e14, W14, st14⟩ := stJ X13 hx hZ e13 Ar14 hin14 (g := (mkF m 51 #[.val (.long p1), .second, .val (.int p2), .val (.int p3), .unset, .unset, .unset, .unset] [(.long (4294967295 : Int64)), (.int (7 : Int32)), (.ref b5), (.ref b5)])) rfl rfl (hb hby at_51)
  have Av14 : Arv Z h14 b5 cA5 .long (8 : Int32) [(.long (0 : Int64)), (.long (55296 : Int64)), (.long (57343 : Int64)), (.long (1114111 : Int64)), (.long (57344 : Int64)), (.long (-9223372036854775808 : Int64)), (.long (4294967361 : Int64)), (.long (4294967295 : Int64))] (.long (0 : Int64)) := Arv.set Ar14 q14 s14 z14 H14 G14 (v := (.long (4294967295 : Int64))) rfl W14 7 rfl (by decide)
  have N14 := Fr.snoc X14 N13 g_b5
  have Z14 : n0 ≤ h14.size := by rw [W14.size]; exact Z13
  refine own_go st14 ?_
  show own_Goes p e below (T14.setTop (mkF m 52 #[.val (.long p1), .second, .val (.int p2), .val (.int p3), .unset, .unset, .unset, .unset] [(.ref b5)])) (G_own_law Z p1 p2 p3 h0 n0 s)
  refine own_go (fun _ k => XS.astore X14.here hx rfl (hb hby at_52) rfl rfl (l' := #[.val (.long p1), .second, .val (.int p2), .val (.int p3), .val (.ref b5), .unset, .unset, .unset]) rfl k) ?_
  show own_Goes p e below (T14.setTop (mkF m 54 #[.val (.long p1), .second, .val (.int p2), .val (.int p3), .val (.ref b5), .unset, .unset, .unset] [])) (G_own_law Z p1 p2 p3 h0 n0 s)
  refine own_join (P := fun cc : Int64 => True) (F := fun cc => T14.setTop (mkF m 82 #[.val (.long p1), .second, .val (.int p2), .val (.int p3), .val (.ref b5), .val (.long cc), .second, .unset] [])) ?_ ?_
  · intro cc h_cc
    show own_Goes p e below (T14.setTop (mkF m 82 #[.val (.long p1), .second, .val (.int p2), .val (.int p3), .val (.ref b5), .val (.long cc), .second, .unset] [])) (G_own_law Z p1 p2 p3 h0 n0 s)
    refine own_join (P := fun z : Int32 => z = own_sc cc) (F := fun z => T14.setTop (mkF m 121 #[.val (.long p1), .second, .val (.int p2), .val (.int p3), .val (.ref b5), .val (.long cc), .second, .unset] [(.int z)])) ?_ ?_
    · intro z h_z
      show own_Goes p e below (T14.setTop (mkF m 121 #[.val (.long p1), .second, .val (.int p2), .val (.int p3), .val (.ref b5), .val (.long cc), .second, .unset] [(.int z)])) (G_own_law Z p1 p2 p3 h0 n0 s)
      refine own_go (fun _ k => XS.istore X14.here hx rfl (hb hby at_121) rfl (l' := #[.val (.long p1), .second, .val (.int p2), .val (.int p3), .val (.ref b5), .val (.long cc), .second, .val (.int z)]) rfl k) ?_
      show own_Goes p e below (T14.setTop (mkF m 123 #[.val (.long p1), .second, .val (.int p2), .val (.int p3), .val (.ref b5), .val (.long cc), .second, .val (.int z)] [])) (G_own_law Z p1 p2 p3 h0 n0 s)
      refine own_go (fun _ k => XS.lload X14.here hx rfl (hb hby at_123) rfl k) ?_
      show own_Goes p e below (T14.setTop (mkF m 125 #[.val (.long p1), .second, .val (.int p2), .val (.int p3), .val (.ref b5), .val (.long cc), .second, .val (.int z)] [(.long cc)])) (G_own_law Z p1 p2 p3 h0 n0 s)
      obtain ⟨_, _, ⟨T17, L17, k17, n17⟩, -, X17, ⟨Lc17, hQ17, l17, y17, z17⟩, st17⟩ := Jvm.LawKit.callS X14 hx (y := (⟨"com/example/remnant/remnant/core/Char", "isScalarValue", "(J)Z"⟩ : MethodName)) hown (mvT hZ (hw _ (List.mem_of_getElem? (i := 8) rfl))) (mvT hZ (hw _ (List.mem_of_getElem? (i := 9) rfl))) (mvT hZ (hw _ (List.mem_of_getElem? (i := 10) rfl))) (mvT hZ (hw _ (List.mem_of_getElem? (i := 11) rfl))) (by decide) (backOf (W := 0) (own_isM l Z a0 hw [] cc h14 n0 Z14 ) hZ (hw _ (List.mem_of_getElem? (i := 11) rfl)) (hw _ (List.mem_of_getElem? (i := 10) rfl)) (by decide) (by decide)) (g := (mkF m 125 #[.val (.long p1), .second, .val (.int p2), .val (.int p3), .val (.ref b5), .val (.long cc), .second, .val (.int z)] [(.long cc)])) rfl (by rw [hml]; rfl) (argsL := [(.long cc)]) (rest := []) (lenOf own_pd0 rfl) rfl (by show 2 * 0 + _ ≤ _; exact Nat.le_of_eq rfl) (hb hby at_125) (fun _ _ => ⟨rfl, e14, (by decide : 1 + 0 ≤ _), (by decide : 8 + 0 ≤ _)⟩)
      dsimp only [Pt.U, Pt.locs, Pt.cells, Pt.slots] at X17 l17 y17 z17 st17 hQ17
      subst l17 y17 z17
      obtain ⟨rfl, N17q, e17⟩ := hQ17
      have N17 := Fr.app N14 N17q
      refine own_go st17 ?_
      show own_Goes p e below (T17.setTop (mkF m 128 #[.val (.long p1), .second, .val (.int p2), .val (.int p3), .val (.ref b5), .val (.long cc), .second, .val (.int z)] [(.int (own_sc cc))])) (G_own_law Z p1 p2 p3 h0 n0 s)
      refine own_go (fun _ k => XS.iload X17.here hx rfl (hb hby at_128) rfl k) ?_
      show own_Goes p e below (T17.setTop (mkF m 130 #[.val (.long p1), .second, .val (.int p2), .val (.int p3), .val (.ref b5), .val (.long cc), .second, .val (.int z)] [(.int z), (.int (own_sc cc))])) (G_own_law Z p1 p2 p3 h0 n0 s)
      refine own_go (fun _ k => XS.icmpNo X17.here hx rfl (hb hby at_130) rfl (XT.ii_ne_f h_z.symm) k) ?_
      show own_Goes p e below (T17.setTop (mkF m 133 #[.val (.long p1), .second, .val (.int p2), .val (.int p3), .val (.ref b5), .val (.long cc), .second, .val (.int z)] [])) (G_own_law Z p1 p2 p3 h0 n0 s)
      refine own_go (fun _ k => XS.iconst X17.here hx rfl (hb hby at_133) k) ?_
      show own_Goes p e below (T17.setTop (mkF m 134 #[.val (.long p1), .second, .val (.int p2), .val (.int p3), .val (.ref b5), .val (.long cc), .second, .val (.int z)] [(.int (1 : Int32))])) (G_own_law Z p1 p2 p3 h0 n0 s)
      refine own_go (fun _ k => XS.goto X17.here hx rfl (pc0 := 134) (pc' := 138) rfl (hb hby at_134) (by decide) (by decide) k) ?_
      show own_Goes p e below (T17.setTop (mkF m 138 #[.val (.long p1), .second, .val (.int p2), .val (.int p3), .val (.ref b5), .val (.long cc), .second, .val (.int z)] [(.int (1 : Int32))])) (G_own_law Z p1 p2 p3 h0 n0 s)
      obtain ⟨fs, hr, hrun, hended, hW, hsame⟩ := X17.leave (v := some (.int (1 : Int32))) (fun h => by rw [Bd.returns] at h; cases h)
      refine ⟨_, _, retN X17 hx (t := .boolean) Bd.returns (by simp) (hb hby at_138) hr, hrun, hended, _, _, rfl, ?_, ⟨_, rfl⟩, hW, hsame.mono (by decide) (by decide)⟩
      show Q_own_law Z p1 p2 p3 h0 n0 _ T17.heap _
      rw [e17]
      exact ⟨rfl, N17⟩
    · intro J121_16
      refine own_go (fun _ k => XS.lload X14.here hx rfl (hb hby at_82) rfl k) ?_
      show own_Goes p e below (T14.setTop (mkF m 84 #[.val (.long p1), .second, .val (.int p2), .val (.int p3), .val (.ref b5), .val (.long cc), .second, .unset] [(.long cc)])) (G_own_law Z p1 p2 p3 h0 n0 s)
      refine own_go (fun _ k => XS.lconst X14.here hx rfl (hb hby at_84) k) ?_
      show own_Goes p e below (T14.setTop (mkF m 85 #[.val (.long p1), .second, .val (.int p2), .val (.int p3), .val (.ref b5), .val (.long cc), .second, .unset] [(.long (0 : Int64)), (.long cc)])) (G_own_law Z p1 p2 p3 h0 n0 s)
      refine own_go (fun _ k => XT.lcmp X14.here hx rfl (hb hby at_85) rfl k) ?_
      show own_Goes p e below (T14.setTop (mkF m 86 #[.val (.long p1), .second, .val (.int p2), .val (.int p3), .val (.ref b5), .val (.long cc), .second, .unset] [(.int (XT.cmpL cc (0 : Int64)))])) (G_own_law Z p1 p2 p3 h0 n0 s)
      by_cases hc86_18 : cc < (0 : Int64)
      · refine own_go (fun _ k => XS.ifYes X14.here hx rfl (pc0 := 86) (pc' := 98) rfl (hb hby at_86) rfl (XT.ll_lt_t hc86_18) (by decide) (by decide) k) ?_
        show own_Goes p e below (T14.setTop (mkF m 98 #[.val (.long p1), .second, .val (.int p2), .val (.int p3), .val (.ref b5), .val (.long cc), .second, .unset] [])) (G_own_law Z p1 p2 p3 h0 n0 s)
        refine own_go (fun _ k => XS.lload X14.here hx rfl (hb hby at_98) rfl k) ?_
        show own_Goes p e below (T14.setTop (mkF m 100 #[.val (.long p1), .second, .val (.int p2), .val (.int p3), .val (.ref b5), .val (.long cc), .second, .unset] [(.long cc)])) (G_own_law Z p1 p2 p3 h0 n0 s)
        refine own_go (fun _ k => Jvm.Stand.ldc2J (own := "com/example/remnant/remnant/core/CharIsScalarValuePinLaw") (index := 13) (v := (57344 : Int64)) X14 hx hown (mvT hZ (hw _ (List.mem_of_getElem? (i := 4) rfl))) rfl (hb hby at_100) k) ?_
        show own_Goes p e below (T14.setTop (mkF m 103 #[.val (.long p1), .second, .val (.int p2), .val (.int p3), .val (.ref b5), .val (.long cc), .second, .unset] [(.long (57344 : Int64)), (.long cc)])) (G_own_law Z p1 p2 p3 h0 n0 s)
        refine own_go (fun _ k => XT.lcmp X14.here hx rfl (hb hby at_103) rfl k) ?_
        show own_Goes p e below (T14.setTop (mkF m 104 #[.val (.long p1), .second, .val (.int p2), .val (.int p3), .val (.ref b5), .val (.long cc), .second, .unset] [(.int (XT.cmpL cc (57344 : Int64)))])) (G_own_law Z p1 p2 p3 h0 n0 s)
        by_cases hc104_19 : cc < (57344 : Int64)
        · refine own_go (fun _ k => XS.ifYes X14.here hx rfl (pc0 := 104) (pc' := 120) rfl (hb hby at_104) rfl (XT.ll_lt_t hc104_19) (by decide) (by decide) k) ?_
          show own_Goes p e below (T14.setTop (mkF m 120 #[.val (.long p1), .second, .val (.int p2), .val (.int p3), .val (.ref b5), .val (.long cc), .second, .unset] [])) (G_own_law Z p1 p2 p3 h0 n0 s)
          refine own_go (fun _ k => XS.iconst X14.here hx rfl (hb hby at_120) k) ?_
          show own_Goes p e below (T14.setTop (mkF m 121 #[.val (.long p1), .second, .val (.int p2), .val (.int p3), .val (.ref b5), .val (.long cc), .second, .unset] [(.int (0 : Int32))])) (G_own_law Z p1 p2 p3 h0 n0 s)
          have kk := own_k
          rw [Int64.lt_iff_toInt_lt] at hc86_18
          rw [Int64.lt_iff_toInt_lt] at hc104_19
          have hsc : own_sc cc = 0 := if_neg (by omega)
          exact J121_16 _ hsc.symm
        · refine own_go (fun _ k => XS.ifNo X14.here hx rfl (hb hby at_104) rfl (XT.ll_lt_f hc104_19) k) ?_
          show own_Goes p e below (T14.setTop (mkF m 107 #[.val (.long p1), .second, .val (.int p2), .val (.int p3), .val (.ref b5), .val (.long cc), .second, .unset] [])) (G_own_law Z p1 p2 p3 h0 n0 s)
          refine own_go (fun _ k => XS.lload X14.here hx rfl (hb hby at_107) rfl k) ?_
          show own_Goes p e below (T14.setTop (mkF m 109 #[.val (.long p1), .second, .val (.int p2), .val (.int p3), .val (.ref b5), .val (.long cc), .second, .unset] [(.long cc)])) (G_own_law Z p1 p2 p3 h0 n0 s)
          refine own_go (fun _ k => Jvm.Stand.ldc2J (own := "com/example/remnant/remnant/core/CharIsScalarValuePinLaw") (index := 23) (v := (1114112 : Int64)) X14 hx hown (mvT hZ (hw _ (List.mem_of_getElem? (i := 14) rfl))) rfl (hb hby at_109) k) ?_
          show own_Goes p e below (T14.setTop (mkF m 112 #[.val (.long p1), .second, .val (.int p2), .val (.int p3), .val (.ref b5), .val (.long cc), .second, .unset] [(.long (1114112 : Int64)), (.long cc)])) (G_own_law Z p1 p2 p3 h0 n0 s)
          refine own_go (fun _ k => XT.lcmp X14.here hx rfl (hb hby at_112) rfl k) ?_
          show own_Goes p e below (T14.setTop (mkF m 113 #[.val (.long p1), .second, .val (.int p2), .val (.int p3), .val (.ref b5), .val (.long cc), .second, .unset] [(.int (XT.cmpL cc (1114112 : Int64)))])) (G_own_law Z p1 p2 p3 h0 n0 s)
          by_cases hc113_20 : cc < (1114112 : Int64)
          · refine own_go (fun _ k => XS.ifNo X14.here hx rfl (hb hby at_113) rfl (XT.ll_ge_f hc113_20) k) ?_
            show own_Goes p e below (T14.setTop (mkF m 116 #[.val (.long p1), .second, .val (.int p2), .val (.int p3), .val (.ref b5), .val (.long cc), .second, .unset] [])) (G_own_law Z p1 p2 p3 h0 n0 s)
            refine own_go (fun _ k => XS.iconst X14.here hx rfl (hb hby at_116) k) ?_
            show own_Goes p e below (T14.setTop (mkF m 117 #[.val (.long p1), .second, .val (.int p2), .val (.int p3), .val (.ref b5), .val (.long cc), .second, .unset] [(.int (1 : Int32))])) (G_own_law Z p1 p2 p3 h0 n0 s)
            refine own_go (fun _ k => XS.goto X14.here hx rfl (pc0 := 117) (pc' := 121) rfl (hb hby at_117) (by decide) (by decide) k) ?_
            show own_Goes p e below (T14.setTop (mkF m 121 #[.val (.long p1), .second, .val (.int p2), .val (.int p3), .val (.ref b5), .val (.long cc), .second, .unset] [(.int (1 : Int32))])) (G_own_law Z p1 p2 p3 h0 n0 s)
            have kk := own_k
            rw [Int64.lt_iff_toInt_lt] at hc86_18
            rw [Int64.lt_iff_toInt_lt] at hc104_19
            rw [Int64.lt_iff_toInt_lt] at hc113_20
            have hsc : own_sc cc = 1 := if_pos (by omega)
            exact J121_16 _ hsc.symm
          · refine own_go (fun _ k => XS.ifYes X14.here hx rfl (pc0 := 113) (pc' := 120) rfl (hb hby at_113) rfl (XT.ll_ge_t hc113_20) (by decide) (by decide) k) ?_
            show own_Goes p e below (T14.setTop (mkF m 120 #[.val (.long p1), .second, .val (.int p2), .val (.int p3), .val (.ref b5), .val (.long cc), .second, .unset] [])) (G_own_law Z p1 p2 p3 h0 n0 s)
            refine own_go (fun _ k => XS.iconst X14.here hx rfl (hb hby at_120) k) ?_
            show own_Goes p e below (T14.setTop (mkF m 121 #[.val (.long p1), .second, .val (.int p2), .val (.int p3), .val (.ref b5), .val (.long cc), .second, .unset] [(.int (0 : Int32))])) (G_own_law Z p1 p2 p3 h0 n0 s)
            have kk := own_k
            rw [Int64.lt_iff_toInt_lt] at hc86_18
            rw [Int64.lt_iff_toInt_lt] at hc104_19
            rw [Int64.lt_iff_toInt_lt] at hc113_20
            have hsc : own_sc cc = 0 := if_neg (by omega)
            exact J121_16 _ hsc.symm
      · refine own_go (fun _ k => XS.ifNo X14.here hx rfl (hb hby at_86) rfl (XT.ll_lt_f hc86_18) k) ?_
        show own_Goes p e below (T14.setTop (mkF m 89 #[.val (.long p1), .second, .val (.int p2), .val (.int p3), .val (.ref b5), .val (.long cc), .second, .unset] [])) (G_own_law Z p1 p2 p3 h0 n0 s)
        refine own_go (fun _ k => XS.lload X14.here hx rfl (hb hby at_89) rfl k) ?_
        show own_Goes p e below (T14.setTop (mkF m 91 #[.val (.long p1), .second, .val (.int p2), .val (.int p3), .val (.ref b5), .val (.long cc), .second, .unset] [(.long cc)])) (G_own_law Z p1 p2 p3 h0 n0 s)
        refine own_go (fun _ k => Jvm.Stand.ldc2J (own := "com/example/remnant/remnant/core/CharIsScalarValuePinLaw") (index := 7) (v := (55296 : Int64)) X14 hx hown (mvT hZ (hw _ (List.mem_of_getElem? (i := 1) rfl))) rfl (hb hby at_91) k) ?_
        show own_Goes p e below (T14.setTop (mkF m 94 #[.val (.long p1), .second, .val (.int p2), .val (.int p3), .val (.ref b5), .val (.long cc), .second, .unset] [(.long (55296 : Int64)), (.long cc)])) (G_own_law Z p1 p2 p3 h0 n0 s)
        refine own_go (fun _ k => XT.lcmp X14.here hx rfl (hb hby at_94) rfl k) ?_
        show own_Goes p e below (T14.setTop (mkF m 95 #[.val (.long p1), .second, .val (.int p2), .val (.int p3), .val (.ref b5), .val (.long cc), .second, .unset] [(.int (XT.cmpL cc (55296 : Int64)))])) (G_own_law Z p1 p2 p3 h0 n0 s)
        by_cases hc95_21 : cc < (55296 : Int64)
        · refine own_go (fun _ k => XS.ifYes X14.here hx rfl (pc0 := 95) (pc' := 116) rfl (hb hby at_95) rfl (XT.ll_lt_t hc95_21) (by decide) (by decide) k) ?_
          show own_Goes p e below (T14.setTop (mkF m 116 #[.val (.long p1), .second, .val (.int p2), .val (.int p3), .val (.ref b5), .val (.long cc), .second, .unset] [])) (G_own_law Z p1 p2 p3 h0 n0 s)
          refine own_go (fun _ k => XS.iconst X14.here hx rfl (hb hby at_116) k) ?_
          show own_Goes p e below (T14.setTop (mkF m 117 #[.val (.long p1), .second, .val (.int p2), .val (.int p3), .val (.ref b5), .val (.long cc), .second, .unset] [(.int (1 : Int32))])) (G_own_law Z p1 p2 p3 h0 n0 s)
          refine own_go (fun _ k => XS.goto X14.here hx rfl (pc0 := 117) (pc' := 121) rfl (hb hby at_117) (by decide) (by decide) k) ?_
          show own_Goes p e below (T14.setTop (mkF m 121 #[.val (.long p1), .second, .val (.int p2), .val (.int p3), .val (.ref b5), .val (.long cc), .second, .unset] [(.int (1 : Int32))])) (G_own_law Z p1 p2 p3 h0 n0 s)
          have kk := own_k
          rw [Int64.lt_iff_toInt_lt] at hc86_18
          rw [Int64.lt_iff_toInt_lt] at hc95_21
          have hsc : own_sc cc = 1 := if_pos (by omega)
          exact J121_16 _ hsc.symm
        · refine own_go (fun _ k => XS.ifNo X14.here hx rfl (hb hby at_95) rfl (XT.ll_lt_f hc95_21) k) ?_
          show own_Goes p e below (T14.setTop (mkF m 98 #[.val (.long p1), .second, .val (.int p2), .val (.int p3), .val (.ref b5), .val (.long cc), .second, .unset] [])) (G_own_law Z p1 p2 p3 h0 n0 s)
          refine own_go (fun _ k => XS.lload X14.here hx rfl (hb hby at_98) rfl k) ?_
          show own_Goes p e below (T14.setTop (mkF m 100 #[.val (.long p1), .second, .val (.int p2), .val (.int p3), .val (.ref b5), .val (.long cc), .second, .unset] [(.long cc)])) (G_own_law Z p1 p2 p3 h0 n0 s)
          refine own_go (fun _ k => Jvm.Stand.ldc2J (own := "com/example/remnant/remnant/core/CharIsScalarValuePinLaw") (index := 13) (v := (57344 : Int64)) X14 hx hown (mvT hZ (hw _ (List.mem_of_getElem? (i := 4) rfl))) rfl (hb hby at_100) k) ?_
          show own_Goes p e below (T14.setTop (mkF m 103 #[.val (.long p1), .second, .val (.int p2), .val (.int p3), .val (.ref b5), .val (.long cc), .second, .unset] [(.long (57344 : Int64)), (.long cc)])) (G_own_law Z p1 p2 p3 h0 n0 s)
          refine own_go (fun _ k => XT.lcmp X14.here hx rfl (hb hby at_103) rfl k) ?_
          show own_Goes p e below (T14.setTop (mkF m 104 #[.val (.long p1), .second, .val (.int p2), .val (.int p3), .val (.ref b5), .val (.long cc), .second, .unset] [(.int (XT.cmpL cc (57344 : Int64)))])) (G_own_law Z p1 p2 p3 h0 n0 s)
          by_cases hc104_22 : cc < (57344 : Int64)
          · refine own_go (fun _ k => XS.ifYes X14.here hx rfl (pc0 := 104) (pc' := 120) rfl (hb hby at_104) rfl (XT.ll_lt_t hc104_22) (by decide) (by decide) k) ?_
            show own_Goes p e below (T14.setTop (mkF m 120 #[.val (.long p1), .second, .val (.int p2), .val (.int p3), .val (.ref b5), .val (.long cc), .second, .unset] [])) (G_own_law Z p1 p2 p3 h0 n0 s)
            refine own_go (fun _ k => XS.iconst X14.here hx rfl (hb hby at_120) k) ?_
            show own_Goes p e below (T14.setTop (mkF m 121 #[.val (.long p1), .second, .val (.int p2), .val (.int p3), .val (.ref b5), .val (.long cc), .second, .unset] [(.int (0 : Int32))])) (G_own_law Z p1 p2 p3 h0 n0 s)
            have kk := own_k
            rw [Int64.lt_iff_toInt_lt] at hc86_18
            rw [Int64.lt_iff_toInt_lt] at hc95_21
            rw [Int64.lt_iff_toInt_lt] at hc104_22
            have hsc : own_sc cc = 0 := if_neg (by omega)
            exact J121_16 _ hsc.symm
          · refine own_go (fun _ k => XS.ifNo X14.here hx rfl (hb hby at_104) rfl (XT.ll_lt_f hc104_22) k) ?_
            show own_Goes p e below (T14.setTop (mkF m 107 #[.val (.long p1), .second, .val (.int p2), .val (.int p3), .val (.ref b5), .val (.long cc), .second, .unset] [])) (G_own_law Z p1 p2 p3 h0 n0 s)
            refine own_go (fun _ k => XS.lload X14.here hx rfl (hb hby at_107) rfl k) ?_
            show own_Goes p e below (T14.setTop (mkF m 109 #[.val (.long p1), .second, .val (.int p2), .val (.int p3), .val (.ref b5), .val (.long cc), .second, .unset] [(.long cc)])) (G_own_law Z p1 p2 p3 h0 n0 s)
            refine own_go (fun _ k => Jvm.Stand.ldc2J (own := "com/example/remnant/remnant/core/CharIsScalarValuePinLaw") (index := 23) (v := (1114112 : Int64)) X14 hx hown (mvT hZ (hw _ (List.mem_of_getElem? (i := 14) rfl))) rfl (hb hby at_109) k) ?_
            show own_Goes p e below (T14.setTop (mkF m 112 #[.val (.long p1), .second, .val (.int p2), .val (.int p3), .val (.ref b5), .val (.long cc), .second, .unset] [(.long (1114112 : Int64)), (.long cc)])) (G_own_law Z p1 p2 p3 h0 n0 s)
            refine own_go (fun _ k => XT.lcmp X14.here hx rfl (hb hby at_112) rfl k) ?_
            show own_Goes p e below (T14.setTop (mkF m 113 #[.val (.long p1), .second, .val (.int p2), .val (.int p3), .val (.ref b5), .val (.long cc), .second, .unset] [(.int (XT.cmpL cc (1114112 : Int64)))])) (G_own_law Z p1 p2 p3 h0 n0 s)
            by_cases hc113_23 : cc < (1114112 : Int64)
            · refine own_go (fun _ k => XS.ifNo X14.here hx rfl (hb hby at_113) rfl (XT.ll_ge_f hc113_23) k) ?_
              show own_Goes p e below (T14.setTop (mkF m 116 #[.val (.long p1), .second, .val (.int p2), .val (.int p3), .val (.ref b5), .val (.long cc), .second, .unset] [])) (G_own_law Z p1 p2 p3 h0 n0 s)
              refine own_go (fun _ k => XS.iconst X14.here hx rfl (hb hby at_116) k) ?_
              show own_Goes p e below (T14.setTop (mkF m 117 #[.val (.long p1), .second, .val (.int p2), .val (.int p3), .val (.ref b5), .val (.long cc), .second, .unset] [(.int (1 : Int32))])) (G_own_law Z p1 p2 p3 h0 n0 s)
              refine own_go (fun _ k => XS.goto X14.here hx rfl (pc0 := 117) (pc' := 121) rfl (hb hby at_117) (by decide) (by decide) k) ?_
              show own_Goes p e below (T14.setTop (mkF m 121 #[.val (.long p1), .second, .val (.int p2), .val (.int p3), .val (.ref b5), .val (.long cc), .second, .unset] [(.int (1 : Int32))])) (G_own_law Z p1 p2 p3 h0 n0 s)
              have kk := own_k
              rw [Int64.lt_iff_toInt_lt] at hc86_18
              rw [Int64.lt_iff_toInt_lt] at hc95_21
              rw [Int64.lt_iff_toInt_lt] at hc104_22
              rw [Int64.lt_iff_toInt_lt] at hc113_23
              have hsc : own_sc cc = 1 := if_pos (by omega)
              exact J121_16 _ hsc.symm
            · refine own_go (fun _ k => XS.ifYes X14.here hx rfl (pc0 := 113) (pc' := 120) rfl (hb hby at_113) rfl (XT.ll_ge_t hc113_23) (by decide) (by decide) k) ?_
              show own_Goes p e below (T14.setTop (mkF m 120 #[.val (.long p1), .second, .val (.int p2), .val (.int p3), .val (.ref b5), .val (.long cc), .second, .unset] [])) (G_own_law Z p1 p2 p3 h0 n0 s)
              refine own_go (fun _ k => XS.iconst X14.here hx rfl (hb hby at_120) k) ?_
              show own_Goes p e below (T14.setTop (mkF m 121 #[.val (.long p1), .second, .val (.int p2), .val (.int p3), .val (.ref b5), .val (.long cc), .second, .unset] [(.int (0 : Int32))])) (G_own_law Z p1 p2 p3 h0 n0 s)
              have kk := own_k
              rw [Int64.lt_iff_toInt_lt] at hc86_18
              rw [Int64.lt_iff_toInt_lt] at hc95_21
              rw [Int64.lt_iff_toInt_lt] at hc104_22
              rw [Int64.lt_iff_toInt_lt] at hc113_23
              have hsc : own_sc cc = 0 := if_neg (by omega)
              exact J121_16 _ hsc.symm
  · intro J82_15
    refine own_go (fun _ k => XS.iloadN X14.here hx rfl (hb hby at_54) rfl k) ?_
    show own_Goes p e below (T14.setTop (mkF m 55 #[.val (.long p1), .second, .val (.int p2), .val (.int p3), .val (.ref b5), .unset, .unset, .unset] [(.int p2)])) (G_own_law Z p1 p2 p3 h0 n0 s)
    refine own_go (fun _ k => XS.iconst X14.here hx rfl (hb hby at_55) k) ?_
    show own_Goes p e below (T14.setTop (mkF m 56 #[.val (.long p1), .second, .val (.int p2), .val (.int p3), .val (.ref b5), .unset, .unset, .unset] [(.int (1 : Int32)), (.int p2)])) (G_own_law Z p1 p2 p3 h0 n0 s)
    refine own_go (fun _ k => XS.iand X14.here hx rfl (hb hby at_56) rfl k) ?_
    show own_Goes p e below (T14.setTop (mkF m 57 #[.val (.long p1), .second, .val (.int p2), .val (.int p3), .val (.ref b5), .unset, .unset, .unset] [(.int (p2 &&& (1 : Int32)))])) (G_own_law Z p1 p2 p3 h0 n0 s)
    by_cases hc57_24 : (p2 &&& (1 : Int32)) = (0 : Int32)
    · refine own_go (fun _ k => XS.ifNo X14.here hx rfl (hb hby at_57) rfl (XT.i0_ne_f hc57_24) k) ?_
      show own_Goes p e below (T14.setTop (mkF m 60 #[.val (.long p1), .second, .val (.int p2), .val (.int p3), .val (.ref b5), .unset, .unset, .unset] [])) (G_own_law Z p1 p2 p3 h0 n0 s)
      refine own_go (fun _ k => XS.lloadN X14.here hx rfl (hb hby at_60) rfl k) ?_
      show own_Goes p e below (T14.setTop (mkF m 61 #[.val (.long p1), .second, .val (.int p2), .val (.int p3), .val (.ref b5), .unset, .unset, .unset] [(.long p1)])) (G_own_law Z p1 p2 p3 h0 n0 s)
      refine own_go (fun _ k => XS.lstore X14.here hx rfl (hb hby at_61) rfl (l' := #[.val (.long p1), .second, .val (.int p2), .val (.int p3), .val (.ref b5), .val (.long p1), .second, .unset]) rfl k) ?_
      show own_Goes p e below (T14.setTop (mkF m 63 #[.val (.long p1), .second, .val (.int p2), .val (.int p3), .val (.ref b5), .val (.long p1), .second, .unset] [])) (G_own_law Z p1 p2 p3 h0 n0 s)
      refine own_go (fun _ k => XS.goto X14.here hx rfl (pc0 := 63) (pc' := 82) rfl (hb hby at_63) (by decide) (by decide) k) ?_
      show own_Goes p e below (T14.setTop (mkF m 82 #[.val (.long p1), .second, .val (.int p2), .val (.int p3), .val (.ref b5), .val (.long p1), .second, .unset] [])) (G_own_law Z p1 p2 p3 h0 n0 s)
      exact J82_15 _ trivial
    · refine own_go (fun _ k => XS.ifYes X14.here hx rfl (pc0 := 57) (pc' := 66) rfl (hb hby at_57) rfl (XT.i0_ne_t hc57_24) (by decide) (by decide) k) ?_
      show own_Goes p e below (T14.setTop (mkF m 66 #[.val (.long p1), .second, .val (.int p2), .val (.int p3), .val (.ref b5), .unset, .unset, .unset] [])) (G_own_law Z p1 p2 p3 h0 n0 s)
      refine own_go (fun _ k => XS.aload X14.here hx rfl (hb hby at_66) rfl rfl k) ?_
      show own_Goes p e below (T14.setTop (mkF m 68 #[.val (.long p1), .second, .val (.int p2), .val (.int p3), .val (.ref b5), .unset, .unset, .unset] [(.ref b5)])) (G_own_law Z p1 p2 p3 h0 n0 s)
      refine own_go (fun _ k => XS.iloadN X14.here hx rfl (hb hby at_68) rfl k) ?_
      show own_Goes p e below (T14.setTop (mkF m 69 #[.val (.long p1), .second, .val (.int p2), .val (.int p3), .val (.ref b5), .unset, .unset, .unset] [(.int p2), (.ref b5)])) (G_own_law Z p1 p2 p3 h0 n0 s)
      refine own_go (fun _ k => XS.iconst X14.here hx rfl (hb hby at_69) k) ?_
      show own_Goes p e below (T14.setTop (mkF m 70 #[.val (.long p1), .second, .val (.int p2), .val (.int p3), .val (.ref b5), .unset, .unset, .unset] [(.int (1 : Int32)), (.int p2), (.ref b5)])) (G_own_law Z p1 p2 p3 h0 n0 s)
      refine own_go (fun _ k => XS.iushr X14.here hx rfl (hb hby at_70) rfl k) ?_
      show own_Goes p e below (T14.setTop (mkF m 71 #[.val (.long p1), .second, .val (.int p2), .val (.int p3), .val (.ref b5), .unset, .unset, .unset] [(.int ((p2.toUInt32 >>> ((1 : Int32) &&& 31).toUInt32).toInt32)), (.ref b5)])) (G_own_law Z p1 p2 p3 h0 n0 s)
      refine own_go (fun _ k => XS.bipush X14.here hx rfl (hb hby at_71) k) ?_
      show own_Goes p e below (T14.setTop (mkF m 73 #[.val (.long p1), .second, .val (.int p2), .val (.int p3), .val (.ref b5), .unset, .unset, .unset] [(.int (7 : Int32)), (.int ((p2.toUInt32 >>> ((1 : Int32) &&& 31).toUInt32).toInt32)), (.ref b5)])) (G_own_law Z p1 p2 p3 h0 n0 s)
      refine own_go (fun _ k => XS.iand X14.here hx rfl (hb hby at_73) rfl k) ?_
      show own_Goes p e below (T14.setTop (mkF m 74 #[.val (.long p1), .second, .val (.int p2), .val (.int p3), .val (.ref b5), .unset, .unset, .unset] [(.int (((p2.toUInt32 >>> ((1 : Int32) &&& 31).toUInt32).toInt32) &&& (7 : Int32))), (.ref b5)])) (G_own_law Z p1 p2 p3 h0 n0 s)
      obtain ⟨c25, Ar25, q25, s25, z25, H25, G25⟩ := Av14
      have hj25 := own_idx ((p2.toUInt32 >>> ((1 : Int32) &&& 31).toUInt32).toInt32)
      obtain ⟨lw, hlw⟩ := fit_J (G25 _ (Nat.lt_of_not_le fun q => inb_of s25 (j := (((p2.toUInt32 >>> ((1 : Int32) &&& 31).toUInt32).toInt32) &&& (7 : Int32))) hj25 (Or.inr q)))
      have hin25 := inb_of s25 hj25
      have hat25 := H25.at hin25 (v := (.long lw)) hlw
      refine own_go (fun _ k => X14.laload hx (j := (((p2.toUInt32 >>> ((1 : Int32) &&& 31).toUInt32).toInt32) &&& (7 : Int32))) (v := (.long lw)) (by rw [e14]; exact Ar25.1) (State.isArrayOf_alike hZ.alike Ar25.2.1) Ar25.2.2 hin25 hat25 (g := (mkF m 74 #[.val (.long p1), .second, .val (.int p2), .val (.int p3), .val (.ref b5), .unset, .unset, .unset] [(.int (((p2.toUInt32 >>> ((1 : Int32) &&& 31).toUInt32).toInt32) &&& (7 : Int32))), (.ref b5)])) rfl rfl (hb hby at_74) _ k) ?_
      show own_Goes p e below (T14.setTop (mkF m 75 #[.val (.long p1), .second, .val (.int p2), .val (.int p3), .val (.ref b5), .unset, .unset, .unset] [(.long lw)])) (G_own_law Z p1 p2 p3 h0 n0 s)
      refine own_go (fun _ k => XS.iloadN X14.here hx rfl (hb hby at_75) rfl k) ?_
      show own_Goes p e below (T14.setTop (mkF m 76 #[.val (.long p1), .second, .val (.int p2), .val (.int p3), .val (.ref b5), .unset, .unset, .unset] [(.int p3), (.long lw)])) (G_own_law Z p1 p2 p3 h0 n0 s)
      refine own_go (fun _ k => XS.iconst X14.here hx rfl (hb hby at_76) k) ?_
      show own_Goes p e below (T14.setTop (mkF m 77 #[.val (.long p1), .second, .val (.int p2), .val (.int p3), .val (.ref b5), .unset, .unset, .unset] [(.int (3 : Int32)), (.int p3), (.long lw)])) (G_own_law Z p1 p2 p3 h0 n0 s)
      refine own_go (fun _ k => iremM X14 hx rfl (hb hby at_77) rfl (by decide) k) ?_
      show own_Goes p e below (T14.setTop (mkF m 78 #[.val (.long p1), .second, .val (.int p2), .val (.int p3), .val (.ref b5), .unset, .unset, .unset] [(.int (p3 % (3 : Int32))), (.long lw)])) (G_own_law Z p1 p2 p3 h0 n0 s)
      refine own_go (fun _ k => XS.i2l X14.here hx rfl (hb hby at_78) rfl k) ?_
      show own_Goes p e below (T14.setTop (mkF m 79 #[.val (.long p1), .second, .val (.int p2), .val (.int p3), .val (.ref b5), .unset, .unset, .unset] [(.long ((p3 % (3 : Int32)).toInt64)), (.long lw)])) (G_own_law Z p1 p2 p3 h0 n0 s)
      refine own_go (fun _ k => XS.ladd X14.here hx rfl (hb hby at_79) rfl k) ?_
      show own_Goes p e below (T14.setTop (mkF m 80 #[.val (.long p1), .second, .val (.int p2), .val (.int p3), .val (.ref b5), .unset, .unset, .unset] [(.long (lw + ((p3 % (3 : Int32)).toInt64)))])) (G_own_law Z p1 p2 p3 h0 n0 s)
      refine own_go (fun _ k => XS.lstore X14.here hx rfl (hb hby at_80) rfl (l' := #[.val (.long p1), .second, .val (.int p2), .val (.int p3), .val (.ref b5), .val (.long (lw + ((p3 % (3 : Int32)).toInt64))), .second, .unset]) rfl k) ?_
      show own_Goes p e below (T14.setTop (mkF m 82 #[.val (.long p1), .second, .val (.int p2), .val (.int p3), .val (.ref b5), .val (.long (lw + ((p3 % (3 : Int32)).toInt64))), .second, .unset] [])) (G_own_law Z p1 p2 p3 h0 n0 s)
      exact J82_15 _ trivial
set_option maxRecDepth 65536 in
set_option maxHeartbeats 40000000 in
theorem comes_1 {Post : Tables → Env → Array Value → State → Outcome → State → Prop} (hpost : ∀ tb e args s v u, (limb_1_1.after args s (.returned v) u = true ∧ limb_1_2.after args s (.returned v) u = true ∧ True) → FrameEnd s (.returned v) u (Jvm.fieldLocs frame_1_writes args s ++ Jvm.arrayLocs frame_1_arrays args s ++ Jvm.staticLocs frame_1_statics s) 16 128 → Post tb e args s (.returned v) u) :
    ArmFor flags0 classFile x code maxLocals ret World_1 tables_1 room_1 Calls_1 rest_1 Pre_1 Post := by
  intro l hfl _ _ p e ha hc hk s m args below hf hA hF happ hP
  obtain ⟨hcalls, hrest, hpre⟩ := hP
  obtain ⟨-, -, -, hnamed, -, -, -, hat⟩ := (Spec.applies_iff hf).mp happ
  obtain ⟨hg, hn⟩ := and_e (Cond.before_iff.mp (show (Jvm.Cond.and given_1 narrow_1).before args s = true from hpre))
  obtain ⟨hcount, k0⟩ := and_e hg
  obtain ⟨g0, k1⟩ := and_e k0
  obtain ⟨g1, k2⟩ := and_e k1
  have g2 := k2
  obtain ⟨w0, w1, w2, rfl⟩ : ∃ w0 w1 w2 : Value, args = #[w0, w1, w2] := by
    have hs : args.size = 3 := by simpa [Cond.value, given_1] using hcount
    obtain ⟨L⟩ := args
    match L, hs with
    | [w0, w1, w2], _ => exact ⟨w0, w1, w2, rfl⟩
  have hw := fun d (hd : d ∈ tables_1) => atoms_spec (ws := Jvm.Cond.code x code maxLocals ret :: tables_1) hat d (List.mem_cons_of_mem _ hd)
  have hfit : Fit s := fun {y c} hc i hi => by
    obtain ⟨ha, rfl⟩ := Array.getElem?_eq_some_iff.mp hc
    have q := List.all_eq_true.mp ((Array.all_eq_true_iff_forall_mem.mp hF) _ (Array.getElem_mem ha)) i (List.mem_range.mpr hi)
    simpa [Array.getElem?_eq_getElem hi] using q
  obtain ⟨i0, ei0⟩ := isL_v g0
  obtain rfl : w0 = (.long i0) := Option.some.inj ei0
  obtain ⟨i1, ei1⟩ := is_v g1
  obtain rfl : w1 = (.int i1) := Option.some.inj ei1
  obtain ⟨i2, ei2⟩ := is_v g2
  obtain rfl : w2 = (.int i2) := Option.some.inj ei2
  obtain ⟨n, o, h1, h2, h3, _, L, rfl, ⟨rfl, N⟩, hq⟩ := own_law l s _ hw tables_1 i0 i1 i2 s.heap s.heap.size (Nat.le_refl _)  p e ha hc hk s m _ below hf ((Spec.applies_iff_loose hf).mp happ).1 ⟨rfl, State.Warmed39.refl s, rfl⟩ trivial
  refine ⟨n, _, h1, h2, h3, hpost _ _ _ _ _ _ ⟨Cond.after_iff.mpr rfl, Cond.after_iff.mpr (eq_i res_at (Term.int_eval (1)) rfl), trivial⟩ ⟨hq.1, hq.2.1, (hq.2.2.sift fun y hy => Or.inr (N y hy)).mono (by decide) (by decide)⟩⟩
theorem main_1_1 : Claimed_1_1 := comes_1 fun _ _ _ _ _ _ h hF => ⟨h.1, hF⟩
theorem main_1_2 : Claimed_1_2 := comes_1 fun _ _ _ _ _ _ h hF => ⟨h.2.1, hF⟩
end Jvm.Pilot.@@N@@
namespace Jvm.Pilot.@@N@@
open Jvm Jvm.ClassFile Sem Op Lib Jvm.Free Jvm.Stand Jvm.Pilot.@@N@@.Jvm.D
/-! MADE BY PROGRAM (witnessworld.py) out of the Statement's table words and the real class files: 11 classes; the members and pool entries that the words name. The judged class is class 1, her method 1. -/
namespace start1
open Jvm.ClassFile
def u (s : String) : CpInfo := .utf8 (stringToUtf16 s)
/-- a pool by its gaps: so many unusable entries, then the entry; so many at the end -/
def gap : Nat → List CpInfo → List CpInfo
  | 0, r => r
  | n + 1, r => .unusable :: gap n r
def poolList (es : List (Nat × CpInfo)) (last : Nat) : List CpInfo := es.foldr (fun e r => gap e.1 (e.2 :: r)) (gap last [])
def pool (es : List (Nat × CpInfo)) (last : Nat) : Array CpInfo := ⟨poolList es last⟩
def fileOf (pool : Array CpInfo) (this : Nat) (attrs : Array Attribute := #[]) (ms : Array MethodInfo := #[]) (fl : Nat := 33) (sup : Nat := 0) (ifs : Array Nat := #[]) (fds : Array FieldInfo := #[]) : ClassFile where
  minorVersion := 0
  majorVersion := 65
  constantPool := pool
  accessFlags := fl
  thisClass := this
  superClass := sup
  interfaces := ifs
  fields := fds
  methods := ms
  attributes := attrs
def plain (name : String) (sup : Option ClassId) : Class where
  name := name
  kind := .ordinary
  loader := none
  accessFlags := 33
  super := sup
  interfaces := #[]
  cf := none
  fields := #[]
  methods := #[]
  instanceTypes := #[]
  staticTypes := #[]
  resolved := #[]
  callSites := []
  init := .initialized
  statics := none
  mirror := none

def pool0 : Array CpInfo := pool [(5, u "<init>"), (0, u "()V"), (1, .class_ 10), (1, u "java/lang/Object")] 113

def k0m0 : Method := { name := "<init>", desc := "()V", sig := { parameters := [], returnType := none }, accessFlags := 1, code := none }
/-- java/lang/Object -/
def k0 : Class := { plain "java/lang/Object" none with
  accessFlags := 33
  interfaces := #[]
  cf := some (fileOf pool0 8 #[] #[{ accessFlags := 1, nameIndex := 5, descriptorIndex := 6, attributes := #[] }] 33 0 #[] #[])
  fields := #[]
  methods := #[k0m0]
  instanceTypes := #[]
  staticTypes := #[]
  resolved := Array.replicate 124 none
  statics := none }

def pool1 : Array CpInfo := pool [(2, .class_ 4), (1, u "java/lang/Object"), (0, u "<init>"), (0, u "()V"), (0, .long 55296), (1, .long 57343), (1, .long 1114111), (1, .long 57344), (3, .long 9223372036854775808), (1, .long 4294967361), (1, .long 4294967295), (1, .long 1114112), (1, .methodref 26 27), (0, .class_ 28), (0, .nameAndType 29 30), (0, u "com/example/remnant/remnant/core/Char"), (0, u "isScalarValue"), (0, u "(J)Z"), (0, .class_ 32), (0, u "com/example/remnant/remnant/core/CharIsScalarValuePinLaw"), (2, u "law"), (0, u "(JII)Z")] 5

def k1m0 : Method := { name := "<init>", desc := "()V", sig := { parameters := [], returnType := none }, accessFlags := 1, code := none }
def k1c1 : Code := { maxStack := 5, maxLocals := 8, code := code, exceptionTable := #[], attributes := #[] }
def k1m1 : Method := { name := "law", desc := "(JII)Z", sig := { parameters := [.long, .int, .int], returnType := some .boolean }, accessFlags := 9, code := some k1c1 }
/-- com/example/remnant/remnant/core/CharIsScalarValuePinLaw -/
def k1 : Class := { plain "com/example/remnant/remnant/core/CharIsScalarValuePinLaw" (some 0) with
  accessFlags := 49
  interfaces := #[]
  cf := some (fileOf pool1 31 #[] #[{ accessFlags := 1, nameIndex := 5, descriptorIndex := 6, attributes := #[] }, { accessFlags := 9, nameIndex := 35, descriptorIndex := 36, attributes := #[] }] 49 2 #[] #[])
  fields := #[]
  methods := #[k1m0, k1m1]
  instanceTypes := #[]
  staticTypes := #[]
  resolved := Array.replicate 42 none
  statics := none }

def pool2 : Array CpInfo := pool [(2, .class_ 4), (1, u "java/lang/Object"), (3, .class_ 10), (1, u "com/example/remnant/remnant/core/Char"), (0, u "codePoint"), (0, u "I"), (2, u "LATIN1"), (0, u "[Lcom/example/remnant/remnant/core/Char;"), (5, .long 1114111), (1, .long 55296), (1, .long 57343), (3, u "NAMED"), (0, u "Ljava/util/Map;"), (18, u "NAMES"), (116, u "DOTTED_CAPITAL_I"), (2, u "DOTLESS_SMALL_I"), (7, u "isScalarValue"), (0, u "(J)Z")] 12

def k2c0 : Code := { maxStack := 4, maxLocals := 2, code := prog_51_method_3_code, exceptionTable := #[], attributes := #[] }
def k2m0 : Method := { name := "isScalarValue", desc := "(J)Z", sig := { parameters := [.long], returnType := some .boolean }, accessFlags := 9, code := some k2c0 }
/-- com/example/remnant/remnant/core/Char -/
def k2 : Class := { plain "com/example/remnant/remnant/core/Char" (some 0) with
  accessFlags := 49
  interfaces := #[]
  cf := some (fileOf pool2 8 #[] #[{ accessFlags := 9, nameIndex := 178, descriptorIndex := 179, attributes := #[] }] 49 2 #[] #[{ accessFlags := 26, nameIndex := 167, descriptorIndex := 12, attributes := #[] }, { accessFlags := 26, nameIndex := 170, descriptorIndex := 12, attributes := #[] }, { accessFlags := 26, nameIndex := 30, descriptorIndex := 31, attributes := #[] }, { accessFlags := 26, nameIndex := 50, descriptorIndex := 31, attributes := #[] }, { accessFlags := 26, nameIndex := 15, descriptorIndex := 16, attributes := #[] }, { accessFlags := 18, nameIndex := 11, descriptorIndex := 12, attributes := #[] }])
  fields := #[{ name := "DOTTED_CAPITAL_I", type := .int, accessFlags := 26, slot := 0, constantValue := 0 }, { name := "DOTLESS_SMALL_I", type := .int, accessFlags := 26, slot := 1, constantValue := 0 }, { name := "NAMED", type := (.object "java/util/Map"), accessFlags := 26, slot := 2, constantValue := 0 }, { name := "NAMES", type := (.object "java/util/Map"), accessFlags := 26, slot := 3, constantValue := 0 }, { name := "LATIN1", type := (.array (.object "com/example/remnant/remnant/core/Char")), accessFlags := 26, slot := 4, constantValue := 0 }, { name := "codePoint", type := .int, accessFlags := 18, slot := 0, constantValue := 0 }]
  methods := #[k2m0]
  instanceTypes := #[.int]
  staticTypes := #[.int, .int, (.object "java/util/Map"), (.object "java/util/Map"), (.array (.object "com/example/remnant/remnant/core/Char"))]
  resolved := Array.replicate 192 none
  statics := none }

def pool3 : Array CpInfo := pool [(1, u "java/lang/Cloneable"), (0, .class_ 1), (0, u "java/lang/Object"), (0, .class_ 3)] 3

/-- java/lang/Cloneable -/
def k3 : Class := { plain "java/lang/Cloneable" (some 0) with
  accessFlags := 1537
  interfaces := #[]
  cf := some (fileOf pool3 2 #[] #[] 1537 4 #[] #[])
  fields := #[]
  methods := #[]
  instanceTypes := #[]
  staticTypes := #[]
  resolved := Array.replicate 8 none
  statics := none }

def pool4 : Array CpInfo := pool [(1, u "java/io/Serializable"), (0, .class_ 1), (0, u "java/lang/Object"), (0, .class_ 3)] 3

/-- java/io/Serializable -/
def k4 : Class := { plain "java/io/Serializable" (some 0) with
  accessFlags := 1537
  interfaces := #[]
  cf := some (fileOf pool4 2 #[] #[] 1537 4 #[] #[])
  fields := #[]
  methods := #[]
  instanceTypes := #[]
  staticTypes := #[]
  resolved := Array.replicate 8 none
  statics := none }

/-- the primitive byte -/
def k5 : Class := { plain "byte" none with kind := .primitive 'B', accessFlags := 0x411 }
/-- [B -/
def k6 : Class := { plain "[B" (some 0) with kind := .array 5 .byte, interfaces := #[3, 4], accessFlags := 1041 }

/-- the primitive int -/
def k7 : Class := { plain "int" none with kind := .primitive 'I', accessFlags := 0x411 }
/-- [I -/
def k8 : Class := { plain "[I" (some 0) with kind := .array 7 .int, interfaces := #[3, 4], accessFlags := 1041 }

/-- the primitive long -/
def k9 : Class := { plain "long" none with kind := .primitive 'J', accessFlags := 0x411 }
/-- [J -/
def k10 : Class := { plain "[J" (some 0) with kind := .array 9 .long, interfaces := #[3, 4], accessFlags := 1041 }

def heap : Heap := #[]
def classes : Array Class := #[k0, k1, k2, k3, k4, k5, k6, k7, k8, k9, k10]
def interned : List (Array UInt16 × Addr) := []
def slotsUsed : Nat := 0
def theMethod : MethodId := ⟨1, 1⟩
def args0 : Array Value := #[.long 5, .int 0, .int 0]
def aboutOver (below : List Frame) : State where
  vm := { classes := classes, interned := interned.toArray }
  heap := heap
  slotsUsed := slotsUsed
  threads := #[{ frames := .invoking theMethod args0 :: below }]
def below0 : List Frame := [.native { method := ⟨0, 0⟩, args := #[] }]
def about1 : State := aboutOver below0
def p0 : Program := .bare "" "" ""
def e0 : Env := launch0.env 0 0 0
theorem w_frames : about1.frames = Frame.invoking theMethod args0 :: below0 := rfl
set_option maxRecDepth 65536 in
theorem w_args : argsFit about1.vm theMethod args0 = true := by decide +kernel
set_option maxRecDepth 65536 in
theorem w_heap : heapFits about1 = true := by decide +kernel
set_option maxRecDepth 65536 in
theorem w_runnable : about1.curStatus? = some .runnable := by decide +kernel
set_option maxRecDepth 65536 in
theorem w_alone : about1.alone = true := by decide +kernel
set_option maxRecDepth 65536 in
theorem w_named : about1.methodNamed? x = some theMethod := by decide +kernel
set_option maxRecDepth 65536 in
theorem w_hears : about1.hears theMethod below0 = true := by decide +kernel
set_option maxRecDepth 65536 in
theorem w_ripe : about1.ripe theMethod args0 below0 = true := by decide +kernel
theorem w_running : about1.status = .running := rfl
set_option maxRecDepth 65536 in
theorem w_room : about1.hasRoom e0.platform room_1 = true :=
  launch0.hasRoom_least _ room_1 (by decide +kernel) (by decide +kernel) (by decide +kernel) (by decide +kernel) (by decide +kernel) (by decide +kernel)
theorem allAtoms_all (ts : List Jvm.Cond) (a : Array Jvm.Value) (st : Jvm.State) : (allAtoms ts).before a st = ts.all (fun c => c.before a st) := by
  induction ts with
  | nil => rfl
  | cons c t ih =>
    show (Jvm.Cond.and c (allAtoms t)).before a st = _
    rw [Jvm.Cond.before_and, ih, List.all_cons]
def words1 : List Jvm.Cond := Jvm.Cond.code x code maxLocals ret :: tables_1
/-- a 'code' word, met by the world's own term for the bytes: nothing is compared byte by byte -/
theorem code_word {y : MethodName} {bytes : ByteArray} {mx : Nat} {rt : Option FieldType} {a : Array Value} {s : State} {m : MethodId} {meth : Method} {c : Code} (h1 : s.methodNamed? y = some m) (h2 : s.vm.method? m = some meth) (h3 : meth.code = some c) (h4 : c.code = bytes)
    (h5 : (c.maxLocals == mx && c.exceptionTable.isEmpty && decide (c.maxStack ≤ mostOperands) && decide (meth.sig.returnType = rt) && !meth.locks && decide (parseMethodDescriptor y.desc = some meth.sig)) = true) : (Jvm.Cond.code y bytes mx rt).before a s = true := by
  simp only [Bool.and_eq_true, beq_iff_eq, Bool.not_eq_true', decide_eq_true_eq] at h5
  obtain ⟨⟨⟨⟨⟨g1, g2⟩, g3⟩, g4⟩, g5⟩, g6⟩ := h5
  simp [Cond.before, Cond.holds, Cond.value, h1, h2, h3, h4, g1, g2, g3, g4, g5, g6]
def isCode : Jvm.Cond → Bool
  | .code _ _ _ _ => true
  | _ => false
theorem all_split {L : List Jvm.Cond} {P : Jvm.Cond → Bool} (h1 : L.all (fun c => isCode c || P c) = true) (h2 : ∀ c ∈ L.filter isCode, P c = true) : L.all P = true := by
  refine List.all_eq_true.mpr fun c hc => ?_
  have h := List.all_eq_true.mp h1 c hc
  rcases Bool.eq_false_or_eq_true (isCode c) with hi | hi
  · exact h2 c (List.mem_filter.mpr ⟨hc, hi⟩)
  · simpa [hi] using h
set_option maxRecDepth 65536 in
theorem w_c0 : (Jvm.Cond.code x code maxLocals ret).before args0 about1 = true := code_word (m := ⟨1, 1⟩) (meth := k1m1) (c := k1c1) (by decide +kernel) rfl rfl rfl (by decide +kernel)
set_option maxRecDepth 65536 in
theorem w_c1 : (Jvm.Cond.code ({ cls := "com/example/remnant/remnant/core/Char", name := "isScalarValue", desc := "(J)Z" } : Jvm.MethodName) prog_51_method_3_code (2 : Nat) (Option.some Jvm.ClassFile.FieldType.boolean)).before args0 about1 = true := code_word (m := ⟨2, 0⟩) (meth := k2m0) (c := k2c0) (by decide +kernel) rfl rfl rfl (by decide +kernel)
def codes1 : List Jvm.Cond := [Jvm.Cond.code x code maxLocals ret, Jvm.Cond.code ({ cls := "com/example/remnant/remnant/core/Char", name := "isScalarValue", desc := "(J)Z" } : Jvm.MethodName) prog_51_method_3_code (2 : Nat) (Option.some Jvm.ClassFile.FieldType.boolean)]
set_option maxRecDepth 65536 in
theorem codes_eq : words1.filter isCode = codes1 := rfl
theorem w_codes : ∀ c ∈ words1.filter isCode, c.before args0 about1 = true := by
  rw [codes_eq]
  intro c hc
  simp only [codes1, List.mem_cons, List.not_mem_nil, or_false] at hc
  rcases hc with rfl | rfl
  · exact w_c0
  · exact w_c1
set_option maxRecDepth 65536 in
theorem w_t1 : words1.all (fun c => isCode c || c.before args0 about1) = true := by decide +kernel
theorem w_tables : (allAtoms (Jvm.Cond.code x code maxLocals ret :: tables_1)).before args0 about1 = true := by
  rw [allAtoms_all]
  show words1.all (fun c => c.before args0 about1) = true
  refine all_split ?_ w_codes
  rw [w_t1]
set_option maxRecDepth 65536 in
theorem w_case : (Jvm.Cond.and given_1 narrow_1).before args0 about1 = true := by decide +kernel
theorem w_applies : (headSpec (Jvm.Cond.code x code maxLocals ret :: tables_1) room_1).applies x e0.platform about1 = true :=
  (Spec.applies_iff w_frames).mpr ⟨w_running, w_runnable, w_alone, w_named, w_hears, w_ripe, w_room, w_tables⟩
theorem atStart : AtStart classFile x code maxLocals ret World_1 tables_1 room_1 Calls_1 rest_1 Pre_1 launch0 p0 e0 about1 theMethod args0 below0 :=
  ⟨lists_1, trivial, launch0.admits_env _ _ _, launch0.least_env, fairChoices_fair.cas, fairChoices_fair.clock, w_frames, w_args, w_heap, w_applies, trivial, trivial, w_case⟩
end start1
theorem witness_1 : WitnessClaimed_1 := ⟨start1.p0, start1.e0, start1.about1, start1.theMethod, start1.args0, start1.below0, start1.atStart⟩
end Jvm.Pilot.@@N@@
