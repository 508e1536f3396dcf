import JvmDerived
import JvmDerived.Pilot.@@N@@Statement
import JvmDerived.Pilot.@@N@@Code
set_option linter.unusedVariables false
set_option linter.unusedSimpArgs false
namespace Jvm.Pilot.@@N@@
open Jvm Jvm.ClassFile Sem Op Lib Jvm.Free Jvm.Stand Jvm.LawKit Jvm.RoadKit Bundle Jvm.Pilot.@@N@@.Jvm.D
/-- the run comes from S to an end of which Q holds -/
def own_Goes (p : Program) (e : Env) (below : List Frame) (S : State) (Q : Outcome → State → Prop) : Prop := ∃ s₂ o, Steps p.tables e below S s₂ ∧ s₂.status = .running ∧ Ended s₂ below o ∧ Q o s₂
theorem own_go {p : Program} {e : Env} {below : List Frame} {S N : State} {Q : Outcome → State → Prop} (h : ∀ t, Steps p.tables e below N t → Steps p.tables e below S t) (k : own_Goes p e below N Q) : own_Goes p e below S Q := by
  obtain ⟨s₂, o, h1, h2⟩ := k; exact ⟨s₂, o, h _ h1, h2⟩
/-- the model's own selection picks a private method itself -/
theorem own_selp {y : MethodName} {s : State} {args : Array Value} {n : Nat} (hy : y.cls ≠ "java/lang/invoke/MethodHandle" ∧ y.cls ≠ "java/lang/invoke/VarHandle") (hins : (Cond.instantiable y.cls n).before args s = true) (hpriv : (Cond.privateMethod y).before args s = true) (hinst : (Cond.instanceMethod y).before args s = true) : (Cond.selects y.cls y y).before args s = true := by
  obtain ⟨c, k, hc, hk, -, hniab, -, -⟩ := Cond.instantiable_spec hins
  have hni : k.isInterface = false := (Bool.or_eq_false_iff.mp hniab).1
  obtain ⟨mk, methM, hnamed, hmethM, -, -⟩ := Cond.instanceMethod_spec hinst
  have hfound : s.methodFound? y.cls y.name y.desc = some mk := State.methodFound?_of_named hnamed hy
  have hcls : mk.cls = c := Option.some.inj ((findClass_of_methodNamed hnamed).symm.trans hc)
  have hsel : selectMethod {} s.vm c mk = .method mk := selectMethod_private hmethM (Cond.privateMethod_at hpriv mk methM hnamed hmethM)
  simp only [Cond.before, Cond.holds, Cond.value, hc, hfound, hnamed, hsel, hcls, hk]
  simp; exact hni
/-- a place where roads meet: walked once, for whatever the roads bring -/
theorem own_join {p : Program} {e : Env} {below : List Frame} {S : State} {Q : Outcome → State → Prop} {α : Type} {P : α → Prop} {F : α → State} (h1 : ∀ z, P z → own_Goes p e below (F z) Q) (h2 : (∀ z, P z → own_Goes p e below (F z) Q) → own_Goes p e below S Q) : own_Goes p e below S Q := h2 h1
def own_cmp (x y : Int64) : Int32 := if x < y then -1 else if x = y then 0 else 1
def own_uo (a b : Int64) : Int32 := if (a ^^^ (-9223372036854775808 : Int64)) < (b ^^^ (-9223372036854775808 : Int64)) then -1 else if (b ^^^ (-9223372036854775808 : Int64)) < (a ^^^ (-9223372036854775808 : Int64)) then 1 else 0
def own_cu (a b : Int64) : Int32 := own_cmp (a + (-9223372036854775808 : Int64)) (b + (-9223372036854775808 : Int64))
def own_run (a b c d : Int64) : Int32 := if own_cu a c = 0 then own_cu b d else own_cu a c
def own_sg (r : Int32) : Int32 := if r < 0 then -1 else if 0 < r then 1 else 0
theorem own_xm (x : Int64) : x + (-9223372036854775808 : Int64) = x ^^^ (-9223372036854775808 : Int64) := by
  apply Int64.toBitVec_inj.mp
  rw [Int64.toBitVec_add, Int64.toBitVec_xor]
  have e : ((-9223372036854775808 : Int64)).toBitVec = BitVec.ofNat 64 (2 ^ 63) := by decide
  rw [e]
  generalize x.toBitVec = y
  apply BitVec.eq_of_toNat_eq
  rw [BitVec.toNat_add, BitVec.toNat_xor]
  have e2 : (BitVec.ofNat 64 (2 ^ 63)).toNat = 2 ^ 63 := by decide
  rw [e2, Nat.add_comm]
  apply Nat.eq_of_testBit_eq
  intro i
  rw [Nat.testBit_mod_two_pow, Nat.testBit_xor, Nat.testBit_two_pow]
  rcases Nat.lt_trichotomy i 63 with h | h | h
  · rw [Nat.testBit_two_pow_add_gt h]
    have h1 : i < 64 := by omega
    have h2 : ¬ 63 = i := by omega
    simp [h1, h2]
  · subst h
    rw [Nat.testBit_two_pow_add_eq]
    simp
  · have h1 : ¬ i < 64 := by omega
    have h2 : ¬ 63 = i := by omega
    have h3 : y.toNat.testBit i = false := Nat.testBit_lt_two_pow (Nat.lt_of_lt_of_le y.isLt (Nat.pow_le_pow_right (by decide) (by omega)))
    simp [h1, h2, h3]
theorem own_tri (x y : Int64) : (x < y ∧ ¬ y < x ∧ ¬ x = y ∧ ¬ y = x) ∨ (¬ x < y ∧ ¬ y < x ∧ x = y) ∨ (¬ x < y ∧ y < x ∧ ¬ x = y ∧ ¬ y = x) := by
  simp only [Int64.lt_iff_toInt_lt, ← Int64.toInt_inj]
  omega
theorem own_cu_uo (a b : Int64) : own_cu a b = own_uo a b := by
  unfold own_cu own_uo own_cmp
  rw [own_xm, own_xm]
  rcases own_tri (a ^^^ (-9223372036854775808 : Int64)) (b ^^^ (-9223372036854775808 : Int64)) with ⟨a, b, c, d⟩ | ⟨a, b, c⟩ | ⟨a, b, c, d⟩
  · simp [a]
  · simp [a, b, c]
  · simp [a, b, c]
theorem own_sg_uo (a b : Int64) : own_sg (own_uo a b) = own_uo a b := by
  unfold own_uo
  split
  · decide
  · split <;> decide
theorem own_r0 (a b c d : Int64) (h : own_uo a c = 0) : own_sg (own_run a b c d) = own_uo b d := by
  unfold own_run; rw [own_cu_uo, own_cu_uo, if_pos h]; exact own_sg_uo b d
theorem own_r1 (a b c d : Int64) (h : ¬ own_uo a c = 0) : own_sg (own_run a b c d) = own_uo a c := by
  unfold own_run; rw [own_cu_uo, own_cu_uo, if_neg h]; exact own_sg_uo a c
theorem own_pn4 : plainName "java/lang/Long" = true := by first | (simp [plainName, overriddenIn]; done) | decide +kernel
theorem own_ef_own_cmpM (m : MethodId) (p1 : Int64) (p2 : Int64) : entryFrame m #[(.long p1), (.long p2)] 4 = (mkF m 0 #[.val (.long p1), .second, .val (.long p2), .second] []) := by first | (simp [entryFrame, mkF, argsToLocals, Value.category]; done) | rfl
def Q_own_cmpM (Z : State) (p1 : Int64) (p2 : Int64) (h0 : Heap) (n0 : Nat) (v : Option Value) (h : Heap) (L : List Loc) : Prop := v = some (.int (own_cmp p1 p2)) ∧ Fr n0 L ∧ h = h0
def G_own_cmpM (Z : State) (p1 : Int64) (p2 : Int64) (h0 : Heap) (n0 : Nat) (s : State) : Outcome → State → Prop := fun o U' => ∃ v L, o = .returned v ∧ Q_own_cmpM Z p1 p2 h0 n0 v U'.heap L ∧ FrameEnd s o U' L ({ frames := 0, cells := 0, slots := 0, locals := 0 } : Room).cells ({ frames := 0, cells := 0, slots := 0, locals := 0 } : Room).slots
theorem own_d4_0 : decode jdk_35_method_42_code 0 = .ok (.lload_n 0, 1) := by decide +kernel
theorem own_d4_1 : decode jdk_35_method_42_code 1 = .ok (.lload_n 2, 1) := by decide +kernel
theorem own_d4_2 : decode jdk_35_method_42_code 2 = .ok (.lcmp, 1) := by decide +kernel
theorem own_d4_3 : decode jdk_35_method_42_code 3 = .ok (.ifCond .ge 7, 3) := by decide +kernel
theorem own_d4_6 : decode jdk_35_method_42_code 6 = .ok (.iconst (-1), 1) := by decide +kernel
theorem own_d4_7 : decode jdk_35_method_42_code 7 = .ok (.goto 14, 3) := by decide +kernel
theorem own_d4_21 : decode jdk_35_method_42_code 21 = .ok (.ireturn, 1) := by decide +kernel
theorem own_d4_10 : decode jdk_35_method_42_code 10 = .ok (.lload_n 0, 1) := by decide +kernel
theorem own_d4_11 : decode jdk_35_method_42_code 11 = .ok (.lload_n 2, 1) := by decide +kernel
theorem own_d4_12 : decode jdk_35_method_42_code 12 = .ok (.lcmp, 1) := by decide +kernel
theorem own_d4_13 : decode jdk_35_method_42_code 13 = .ok (.ifCond .ne 7, 3) := by decide +kernel
theorem own_d4_16 : decode jdk_35_method_42_code 16 = .ok (.iconst 0, 1) := by decide +kernel
theorem own_d4_17 : decode jdk_35_method_42_code 17 = .ok (.goto 4, 3) := by decide +kernel
theorem own_d4_20 : decode jdk_35_method_42_code 20 = .ok (.iconst 1, 1) := by decide +kernel
set_option maxRecDepth 65536 in
set_option maxHeartbeats 40000000 in
theorem own_cmpM (l : Launch) (Z : State) (a0 : Array Value) (hw : ∀ d ∈ tables_1, d.before a0 Z = true) (ws : List Jvm.Cond) (p1 : Int64) (p2 : Int64) (h0 : Heap) (n0 : Nat) (Z0 : n0 ≤ h0.size)  :
    MetFree l (⟨"java/lang/Long", "compare", "(JJ)I"⟩ : MethodName) (head1 (Jvm.Cond.code (⟨"java/lang/Long", "compare", "(JJ)I"⟩ : MethodName) jdk_35_method_42_code 4 (some .int) :: ws) ({ frames := 0, cells := 0, slots := 0, locals := 0 } : Room)) (fun a U => a = #[(.long p1), (.long p2)] ∧ Z.Warmed39 U.vm ∧ U.heap = h0) (fun _ _ _ _ _ => True) (fun _ U o U' => ∃ v L, o = .returned v ∧ Q_own_cmpM Z p1 p2 h0 n0 v U'.heap L ∧ FrameEnd U o U' L ({ frames := 0, cells := 0, slots := 0, locals := 0 } : Room).cells ({ frames := 0, cells := 0, slots := 0, locals := 0 } : Room).slots) := by
  refine MetFree.of_bodySF (plainFor_of_name own_pn4) hisR ?_
  intro p e s m args below meth c s₁ Bd hml0 hP hK
  obtain ⟨rfl, hZ, hh⟩ := hP
  have hx := Bd.exec
  have hby := Bd.bytes
  have hml : c.maxLocals = 4 := hml0
  have hown : s.vm.findClass "java/lang/Long" = some m.cls := findClass_of_methodNamed Bd.named
  have hnm := (name_of_methodNamed Bd.named Bd.method).1
  have X0 : Stand p l e ({ frames := 0, cells := 0, slots := 0, locals := 0 } : Room) s m #[(.long p1), (.long p2)] below meth c s₁ [] 0 0 := Stand.of_body Bd
  have e0 : s₁.heap = h0 := by rw [← hh, Bd.state]; rfl
  have N0 := Fr.nil n0
  refine own_go (S := s₁.setTop (entryFrame m #[(.long p1), (.long p2)] 4)) (Q := (G_own_cmpM Z p1 p2 h0 n0 s)) (fun _ k => castTop (own_ef_own_cmpM m p1 p2) k) ?_
  show own_Goes p e below (s₁.setTop (mkF m 0 #[.val (.long p1), .second, .val (.long p2), .second] [])) (G_own_cmpM Z p1 p2 h0 n0 s)
  refine own_go (fun _ k => XS.lloadN X0.here hx rfl (hb hby own_d4_0) rfl k) ?_
  show own_Goes p e below (s₁.setTop (mkF m 1 #[.val (.long p1), .second, .val (.long p2), .second] [(.long p1)])) (G_own_cmpM Z p1 p2 h0 n0 s)
  refine own_go (fun _ k => XS.lloadN X0.here hx rfl (hb hby own_d4_1) rfl k) ?_
  show own_Goes p e below (s₁.setTop (mkF m 2 #[.val (.long p1), .second, .val (.long p2), .second] [(.long p2), (.long p1)])) (G_own_cmpM Z p1 p2 h0 n0 s)
  refine own_go (fun _ k => XT.lcmp X0.here hx rfl (hb hby own_d4_2) rfl k) ?_
  show own_Goes p e below (s₁.setTop (mkF m 3 #[.val (.long p1), .second, .val (.long p2), .second] [(.int (XT.cmpL p1 p2))])) (G_own_cmpM Z p1 p2 h0 n0 s)
  by_cases hc3_1 : p1 < p2
  · refine own_go (fun _ k => XS.ifNo X0.here hx rfl (hb hby own_d4_3) rfl (XT.ll_ge_f hc3_1) k) ?_
    show own_Goes p e below (s₁.setTop (mkF m 6 #[.val (.long p1), .second, .val (.long p2), .second] [])) (G_own_cmpM Z p1 p2 h0 n0 s)
    refine own_go (fun _ k => XS.iconst X0.here hx rfl (hb hby own_d4_6) k) ?_
    show own_Goes p e below (s₁.setTop (mkF m 7 #[.val (.long p1), .second, .val (.long p2), .second] [(.int (-1 : Int32))])) (G_own_cmpM Z p1 p2 h0 n0 s)
    refine own_go (fun _ k => XS.goto X0.here hx rfl (pc0 := 7) (pc' := 21) rfl (hb hby own_d4_7) (by decide) (by decide) k) ?_
    show own_Goes p e below (s₁.setTop (mkF m 21 #[.val (.long p1), .second, .val (.long p2), .second] [(.int (-1 : Int32))])) (G_own_cmpM Z p1 p2 h0 n0 s)
    obtain ⟨fs, hr, hrun, hended, hW, hsame⟩ := X0.leave (v := some (.int (-1 : Int32))) (fun h => by rw [Bd.returns] at h; cases h) Bd.notSynchronized
    refine ⟨_, _, retOut X0 hx (t := .int) (i := .ireturn) Bd.returns rfl (Or.inl ⟨rfl, Or.inl rfl, _, rfl⟩) (hb hby own_d4_21) hr, hrun, hended, _, _, rfl, ?_, ⟨_, rfl⟩, hW, hsame.mono (by decide) (by decide)⟩
    show Q_own_cmpM Z p1 p2 h0 n0 _ s₁.heap _
    rw [e0]
    exact ⟨by simp [own_cmp, hc3_1], N0, rfl⟩
  · refine own_go (fun _ k => XS.ifYes X0.here hx rfl (pc0 := 3) (pc' := 10) rfl (hb hby own_d4_3) rfl (XT.ll_ge_t hc3_1) (by decide) (by decide) k) ?_
    show own_Goes p e below (s₁.setTop (mkF m 10 #[.val (.long p1), .second, .val (.long p2), .second] [])) (G_own_cmpM Z p1 p2 h0 n0 s)
    refine own_go (fun _ k => XS.lloadN X0.here hx rfl (hb hby own_d4_10) rfl k) ?_
    show own_Goes p e below (s₁.setTop (mkF m 11 #[.val (.long p1), .second, .val (.long p2), .second] [(.long p1)])) (G_own_cmpM Z p1 p2 h0 n0 s)
    refine own_go (fun _ k => XS.lloadN X0.here hx rfl (hb hby own_d4_11) rfl k) ?_
    show own_Goes p e below (s₁.setTop (mkF m 12 #[.val (.long p1), .second, .val (.long p2), .second] [(.long p2), (.long p1)])) (G_own_cmpM Z p1 p2 h0 n0 s)
    refine own_go (fun _ k => XT.lcmp X0.here hx rfl (hb hby own_d4_12) rfl k) ?_
    show own_Goes p e below (s₁.setTop (mkF m 13 #[.val (.long p1), .second, .val (.long p2), .second] [(.int (XT.cmpL p1 p2))])) (G_own_cmpM Z p1 p2 h0 n0 s)
    by_cases hc13_2 : p1 = p2
    · refine own_go (fun _ k => XS.ifNo X0.here hx rfl (hb hby own_d4_13) rfl (XT.ll_ne_f hc13_2) k) ?_
      show own_Goes p e below (s₁.setTop (mkF m 16 #[.val (.long p1), .second, .val (.long p2), .second] [])) (G_own_cmpM Z p1 p2 h0 n0 s)
      refine own_go (fun _ k => XS.iconst X0.here hx rfl (hb hby own_d4_16) k) ?_
      show own_Goes p e below (s₁.setTop (mkF m 17 #[.val (.long p1), .second, .val (.long p2), .second] [(.int (0 : Int32))])) (G_own_cmpM Z p1 p2 h0 n0 s)
      refine own_go (fun _ k => XS.goto X0.here hx rfl (pc0 := 17) (pc' := 21) rfl (hb hby own_d4_17) (by decide) (by decide) k) ?_
      show own_Goes p e below (s₁.setTop (mkF m 21 #[.val (.long p1), .second, .val (.long p2), .second] [(.int (0 : Int32))])) (G_own_cmpM Z p1 p2 h0 n0 s)
      obtain ⟨fs, hr, hrun, hended, hW, hsame⟩ := X0.leave (v := some (.int (0 : Int32))) (fun h => by rw [Bd.returns] at h; cases h) Bd.notSynchronized
      refine ⟨_, _, retOut X0 hx (t := .int) (i := .ireturn) Bd.returns rfl (Or.inl ⟨rfl, Or.inl rfl, _, rfl⟩) (hb hby own_d4_21) hr, hrun, hended, _, _, rfl, ?_, ⟨_, rfl⟩, hW, hsame.mono (by decide) (by decide)⟩
      show Q_own_cmpM Z p1 p2 h0 n0 _ s₁.heap _
      rw [e0]
      exact ⟨by simp [own_cmp, hc3_1, hc13_2], N0, rfl⟩
    · refine own_go (fun _ k => XS.ifYes X0.here hx rfl (pc0 := 13) (pc' := 20) rfl (hb hby own_d4_13) rfl (XT.ll_ne_t hc13_2) (by decide) (by decide) k) ?_
      show own_Goes p e below (s₁.setTop (mkF m 20 #[.val (.long p1), .second, .val (.long p2), .second] [])) (G_own_cmpM Z p1 p2 h0 n0 s)
      refine own_go (fun _ k => XS.iconst X0.here hx rfl (hb hby own_d4_20) k) ?_
      show own_Goes p e below (s₁.setTop (mkF m 21 #[.val (.long p1), .second, .val (.long p2), .second] [(.int (1 : Int32))])) (G_own_cmpM Z p1 p2 h0 n0 s)
      obtain ⟨fs, hr, hrun, hended, hW, hsame⟩ := X0.leave (v := some (.int (1 : Int32))) (fun h => by rw [Bd.returns] at h; cases h) Bd.notSynchronized
      refine ⟨_, _, retOut X0 hx (t := .int) (i := .ireturn) Bd.returns rfl (Or.inl ⟨rfl, Or.inl rfl, _, rfl⟩) (hb hby own_d4_21) hr, hrun, hended, _, _, rfl, ?_, ⟨_, rfl⟩, hW, hsame.mono (by decide) (by decide)⟩
      show Q_own_cmpM Z p1 p2 h0 n0 _ s₁.heap _
      rw [e0]
      exact ⟨by simp [own_cmp, hc3_1, hc13_2], N0, rfl⟩
theorem own_pn5 : plainName "com/example/chartrier/chartrier/io/IndexRunComparePinLaw" = true := by first | (simp [plainName, overriddenIn]; done) | decide +kernel
theorem own_ef_own_sgM (m : MethodId) (p1 : Int32) : entryFrame m #[(.int p1)] 1 = (mkF m 0 #[.val (.int p1)] []) := by first | (simp [entryFrame, mkF, argsToLocals, Value.category]; done) | rfl
def Q_own_sgM (Z : State) (p1 : Int32) (h0 : Heap) (n0 : Nat) (v : Option Value) (h : Heap) (L : List Loc) : Prop := v = some (.int (own_sg p1)) ∧ Fr n0 L ∧ h = h0
def G_own_sgM (Z : State) (p1 : Int32) (h0 : Heap) (n0 : Nat) (s : State) : Outcome → State → Prop := fun o U' => ∃ v L, o = .returned v ∧ Q_own_sgM Z p1 h0 n0 v U'.heap L ∧ FrameEnd s o U' L ({ frames := 0, cells := 0, slots := 0, locals := 0 } : Room).cells ({ frames := 0, cells := 0, slots := 0, locals := 0 } : Room).slots
theorem own_d5_0 : decode method_2_code 0 = .ok (.iload_n 0, 1) := by decide +kernel
theorem own_d5_1 : decode method_2_code 1 = .ok (.ifCond .ge 5, 3) := by decide +kernel
theorem own_d5_4 : decode method_2_code 4 = .ok (.iconst (-1), 1) := by decide +kernel
theorem own_d5_5 : decode method_2_code 5 = .ok (.ireturn, 1) := by decide +kernel
theorem own_d5_6 : decode method_2_code 6 = .ok (.iload_n 0, 1) := by decide +kernel
theorem own_d5_7 : decode method_2_code 7 = .ok (.ifCond .le 5, 3) := by decide +kernel
theorem own_d5_10 : decode method_2_code 10 = .ok (.iconst 1, 1) := by decide +kernel
theorem own_d5_11 : decode method_2_code 11 = .ok (.ireturn, 1) := by decide +kernel
theorem own_d5_12 : decode method_2_code 12 = .ok (.iconst 0, 1) := by decide +kernel
theorem own_d5_13 : decode method_2_code 13 = .ok (.ireturn, 1) := by decide +kernel
set_option maxRecDepth 65536 in
set_option maxHeartbeats 40000000 in
theorem own_sgM (l : Launch) (Z : State) (a0 : Array Value) (hw : ∀ d ∈ tables_1, d.before a0 Z = true) (ws : List Jvm.Cond) (p1 : Int32) (h0 : Heap) (n0 : Nat) (Z0 : n0 ≤ h0.size)  :
    MetFree l (⟨"com/example/chartrier/chartrier/io/IndexRunComparePinLaw", "sign", "(I)I"⟩ : MethodName) (head1 (Jvm.Cond.code (⟨"com/example/chartrier/chartrier/io/IndexRunComparePinLaw", "sign", "(I)I"⟩ : MethodName) method_2_code 1 (some .int) :: ws) ({ frames := 0, cells := 0, slots := 0, locals := 0 } : Room)) (fun a U => a = #[(.int p1)] ∧ Z.Warmed39 U.vm ∧ U.heap = h0) (fun _ _ _ _ _ => True) (fun _ U o U' => ∃ v L, o = .returned v ∧ Q_own_sgM Z p1 h0 n0 v U'.heap L ∧ FrameEnd U o U' L ({ frames := 0, cells := 0, slots := 0, locals := 0 } : Room).cells ({ frames := 0, cells := 0, slots := 0, locals := 0 } : Room).slots) := by
  refine MetFree.of_bodySF (plainFor_of_name own_pn5) hisR ?_
  intro p e s m args below meth c s₁ Bd hml0 hP hK
  obtain ⟨rfl, hZ, hh⟩ := hP
  have hx := Bd.exec
  have hby := Bd.bytes
  have hml : c.maxLocals = 1 := hml0
  have hown : s.vm.findClass "com/example/chartrier/chartrier/io/IndexRunComparePinLaw" = some m.cls := findClass_of_methodNamed Bd.named
  have hnm := (name_of_methodNamed Bd.named Bd.method).1
  have X0 : Stand p l e ({ frames := 0, cells := 0, slots := 0, locals := 0 } : Room) s m #[(.int p1)] below meth c s₁ [] 0 0 := Stand.of_body Bd
  have e0 : s₁.heap = h0 := by rw [← hh, Bd.state]; rfl
  have N0 := Fr.nil n0
  refine own_go (S := s₁.setTop (entryFrame m #[(.int p1)] 1)) (Q := (G_own_sgM Z p1 h0 n0 s)) (fun _ k => castTop (own_ef_own_sgM m p1) k) ?_
  show own_Goes p e below (s₁.setTop (mkF m 0 #[.val (.int p1)] [])) (G_own_sgM Z p1 h0 n0 s)
  refine own_go (fun _ k => XS.iloadN X0.here hx rfl (hb hby own_d5_0) rfl k) ?_
  show own_Goes p e below (s₁.setTop (mkF m 1 #[.val (.int p1)] [(.int p1)])) (G_own_sgM Z p1 h0 n0 s)
  by_cases hc1_3 : p1 < (0 : Int32)
  · refine own_go (fun _ k => XS.ifNo X0.here hx rfl (hb hby own_d5_1) rfl (XT.i0_ge_f hc1_3) k) ?_
    show own_Goes p e below (s₁.setTop (mkF m 4 #[.val (.int p1)] [])) (G_own_sgM Z p1 h0 n0 s)
    refine own_go (fun _ k => XS.iconst X0.here hx rfl (hb hby own_d5_4) k) ?_
    show own_Goes p e below (s₁.setTop (mkF m 5 #[.val (.int p1)] [(.int (-1 : Int32))])) (G_own_sgM Z p1 h0 n0 s)
    obtain ⟨fs, hr, hrun, hended, hW, hsame⟩ := X0.leave (v := some (.int (-1 : Int32))) (fun h => by rw [Bd.returns] at h; cases h) Bd.notSynchronized
    refine ⟨_, _, retOut X0 hx (t := .int) (i := .ireturn) Bd.returns rfl (Or.inl ⟨rfl, Or.inl rfl, _, rfl⟩) (hb hby own_d5_5) hr, hrun, hended, _, _, rfl, ?_, ⟨_, rfl⟩, hW, hsame.mono (by decide) (by decide)⟩
    show Q_own_sgM Z p1 h0 n0 _ s₁.heap _
    rw [e0]
    exact ⟨by simp [own_sg, hc1_3], N0, rfl⟩
  · refine own_go (fun _ k => XS.ifYes X0.here hx rfl (pc0 := 1) (pc' := 6) rfl (hb hby own_d5_1) rfl (XT.i0_ge_t hc1_3) (by decide) (by decide) k) ?_
    show own_Goes p e below (s₁.setTop (mkF m 6 #[.val (.int p1)] [])) (G_own_sgM Z p1 h0 n0 s)
    refine own_go (fun _ k => XS.iloadN X0.here hx rfl (hb hby own_d5_6) rfl k) ?_
    show own_Goes p e below (s₁.setTop (mkF m 7 #[.val (.int p1)] [(.int p1)])) (G_own_sgM Z p1 h0 n0 s)
    by_cases hc7_4 : (0 : Int32) < p1
    · refine own_go (fun _ k => XS.ifNo X0.here hx rfl (hb hby own_d5_7) rfl (XT.i0_le_f hc7_4) k) ?_
      show own_Goes p e below (s₁.setTop (mkF m 10 #[.val (.int p1)] [])) (G_own_sgM Z p1 h0 n0 s)
      refine own_go (fun _ k => XS.iconst X0.here hx rfl (hb hby own_d5_10) k) ?_
      show own_Goes p e below (s₁.setTop (mkF m 11 #[.val (.int p1)] [(.int (1 : Int32))])) (G_own_sgM Z p1 h0 n0 s)
      obtain ⟨fs, hr, hrun, hended, hW, hsame⟩ := X0.leave (v := some (.int (1 : Int32))) (fun h => by rw [Bd.returns] at h; cases h) Bd.notSynchronized
      refine ⟨_, _, retOut X0 hx (t := .int) (i := .ireturn) Bd.returns rfl (Or.inl ⟨rfl, Or.inl rfl, _, rfl⟩) (hb hby own_d5_11) hr, hrun, hended, _, _, rfl, ?_, ⟨_, rfl⟩, hW, hsame.mono (by decide) (by decide)⟩
      show Q_own_sgM Z p1 h0 n0 _ s₁.heap _
      rw [e0]
      exact ⟨by simp [own_sg, hc1_3, hc7_4], N0, rfl⟩
    · refine own_go (fun _ k => XS.ifYes X0.here hx rfl (pc0 := 7) (pc' := 12) rfl (hb hby own_d5_7) rfl (XT.i0_le_t hc7_4) (by decide) (by decide) k) ?_
      show own_Goes p e below (s₁.setTop (mkF m 12 #[.val (.int p1)] [])) (G_own_sgM Z p1 h0 n0 s)
      refine own_go (fun _ k => XS.iconst X0.here hx rfl (hb hby own_d5_12) k) ?_
      show own_Goes p e below (s₁.setTop (mkF m 13 #[.val (.int p1)] [(.int (0 : Int32))])) (G_own_sgM Z p1 h0 n0 s)
      obtain ⟨fs, hr, hrun, hended, hW, hsame⟩ := X0.leave (v := some (.int (0 : Int32))) (fun h => by rw [Bd.returns] at h; cases h) Bd.notSynchronized
      refine ⟨_, _, retOut X0 hx (t := .int) (i := .ireturn) Bd.returns rfl (Or.inl ⟨rfl, Or.inl rfl, _, rfl⟩) (hb hby own_d5_13) hr, hrun, hended, _, _, rfl, ?_, ⟨_, rfl⟩, hW, hsame.mono (by decide) (by decide)⟩
      show Q_own_sgM Z p1 h0 n0 _ s₁.heap _
      rw [e0]
      exact ⟨by simp [own_sg, hc1_3, hc7_4], N0, rfl⟩
theorem own_pn1 : plainName "com/example/chartrier/chartrier/io/IndexRunComparePinLaw" = true := by first | (simp [plainName, overriddenIn]; done) | decide +kernel
theorem own_ef_own_uoM (m : MethodId) (p1 : Int64) (p2 : Int64) : entryFrame m #[(.long p1), (.long p2)] 8 = (mkF m 0 #[.val (.long p1), .second, .val (.long p2), .second, .unset, .unset, .unset, .unset] []) := by first | (simp [entryFrame, mkF, argsToLocals, Value.category]; done) | rfl
def Q_own_uoM (Z : State) (p1 : Int64) (p2 : Int64) (h0 : Heap) (n0 : Nat) (v : Option Value) (h : Heap) (L : List Loc) : Prop := v = some (.int (own_uo p1 p2)) ∧ Fr n0 L ∧ h = h0
def G_own_uoM (Z : State) (p1 : Int64) (p2 : Int64) (h0 : Heap) (n0 : Nat) (s : State) : Outcome → State → Prop := fun o U' => ∃ v L, o = .returned v ∧ Q_own_uoM Z p1 p2 h0 n0 v U'.heap L ∧ FrameEnd s o U' L ({ frames := 0, cells := 0, slots := 0, locals := 0 } : Room).cells ({ frames := 0, cells := 0, slots := 0, locals := 0 } : Room).slots
theorem own_d1_0 : decode method_3_code 0 = .ok (.lload_n 0, 1) := by decide +kernel
theorem own_d1_1 : decode method_3_code 1 = .ok (.ldc2_w 9, 3) := by decide +kernel
theorem own_d1_4 : decode method_3_code 4 = .ok (.lxor, 1) := by decide +kernel
theorem own_d1_5 : decode method_3_code 5 = .ok (.lstore 4, 2) := by decide +kernel
theorem own_d1_7 : decode method_3_code 7 = .ok (.lload_n 2, 1) := by decide +kernel
theorem own_d1_8 : decode method_3_code 8 = .ok (.ldc2_w 9, 3) := by decide +kernel
theorem own_d1_11 : decode method_3_code 11 = .ok (.lxor, 1) := by decide +kernel
theorem own_d1_12 : decode method_3_code 12 = .ok (.lstore 6, 2) := by decide +kernel
theorem own_d1_14 : decode method_3_code 14 = .ok (.lload 4, 2) := by decide +kernel
theorem own_d1_16 : decode method_3_code 16 = .ok (.lload 6, 2) := by decide +kernel
theorem own_d1_18 : decode method_3_code 18 = .ok (.lcmp, 1) := by decide +kernel
theorem own_d1_19 : decode method_3_code 19 = .ok (.ifCond .ge 5, 3) := by decide +kernel
theorem own_d1_22 : decode method_3_code 22 = .ok (.iconst (-1), 1) := by decide +kernel
theorem own_d1_23 : decode method_3_code 23 = .ok (.ireturn, 1) := by decide +kernel
theorem own_d1_24 : decode method_3_code 24 = .ok (.lload 4, 2) := by decide +kernel
theorem own_d1_26 : decode method_3_code 26 = .ok (.lload 6, 2) := by decide +kernel
theorem own_d1_28 : decode method_3_code 28 = .ok (.lcmp, 1) := by decide +kernel
theorem own_d1_29 : decode method_3_code 29 = .ok (.ifCond .le 5, 3) := by decide +kernel
theorem own_d1_32 : decode method_3_code 32 = .ok (.iconst 1, 1) := by decide +kernel
theorem own_d1_33 : decode method_3_code 33 = .ok (.ireturn, 1) := by decide +kernel
theorem own_d1_34 : decode method_3_code 34 = .ok (.iconst 0, 1) := by decide +kernel
theorem own_d1_35 : decode method_3_code 35 = .ok (.ireturn, 1) := by decide +kernel
set_option maxRecDepth 65536 in
set_option maxHeartbeats 40000000 in
theorem own_uoM (l : Launch) (Z : State) (a0 : Array Value) (hw : ∀ d ∈ tables_1, d.before a0 Z = true) (ws : List Jvm.Cond) (p1 : Int64) (p2 : Int64) (h0 : Heap) (n0 : Nat) (Z0 : n0 ≤ h0.size)  :
    MetFree l (⟨"com/example/chartrier/chartrier/io/IndexRunComparePinLaw", "unsignedOrder", "(JJ)I"⟩ : MethodName) (head1 (Jvm.Cond.code (⟨"com/example/chartrier/chartrier/io/IndexRunComparePinLaw", "unsignedOrder", "(JJ)I"⟩ : MethodName) method_3_code 8 (some .int) :: ws) ({ frames := 0, cells := 0, slots := 0, locals := 0 } : Room)) (fun a U => a = #[(.long p1), (.long p2)] ∧ Z.Warmed39 U.vm ∧ U.heap = h0) (fun _ _ _ _ _ => True) (fun _ U o U' => ∃ v L, o = .returned v ∧ Q_own_uoM Z p1 p2 h0 n0 v U'.heap L ∧ FrameEnd U o U' L ({ frames := 0, cells := 0, slots := 0, locals := 0 } : Room).cells ({ frames := 0, cells := 0, slots := 0, locals := 0 } : Room).slots) := by
  refine MetFree.of_bodySF (plainFor_of_name own_pn1) hisR ?_
  intro p e s m args below meth c s₁ Bd hml0 hP hK
  obtain ⟨rfl, hZ, hh⟩ := hP
  have hx := Bd.exec
  have hby := Bd.bytes
  have hml : c.maxLocals = 8 := hml0
  have hown : s.vm.findClass "com/example/chartrier/chartrier/io/IndexRunComparePinLaw" = some m.cls := findClass_of_methodNamed Bd.named
  have hnm := (name_of_methodNamed Bd.named Bd.method).1
  have X0 : Stand p l e ({ frames := 0, cells := 0, slots := 0, locals := 0 } : Room) s m #[(.long p1), (.long p2)] below meth c s₁ [] 0 0 := Stand.of_body Bd
  have e0 : s₁.heap = h0 := by rw [← hh, Bd.state]; rfl
  have N0 := Fr.nil n0
  refine own_go (S := s₁.setTop (entryFrame m #[(.long p1), (.long p2)] 8)) (Q := (G_own_uoM Z p1 p2 h0 n0 s)) (fun _ k => castTop (own_ef_own_uoM m p1 p2) k) ?_
  show own_Goes p e below (s₁.setTop (mkF m 0 #[.val (.long p1), .second, .val (.long p2), .second, .unset, .unset, .unset, .unset] [])) (G_own_uoM Z p1 p2 h0 n0 s)
  refine own_go (fun _ k => XS.lloadN X0.here hx rfl (hb hby own_d1_0) rfl k) ?_
  show own_Goes p e below (s₁.setTop (mkF m 1 #[.val (.long p1), .second, .val (.long p2), .second, .unset, .unset, .unset, .unset] [(.long p1)])) (G_own_uoM Z p1 p2 h0 n0 s)
  refine own_go (fun _ k => Jvm.Stand.ldc2J (own := "com/example/chartrier/chartrier/io/IndexRunComparePinLaw") (index := 9) (v := (-9223372036854775808 : Int64)) X0 hx hown (mvT hZ (hw _ (List.mem_of_getElem? (i := 4) rfl))) rfl (hb hby own_d1_1) k) ?_
  show own_Goes p e below (s₁.setTop (mkF m 4 #[.val (.long p1), .second, .val (.long p2), .second, .unset, .unset, .unset, .unset] [(.long (-9223372036854775808 : Int64)), (.long p1)])) (G_own_uoM Z p1 p2 h0 n0 s)
  refine own_go (fun _ k => XS.lxor X0.here hx rfl (hb hby own_d1_4) rfl k) ?_
  show own_Goes p e below (s₁.setTop (mkF m 5 #[.val (.long p1), .second, .val (.long p2), .second, .unset, .unset, .unset, .unset] [(.long (p1 ^^^ (-9223372036854775808 : Int64)))])) (G_own_uoM Z p1 p2 h0 n0 s)
  refine own_go (fun _ k => XS.lstore X0.here hx rfl (hb hby own_d1_5) rfl (l' := #[.val (.long p1), .second, .val (.long p2), .second, .val (.long (p1 ^^^ (-9223372036854775808 : Int64))), .second, .unset, .unset]) rfl k) ?_
  show own_Goes p e below (s₁.setTop (mkF m 7 #[.val (.long p1), .second, .val (.long p2), .second, .val (.long (p1 ^^^ (-9223372036854775808 : Int64))), .second, .unset, .unset] [])) (G_own_uoM Z p1 p2 h0 n0 s)
  refine own_go (fun _ k => XS.lloadN X0.here hx rfl (hb hby own_d1_7) rfl k) ?_
  show own_Goes p e below (s₁.setTop (mkF m 8 #[.val (.long p1), .second, .val (.long p2), .second, .val (.long (p1 ^^^ (-9223372036854775808 : Int64))), .second, .unset, .unset] [(.long p2)])) (G_own_uoM Z p1 p2 h0 n0 s)
  refine own_go (fun _ k => Jvm.Stand.ldc2J (own := "com/example/chartrier/chartrier/io/IndexRunComparePinLaw") (index := 9) (v := (-9223372036854775808 : Int64)) X0 hx hown (mvT hZ (hw _ (List.mem_of_getElem? (i := 4) rfl))) rfl (hb hby own_d1_8) k) ?_
  show own_Goes p e below (s₁.setTop (mkF m 11 #[.val (.long p1), .second, .val (.long p2), .second, .val (.long (p1 ^^^ (-9223372036854775808 : Int64))), .second, .unset, .unset] [(.long (-9223372036854775808 : Int64)), (.long p2)])) (G_own_uoM Z p1 p2 h0 n0 s)
  refine own_go (fun _ k => XS.lxor X0.here hx rfl (hb hby own_d1_11) rfl k) ?_
  show own_Goes p e below (s₁.setTop (mkF m 12 #[.val (.long p1), .second, .val (.long p2), .second, .val (.long (p1 ^^^ (-9223372036854775808 : Int64))), .second, .unset, .unset] [(.long (p2 ^^^ (-9223372036854775808 : Int64)))])) (G_own_uoM Z p1 p2 h0 n0 s)
  refine own_go (fun _ k => XS.lstore X0.here hx rfl (hb hby own_d1_12) rfl (l' := #[.val (.long p1), .second, .val (.long p2), .second, .val (.long (p1 ^^^ (-9223372036854775808 : Int64))), .second, .val (.long (p2 ^^^ (-9223372036854775808 : Int64))), .second]) rfl k) ?_
  show own_Goes p e below (s₁.setTop (mkF m 14 #[.val (.long p1), .second, .val (.long p2), .second, .val (.long (p1 ^^^ (-9223372036854775808 : Int64))), .second, .val (.long (p2 ^^^ (-9223372036854775808 : Int64))), .second] [])) (G_own_uoM Z p1 p2 h0 n0 s)
  refine own_go (fun _ k => XS.lload X0.here hx rfl (hb hby own_d1_14) rfl k) ?_
  show own_Goes p e below (s₁.setTop (mkF m 16 #[.val (.long p1), .second, .val (.long p2), .second, .val (.long (p1 ^^^ (-9223372036854775808 : Int64))), .second, .val (.long (p2 ^^^ (-9223372036854775808 : Int64))), .second] [(.long (p1 ^^^ (-9223372036854775808 : Int64)))])) (G_own_uoM Z p1 p2 h0 n0 s)
  refine own_go (fun _ k => XS.lload X0.here hx rfl (hb hby own_d1_16) rfl k) ?_
  show own_Goes p e below (s₁.setTop (mkF m 18 #[.val (.long p1), .second, .val (.long p2), .second, .val (.long (p1 ^^^ (-9223372036854775808 : Int64))), .second, .val (.long (p2 ^^^ (-9223372036854775808 : Int64))), .second] [(.long (p2 ^^^ (-9223372036854775808 : Int64))), (.long (p1 ^^^ (-9223372036854775808 : Int64)))])) (G_own_uoM Z p1 p2 h0 n0 s)
  refine own_go (fun _ k => XT.lcmp X0.here hx rfl (hb hby own_d1_18) rfl k) ?_
  show own_Goes p e below (s₁.setTop (mkF m 19 #[.val (.long p1), .second, .val (.long p2), .second, .val (.long (p1 ^^^ (-9223372036854775808 : Int64))), .second, .val (.long (p2 ^^^ (-9223372036854775808 : Int64))), .second] [(.int (XT.cmpL (p1 ^^^ (-9223372036854775808 : Int64)) (p2 ^^^ (-9223372036854775808 : Int64))))])) (G_own_uoM Z p1 p2 h0 n0 s)
  by_cases hc19_5 : (p1 ^^^ (-9223372036854775808 : Int64)) < (p2 ^^^ (-9223372036854775808 : Int64))
  · refine own_go (fun _ k => XS.ifNo X0.here hx rfl (hb hby own_d1_19) rfl (XT.ll_ge_f hc19_5) k) ?_
    show own_Goes p e below (s₁.setTop (mkF m 22 #[.val (.long p1), .second, .val (.long p2), .second, .val (.long (p1 ^^^ (-9223372036854775808 : Int64))), .second, .val (.long (p2 ^^^ (-9223372036854775808 : Int64))), .second] [])) (G_own_uoM Z p1 p2 h0 n0 s)
    refine own_go (fun _ k => XS.iconst X0.here hx rfl (hb hby own_d1_22) k) ?_
    show own_Goes p e below (s₁.setTop (mkF m 23 #[.val (.long p1), .second, .val (.long p2), .second, .val (.long (p1 ^^^ (-9223372036854775808 : Int64))), .second, .val (.long (p2 ^^^ (-9223372036854775808 : Int64))), .second] [(.int (-1 : Int32))])) (G_own_uoM Z p1 p2 h0 n0 s)
    obtain ⟨fs, hr, hrun, hended, hW, hsame⟩ := X0.leave (v := some (.int (-1 : Int32))) (fun h => by rw [Bd.returns] at h; cases h) Bd.notSynchronized
    refine ⟨_, _, retOut X0 hx (t := .int) (i := .ireturn) Bd.returns rfl (Or.inl ⟨rfl, Or.inl rfl, _, rfl⟩) (hb hby own_d1_23) hr, hrun, hended, _, _, rfl, ?_, ⟨_, rfl⟩, hW, hsame.mono (by decide) (by decide)⟩
    show Q_own_uoM Z p1 p2 h0 n0 _ s₁.heap _
    rw [e0]
    exact ⟨by simp [own_uo, hc19_5], N0, rfl⟩
  · refine own_go (fun _ k => XS.ifYes X0.here hx rfl (pc0 := 19) (pc' := 24) rfl (hb hby own_d1_19) rfl (XT.ll_ge_t hc19_5) (by decide) (by decide) k) ?_
    show own_Goes p e below (s₁.setTop (mkF m 24 #[.val (.long p1), .second, .val (.long p2), .second, .val (.long (p1 ^^^ (-9223372036854775808 : Int64))), .second, .val (.long (p2 ^^^ (-9223372036854775808 : Int64))), .second] [])) (G_own_uoM Z p1 p2 h0 n0 s)
    refine own_go (fun _ k => XS.lload X0.here hx rfl (hb hby own_d1_24) rfl k) ?_
    show own_Goes p e below (s₁.setTop (mkF m 26 #[.val (.long p1), .second, .val (.long p2), .second, .val (.long (p1 ^^^ (-9223372036854775808 : Int64))), .second, .val (.long (p2 ^^^ (-9223372036854775808 : Int64))), .second] [(.long (p1 ^^^ (-9223372036854775808 : Int64)))])) (G_own_uoM Z p1 p2 h0 n0 s)
    refine own_go (fun _ k => XS.lload X0.here hx rfl (hb hby own_d1_26) rfl k) ?_
    show own_Goes p e below (s₁.setTop (mkF m 28 #[.val (.long p1), .second, .val (.long p2), .second, .val (.long (p1 ^^^ (-9223372036854775808 : Int64))), .second, .val (.long (p2 ^^^ (-9223372036854775808 : Int64))), .second] [(.long (p2 ^^^ (-9223372036854775808 : Int64))), (.long (p1 ^^^ (-9223372036854775808 : Int64)))])) (G_own_uoM Z p1 p2 h0 n0 s)
    refine own_go (fun _ k => XT.lcmp X0.here hx rfl (hb hby own_d1_28) rfl k) ?_
    show own_Goes p e below (s₁.setTop (mkF m 29 #[.val (.long p1), .second, .val (.long p2), .second, .val (.long (p1 ^^^ (-9223372036854775808 : Int64))), .second, .val (.long (p2 ^^^ (-9223372036854775808 : Int64))), .second] [(.int (XT.cmpL (p1 ^^^ (-9223372036854775808 : Int64)) (p2 ^^^ (-9223372036854775808 : Int64))))])) (G_own_uoM Z p1 p2 h0 n0 s)
    by_cases hc29_6 : (p2 ^^^ (-9223372036854775808 : Int64)) < (p1 ^^^ (-9223372036854775808 : Int64))
    · refine own_go (fun _ k => XS.ifNo X0.here hx rfl (hb hby own_d1_29) rfl (XT.ll_le_f hc29_6) k) ?_
      show own_Goes p e below (s₁.setTop (mkF m 32 #[.val (.long p1), .second, .val (.long p2), .second, .val (.long (p1 ^^^ (-9223372036854775808 : Int64))), .second, .val (.long (p2 ^^^ (-9223372036854775808 : Int64))), .second] [])) (G_own_uoM Z p1 p2 h0 n0 s)
      refine own_go (fun _ k => XS.iconst X0.here hx rfl (hb hby own_d1_32) k) ?_
      show own_Goes p e below (s₁.setTop (mkF m 33 #[.val (.long p1), .second, .val (.long p2), .second, .val (.long (p1 ^^^ (-9223372036854775808 : Int64))), .second, .val (.long (p2 ^^^ (-9223372036854775808 : Int64))), .second] [(.int (1 : Int32))])) (G_own_uoM Z p1 p2 h0 n0 s)
      obtain ⟨fs, hr, hrun, hended, hW, hsame⟩ := X0.leave (v := some (.int (1 : Int32))) (fun h => by rw [Bd.returns] at h; cases h) Bd.notSynchronized
      refine ⟨_, _, retOut X0 hx (t := .int) (i := .ireturn) Bd.returns rfl (Or.inl ⟨rfl, Or.inl rfl, _, rfl⟩) (hb hby own_d1_33) hr, hrun, hended, _, _, rfl, ?_, ⟨_, rfl⟩, hW, hsame.mono (by decide) (by decide)⟩
      show Q_own_uoM Z p1 p2 h0 n0 _ s₁.heap _
      rw [e0]
      exact ⟨by simp [own_uo, hc19_5, hc29_6], N0, rfl⟩
    · refine own_go (fun _ k => XS.ifYes X0.here hx rfl (pc0 := 29) (pc' := 34) rfl (hb hby own_d1_29) rfl (XT.ll_le_t hc29_6) (by decide) (by decide) k) ?_
      show own_Goes p e below (s₁.setTop (mkF m 34 #[.val (.long p1), .second, .val (.long p2), .second, .val (.long (p1 ^^^ (-9223372036854775808 : Int64))), .second, .val (.long (p2 ^^^ (-9223372036854775808 : Int64))), .second] [])) (G_own_uoM Z p1 p2 h0 n0 s)
      refine own_go (fun _ k => XS.iconst X0.here hx rfl (hb hby own_d1_34) k) ?_
      show own_Goes p e below (s₁.setTop (mkF m 35 #[.val (.long p1), .second, .val (.long p2), .second, .val (.long (p1 ^^^ (-9223372036854775808 : Int64))), .second, .val (.long (p2 ^^^ (-9223372036854775808 : Int64))), .second] [(.int (0 : Int32))])) (G_own_uoM Z p1 p2 h0 n0 s)
      obtain ⟨fs, hr, hrun, hended, hW, hsame⟩ := X0.leave (v := some (.int (0 : Int32))) (fun h => by rw [Bd.returns] at h; cases h) Bd.notSynchronized
      refine ⟨_, _, retOut X0 hx (t := .int) (i := .ireturn) Bd.returns rfl (Or.inl ⟨rfl, Or.inl rfl, _, rfl⟩) (hb hby own_d1_35) hr, hrun, hended, _, _, rfl, ?_, ⟨_, rfl⟩, hW, hsame.mono (by decide) (by decide)⟩
      show Q_own_uoM Z p1 p2 h0 n0 _ s₁.heap _
      rw [e0]
      exact ⟨by simp [own_uo, hc19_5, hc29_6], N0, rfl⟩
theorem own_pn3 : plainName "java/lang/Long" = true := by first | (simp [plainName, overriddenIn]; done) | decide +kernel
theorem own_ef_own_cuM (m : MethodId) (p1 : Int64) (p2 : Int64) : entryFrame m #[(.long p1), (.long p2)] 4 = (mkF m 0 #[.val (.long p1), .second, .val (.long p2), .second] []) := by first | (simp [entryFrame, mkF, argsToLocals, Value.category]; done) | rfl
def Q_own_cuM (Z : State) (p1 : Int64) (p2 : Int64) (h0 : Heap) (n0 : Nat) (v : Option Value) (h : Heap) (L : List Loc) : Prop := v = some (.int (own_cu p1 p2)) ∧ Fr n0 L ∧ h = h0
def G_own_cuM (Z : State) (p1 : Int64) (p2 : Int64) (h0 : Heap) (n0 : Nat) (s : State) : Outcome → State → Prop := fun o U' => ∃ v L, o = .returned v ∧ Q_own_cuM Z p1 p2 h0 n0 v U'.heap L ∧ FrameEnd s o U' L ({ frames := 1, cells := 0, slots := 0, locals := 15 } : Room).cells ({ frames := 1, cells := 0, slots := 0, locals := 15 } : Room).slots
theorem own_d3_0 : decode jdk_35_method_43_code 0 = .ok (.lload_n 0, 1) := by decide +kernel
theorem own_d3_1 : decode jdk_35_method_43_code 1 = .ok (.ldc2_w 168, 3) := by decide +kernel
theorem own_d3_4 : decode jdk_35_method_43_code 4 = .ok (.ladd, 1) := by decide +kernel
theorem own_d3_5 : decode jdk_35_method_43_code 5 = .ok (.lload_n 2, 1) := by decide +kernel
theorem own_d3_6 : decode jdk_35_method_43_code 6 = .ok (.ldc2_w 168, 3) := by decide +kernel
theorem own_d3_9 : decode jdk_35_method_43_code 9 = .ok (.ladd, 1) := by decide +kernel
theorem own_d3_10 : decode jdk_35_method_43_code 10 = .ok (.invokestatic 302, 3) := by decide +kernel
theorem own_pd0 : parseMethodDescriptor "(JJ)I" = some ⟨[.long, .long], some .int⟩ := by decide +kernel
theorem own_d3_13 : decode jdk_35_method_43_code 13 = .ok (.ireturn, 1) := by decide +kernel
set_option maxRecDepth 65536 in
set_option maxHeartbeats 40000000 in
theorem own_cuM (l : Launch) (Z : State) (a0 : Array Value) (hw : ∀ d ∈ tables_1, d.before a0 Z = true) (ws : List Jvm.Cond) (p1 : Int64) (p2 : Int64) (h0 : Heap) (n0 : Nat) (Z0 : n0 ≤ h0.size)  :
    MetFree l (⟨"java/lang/Long", "compareUnsigned", "(JJ)I"⟩ : MethodName) (head1 (Jvm.Cond.code (⟨"java/lang/Long", "compareUnsigned", "(JJ)I"⟩ : MethodName) jdk_35_method_43_code 4 (some .int) :: ws) ({ frames := 1, cells := 0, slots := 0, locals := 15 } : Room)) (fun a U => a = #[(.long p1), (.long p2)] ∧ Z.Warmed39 U.vm ∧ U.heap = h0) (fun _ _ _ _ _ => True) (fun _ U o U' => ∃ v L, o = .returned v ∧ Q_own_cuM Z p1 p2 h0 n0 v U'.heap L ∧ FrameEnd U o U' L ({ frames := 1, cells := 0, slots := 0, locals := 15 } : Room).cells ({ frames := 1, cells := 0, slots := 0, locals := 15 } : Room).slots) := by
  refine MetFree.of_bodySF (plainFor_of_name own_pn3) hisR ?_
  intro p e s m args below meth c s₁ Bd hml0 hP hK
  obtain ⟨rfl, hZ, hh⟩ := hP
  have hx := Bd.exec
  have hby := Bd.bytes
  have hml : c.maxLocals = 4 := hml0
  have hown : s.vm.findClass "java/lang/Long" = some m.cls := findClass_of_methodNamed Bd.named
  have hnm := (name_of_methodNamed Bd.named Bd.method).1
  have X0 : Stand p l e ({ frames := 1, cells := 0, slots := 0, locals := 15 } : Room) s m #[(.long p1), (.long p2)] below meth c s₁ [] 0 0 := Stand.of_body Bd
  have e0 : s₁.heap = h0 := by rw [← hh, Bd.state]; rfl
  have N0 := Fr.nil n0
  refine own_go (S := s₁.setTop (entryFrame m #[(.long p1), (.long p2)] 4)) (Q := (G_own_cuM Z p1 p2 h0 n0 s)) (fun _ k => castTop (own_ef_own_cuM m p1 p2) k) ?_
  show own_Goes p e below (s₁.setTop (mkF m 0 #[.val (.long p1), .second, .val (.long p2), .second] [])) (G_own_cuM Z p1 p2 h0 n0 s)
  refine own_go (fun _ k => XS.lloadN X0.here hx rfl (hb hby own_d3_0) rfl k) ?_
  show own_Goes p e below (s₁.setTop (mkF m 1 #[.val (.long p1), .second, .val (.long p2), .second] [(.long p1)])) (G_own_cuM Z p1 p2 h0 n0 s)
  refine own_go (fun _ k => Jvm.Stand.ldc2J (own := "java/lang/Long") (index := 168) (v := (-9223372036854775808 : Int64)) X0 hx hown (mvT hZ (hw _ (List.mem_of_getElem? (i := 13) rfl))) rfl (hb hby own_d3_1) k) ?_
  show own_Goes p e below (s₁.setTop (mkF m 4 #[.val (.long p1), .second, .val (.long p2), .second] [(.long (-9223372036854775808 : Int64)), (.long p1)])) (G_own_cuM Z p1 p2 h0 n0 s)
  refine own_go (fun _ k => XS.ladd X0.here hx rfl (hb hby own_d3_4) rfl k) ?_
  show own_Goes p e below (s₁.setTop (mkF m 5 #[.val (.long p1), .second, .val (.long p2), .second] [(.long (p1 + (-9223372036854775808 : Int64)))])) (G_own_cuM Z p1 p2 h0 n0 s)
  refine own_go (fun _ k => XS.lloadN X0.here hx rfl (hb hby own_d3_5) rfl k) ?_
  show own_Goes p e below (s₁.setTop (mkF m 6 #[.val (.long p1), .second, .val (.long p2), .second] [(.long p2), (.long (p1 + (-9223372036854775808 : Int64)))])) (G_own_cuM Z p1 p2 h0 n0 s)
  refine own_go (fun _ k => Jvm.Stand.ldc2J (own := "java/lang/Long") (index := 168) (v := (-9223372036854775808 : Int64)) X0 hx hown (mvT hZ (hw _ (List.mem_of_getElem? (i := 13) rfl))) rfl (hb hby own_d3_6) k) ?_
  show own_Goes p e below (s₁.setTop (mkF m 9 #[.val (.long p1), .second, .val (.long p2), .second] [(.long (-9223372036854775808 : Int64)), (.long p2), (.long (p1 + (-9223372036854775808 : Int64)))])) (G_own_cuM Z p1 p2 h0 n0 s)
  refine own_go (fun _ k => XS.ladd X0.here hx rfl (hb hby own_d3_9) rfl k) ?_
  show own_Goes p e below (s₁.setTop (mkF m 10 #[.val (.long p1), .second, .val (.long p2), .second] [(.long (p2 + (-9223372036854775808 : Int64))), (.long (p1 + (-9223372036854775808 : Int64)))])) (G_own_cuM Z p1 p2 h0 n0 s)
  obtain ⟨_, _, ⟨T7, L7, k7, n7⟩, -, X7, ⟨Lc7, hQ7, l7, y7, z7⟩, st7⟩ := Jvm.LawKit.callS X0 hx (y := (⟨"java/lang/Long", "compare", "(JJ)I"⟩ : MethodName)) hown (mvT hZ (hw _ (List.mem_of_getElem? (i := 14) rfl))) (mvT hZ (hw _ (List.mem_of_getElem? (i := 15) rfl))) (mvT hZ (hw _ (List.mem_of_getElem? (i := 11) rfl))) (mvT hZ (hw _ (List.mem_of_getElem? (i := 16) rfl))) (by decide) (backOf (W := 0) (own_cmpM l Z a0 hw [] (p1 + (-9223372036854775808 : Int64)) (p2 + (-9223372036854775808 : Int64)) h0 n0 Z0 ) hZ (hw _ (List.mem_of_getElem? (i := 16) rfl)) (hw _ (List.mem_of_getElem? (i := 11) rfl)) (by decide) (by decide)) (g := (mkF m 10 #[.val (.long p1), .second, .val (.long p2), .second] [(.long (p2 + (-9223372036854775808 : Int64))), (.long (p1 + (-9223372036854775808 : Int64)))])) rfl (by rw [hml]; rfl) (argsL := [(.long (p1 + (-9223372036854775808 : Int64))), (.long (p2 + (-9223372036854775808 : Int64)))]) (rest := []) (lenOf own_pd0 rfl) rfl (by show 2 * 0 + _ ≤ _; exact Nat.le_of_eq rfl) (hb hby own_d3_10) (fun _ _ => ⟨rfl, e0, (by decide : 0 + 0 ≤ _), (by decide : 0 + 0 ≤ _)⟩)
  dsimp only [Pt.U, Pt.locs, Pt.cells, Pt.slots] at X7 l7 y7 z7 st7 hQ7
  subst l7 y7 z7
  obtain ⟨rfl, N7q, e7⟩ := hQ7
  have N7 := Fr.app N0 N7q
  refine own_go st7 ?_
  show own_Goes p e below (T7.setTop (mkF m 13 #[.val (.long p1), .second, .val (.long p2), .second] [(.int (own_cmp (p1 + (-9223372036854775808 : Int64)) (p2 + (-9223372036854775808 : Int64))))])) (G_own_cuM Z p1 p2 h0 n0 s)
  obtain ⟨fs, hr, hrun, hended, hW, hsame⟩ := X7.leave (v := some (.int (own_cmp (p1 + (-9223372036854775808 : Int64)) (p2 + (-9223372036854775808 : Int64))))) (fun h => by rw [Bd.returns] at h; cases h) Bd.notSynchronized
  refine ⟨_, _, retOut X7 hx (t := .int) (i := .ireturn) Bd.returns rfl (Or.inl ⟨rfl, Or.inl rfl, _, rfl⟩) (hb hby own_d3_13) hr, hrun, hended, _, _, rfl, ?_, ⟨_, rfl⟩, hW, hsame.mono (by decide) (by decide)⟩
  show Q_own_cuM Z p1 p2 h0 n0 _ T7.heap _
  rw [e7]
  exact ⟨rfl, N7, rfl⟩
theorem own_pn2 : plainName "com/example/chartrier/chartrier/io/IndexRun" = true := by first | (simp [plainName, overriddenIn]; done) | decide +kernel
theorem own_ef_own_runM (m : MethodId) (p1 : Int64) (p2 : Int64) (p3 : Int64) (p4 : Int64) : entryFrame m #[(.long p1), (.long p2), (.long p3), (.long p4)] 9 = (mkF m 0 #[.val (.long p1), .second, .val (.long p2), .second, .val (.long p3), .second, .val (.long p4), .second, .unset] []) := by first | (simp [entryFrame, mkF, argsToLocals, Value.category]; done) | rfl
def Q_own_runM (Z : State) (p1 : Int64) (p2 : Int64) (p3 : Int64) (p4 : Int64) (h0 : Heap) (n0 : Nat) (v : Option Value) (h : Heap) (L : List Loc) : Prop := v = some (.int (own_run p1 p2 p3 p4)) ∧ Fr n0 L ∧ h = h0
def G_own_runM (Z : State) (p1 : Int64) (p2 : Int64) (p3 : Int64) (p4 : Int64) (h0 : Heap) (n0 : Nat) (s : State) : Outcome → State → Prop := fun o U' => ∃ v L, o = .returned v ∧ Q_own_runM Z p1 p2 p3 p4 h0 n0 v U'.heap L ∧ FrameEnd s o U' L ({ frames := 2, cells := 0, slots := 0, locals := 30 } : Room).cells ({ frames := 2, cells := 0, slots := 0, locals := 30 } : Room).slots
theorem own_d2_0 : decode prog_6_method_15_code 0 = .ok (.lload_n 0, 1) := by decide +kernel
theorem own_d2_1 : decode prog_6_method_15_code 1 = .ok (.lload 4, 2) := by decide +kernel
theorem own_d2_3 : decode prog_6_method_15_code 3 = .ok (.invokestatic 207, 3) := by decide +kernel
theorem own_d2_6 : decode prog_6_method_15_code 6 = .ok (.istore 8, 2) := by decide +kernel
theorem own_d2_8 : decode prog_6_method_15_code 8 = .ok (.iload 8, 2) := by decide +kernel
theorem own_d2_10 : decode prog_6_method_15_code 10 = .ok (.ifCond .eq 8, 3) := by decide +kernel
theorem own_d2_18 : decode prog_6_method_15_code 18 = .ok (.lload_n 2, 1) := by decide +kernel
theorem own_d2_19 : decode prog_6_method_15_code 19 = .ok (.lload 6, 2) := by decide +kernel
theorem own_d2_21 : decode prog_6_method_15_code 21 = .ok (.invokestatic 207, 3) := by decide +kernel
theorem own_d2_24 : decode prog_6_method_15_code 24 = .ok (.ireturn, 1) := by decide +kernel
theorem own_d2_13 : decode prog_6_method_15_code 13 = .ok (.iload 8, 2) := by decide +kernel
theorem own_d2_15 : decode prog_6_method_15_code 15 = .ok (.goto 9, 3) := by decide +kernel
set_option maxRecDepth 65536 in
set_option maxHeartbeats 40000000 in
theorem own_runM (l : Launch) (Z : State) (a0 : Array Value) (hw : ∀ d ∈ tables_1, d.before a0 Z = true) (ws : List Jvm.Cond) (p1 : Int64) (p2 : Int64) (p3 : Int64) (p4 : Int64) (h0 : Heap) (n0 : Nat) (Z0 : n0 ≤ h0.size)  :
    MetFree l (⟨"com/example/chartrier/chartrier/io/IndexRun", "compare", "(JJJJ)I"⟩ : MethodName) (head1 (Jvm.Cond.code (⟨"com/example/chartrier/chartrier/io/IndexRun", "compare", "(JJJJ)I"⟩ : MethodName) prog_6_method_15_code 9 (some .int) :: ws) ({ frames := 2, cells := 0, slots := 0, locals := 30 } : Room)) (fun a U => a = #[(.long p1), (.long p2), (.long p3), (.long p4)] ∧ Z.Warmed39 U.vm ∧ U.heap = h0) (fun _ _ _ _ _ => True) (fun _ U o U' => ∃ v L, o = .returned v ∧ Q_own_runM Z p1 p2 p3 p4 h0 n0 v U'.heap L ∧ FrameEnd U o U' L ({ frames := 2, cells := 0, slots := 0, locals := 30 } : Room).cells ({ frames := 2, cells := 0, slots := 0, locals := 30 } : Room).slots) := by
  refine MetFree.of_bodySF (plainFor_of_name own_pn2) hisR ?_
  intro p e s m args below meth c s₁ Bd hml0 hP hK
  obtain ⟨rfl, hZ, hh⟩ := hP
  have hx := Bd.exec
  have hby := Bd.bytes
  have hml : c.maxLocals = 9 := hml0
  have hown : s.vm.findClass "com/example/chartrier/chartrier/io/IndexRun" = some m.cls := findClass_of_methodNamed Bd.named
  have hnm := (name_of_methodNamed Bd.named Bd.method).1
  have X0 : Stand p l e ({ frames := 2, cells := 0, slots := 0, locals := 30 } : Room) s m #[(.long p1), (.long p2), (.long p3), (.long p4)] below meth c s₁ [] 0 0 := Stand.of_body Bd
  have e0 : s₁.heap = h0 := by rw [← hh, Bd.state]; rfl
  have N0 := Fr.nil n0
  refine own_go (S := s₁.setTop (entryFrame m #[(.long p1), (.long p2), (.long p3), (.long p4)] 9)) (Q := (G_own_runM Z p1 p2 p3 p4 h0 n0 s)) (fun _ k => castTop (own_ef_own_runM m p1 p2 p3 p4) k) ?_
  show own_Goes p e below (s₁.setTop (mkF m 0 #[.val (.long p1), .second, .val (.long p2), .second, .val (.long p3), .second, .val (.long p4), .second, .unset] [])) (G_own_runM Z p1 p2 p3 p4 h0 n0 s)
  refine own_go (fun _ k => XS.lloadN X0.here hx rfl (hb hby own_d2_0) rfl k) ?_
  show own_Goes p e below (s₁.setTop (mkF m 1 #[.val (.long p1), .second, .val (.long p2), .second, .val (.long p3), .second, .val (.long p4), .second, .unset] [(.long p1)])) (G_own_runM Z p1 p2 p3 p4 h0 n0 s)
  refine own_go (fun _ k => XS.lload X0.here hx rfl (hb hby own_d2_1) rfl k) ?_
  show own_Goes p e below (s₁.setTop (mkF m 3 #[.val (.long p1), .second, .val (.long p2), .second, .val (.long p3), .second, .val (.long p4), .second, .unset] [(.long p3), (.long p1)])) (G_own_runM Z p1 p2 p3 p4 h0 n0 s)
  obtain ⟨_, _, ⟨T8, L8, k8, n8⟩, -, X8, ⟨Lc8, hQ8, l8, y8, z8⟩, st8⟩ := Jvm.LawKit.callS X0 hx (y := (⟨"java/lang/Long", "compareUnsigned", "(JJ)I"⟩ : MethodName)) hown (mvT hZ (hw _ (List.mem_of_getElem? (i := 9) rfl))) (mvT hZ (hw _ (List.mem_of_getElem? (i := 10) rfl))) (mvT hZ (hw _ (List.mem_of_getElem? (i := 11) rfl))) (mvT hZ (hw _ (List.mem_of_getElem? (i := 12) rfl))) (by decide) (backOf (W := 0) (own_cuM l Z a0 hw [] p1 p3 h0 n0 Z0 ) hZ (hw _ (List.mem_of_getElem? (i := 12) rfl)) (hw _ (List.mem_of_getElem? (i := 11) rfl)) (by decide) (by decide)) (g := (mkF m 3 #[.val (.long p1), .second, .val (.long p2), .second, .val (.long p3), .second, .val (.long p4), .second, .unset] [(.long p3), (.long p1)])) rfl (by rw [hml]; rfl) (argsL := [(.long p1), (.long p3)]) (rest := []) (lenOf own_pd0 rfl) rfl (by show 2 * 0 + _ ≤ _; exact Nat.le_of_eq rfl) (hb hby own_d2_3) (fun _ _ => ⟨rfl, e0, (by decide : 0 + 0 ≤ _), (by decide : 0 + 0 ≤ _)⟩)
  dsimp only [Pt.U, Pt.locs, Pt.cells, Pt.slots] at X8 l8 y8 z8 st8 hQ8
  subst l8 y8 z8
  obtain ⟨rfl, N8q, e8⟩ := hQ8
  have N8 := Fr.app N0 N8q
  refine own_go st8 ?_
  show own_Goes p e below (T8.setTop (mkF m 6 #[.val (.long p1), .second, .val (.long p2), .second, .val (.long p3), .second, .val (.long p4), .second, .unset] [(.int (own_cu p1 p3))])) (G_own_runM Z p1 p2 p3 p4 h0 n0 s)
  refine own_go (fun _ k => XS.istore X8.here hx rfl (hb hby own_d2_6) rfl (l' := #[.val (.long p1), .second, .val (.long p2), .second, .val (.long p3), .second, .val (.long p4), .second, .val (.int (own_cu p1 p3))]) rfl k) ?_
  show own_Goes p e below (T8.setTop (mkF m 8 #[.val (.long p1), .second, .val (.long p2), .second, .val (.long p3), .second, .val (.long p4), .second, .val (.int (own_cu p1 p3))] [])) (G_own_runM Z p1 p2 p3 p4 h0 n0 s)
  refine own_go (fun _ k => XS.iload X8.here hx rfl (hb hby own_d2_8) rfl k) ?_
  show own_Goes p e below (T8.setTop (mkF m 10 #[.val (.long p1), .second, .val (.long p2), .second, .val (.long p3), .second, .val (.long p4), .second, .val (.int (own_cu p1 p3))] [(.int (own_cu p1 p3))])) (G_own_runM Z p1 p2 p3 p4 h0 n0 s)
  by_cases hc10_9 : (own_cu p1 p3) = (0 : Int32)
  · refine own_go (fun _ k => XS.ifYes X8.here hx rfl (pc0 := 10) (pc' := 18) rfl (hb hby own_d2_10) rfl (XT.i0_eq_t hc10_9) (by decide) (by decide) k) ?_
    show own_Goes p e below (T8.setTop (mkF m 18 #[.val (.long p1), .second, .val (.long p2), .second, .val (.long p3), .second, .val (.long p4), .second, .val (.int (own_cu p1 p3))] [])) (G_own_runM Z p1 p2 p3 p4 h0 n0 s)
    refine own_go (fun _ k => XS.lloadN X8.here hx rfl (hb hby own_d2_18) rfl k) ?_
    show own_Goes p e below (T8.setTop (mkF m 19 #[.val (.long p1), .second, .val (.long p2), .second, .val (.long p3), .second, .val (.long p4), .second, .val (.int (own_cu p1 p3))] [(.long p2)])) (G_own_runM Z p1 p2 p3 p4 h0 n0 s)
    refine own_go (fun _ k => XS.lload X8.here hx rfl (hb hby own_d2_19) rfl k) ?_
    show own_Goes p e below (T8.setTop (mkF m 21 #[.val (.long p1), .second, .val (.long p2), .second, .val (.long p3), .second, .val (.long p4), .second, .val (.int (own_cu p1 p3))] [(.long p4), (.long p2)])) (G_own_runM Z p1 p2 p3 p4 h0 n0 s)
    obtain ⟨_, _, ⟨T10, L10, k10, n10⟩, -, X10, ⟨Lc10, hQ10, l10, y10, z10⟩, st10⟩ := Jvm.LawKit.callS X8 hx (y := (⟨"java/lang/Long", "compareUnsigned", "(JJ)I"⟩ : MethodName)) hown (mvT hZ (hw _ (List.mem_of_getElem? (i := 9) rfl))) (mvT hZ (hw _ (List.mem_of_getElem? (i := 10) rfl))) (mvT hZ (hw _ (List.mem_of_getElem? (i := 11) rfl))) (mvT hZ (hw _ (List.mem_of_getElem? (i := 12) rfl))) (by decide) (backOf (W := 0) (own_cuM l Z a0 hw [] p2 p4 h0 n0 Z0 ) hZ (hw _ (List.mem_of_getElem? (i := 12) rfl)) (hw _ (List.mem_of_getElem? (i := 11) rfl)) (by decide) (by decide)) (g := (mkF m 21 #[.val (.long p1), .second, .val (.long p2), .second, .val (.long p3), .second, .val (.long p4), .second, .val (.int (own_cu p1 p3))] [(.long p4), (.long p2)])) rfl (by rw [hml]; rfl) (argsL := [(.long p2), (.long p4)]) (rest := []) (lenOf own_pd0 rfl) rfl (by show 2 * 0 + _ ≤ _; exact Nat.le_of_eq rfl) (hb hby own_d2_21) (fun _ _ => ⟨rfl, e8, (by decide : 0 + 0 ≤ _), (by decide : 0 + 0 ≤ _)⟩)
    dsimp only [Pt.U, Pt.locs, Pt.cells, Pt.slots] at X10 l10 y10 z10 st10 hQ10
    subst l10 y10 z10
    obtain ⟨rfl, N10q, e10⟩ := hQ10
    have N10 := Fr.app N8 N10q
    refine own_go st10 ?_
    show own_Goes p e below (T10.setTop (mkF m 24 #[.val (.long p1), .second, .val (.long p2), .second, .val (.long p3), .second, .val (.long p4), .second, .val (.int (own_cu p1 p3))] [(.int (own_cu p2 p4))])) (G_own_runM Z p1 p2 p3 p4 h0 n0 s)
    obtain ⟨fs, hr, hrun, hended, hW, hsame⟩ := X10.leave (v := some (.int (own_cu p2 p4))) (fun h => by rw [Bd.returns] at h; cases h) Bd.notSynchronized
    refine ⟨_, _, retOut X10 hx (t := .int) (i := .ireturn) Bd.returns rfl (Or.inl ⟨rfl, Or.inl rfl, _, rfl⟩) (hb hby own_d2_24) hr, hrun, hended, _, _, rfl, ?_, ⟨_, rfl⟩, hW, hsame.mono (by decide) (by decide)⟩
    show Q_own_runM Z p1 p2 p3 p4 h0 n0 _ T10.heap _
    rw [e10]
    exact ⟨by simp [own_run, hc10_9], N10, rfl⟩
  · refine own_go (fun _ k => XS.ifNo X8.here hx rfl (hb hby own_d2_10) rfl (XT.i0_eq_f hc10_9) k) ?_
    show own_Goes p e below (T8.setTop (mkF m 13 #[.val (.long p1), .second, .val (.long p2), .second, .val (.long p3), .second, .val (.long p4), .second, .val (.int (own_cu p1 p3))] [])) (G_own_runM Z p1 p2 p3 p4 h0 n0 s)
    refine own_go (fun _ k => XS.iload X8.here hx rfl (hb hby own_d2_13) rfl k) ?_
    show own_Goes p e below (T8.setTop (mkF m 15 #[.val (.long p1), .second, .val (.long p2), .second, .val (.long p3), .second, .val (.long p4), .second, .val (.int (own_cu p1 p3))] [(.int (own_cu p1 p3))])) (G_own_runM Z p1 p2 p3 p4 h0 n0 s)
    refine own_go (fun _ k => XS.goto X8.here hx rfl (pc0 := 15) (pc' := 24) rfl (hb hby own_d2_15) (by decide) (by decide) k) ?_
    show own_Goes p e below (T8.setTop (mkF m 24 #[.val (.long p1), .second, .val (.long p2), .second, .val (.long p3), .second, .val (.long p4), .second, .val (.int (own_cu p1 p3))] [(.int (own_cu p1 p3))])) (G_own_runM Z p1 p2 p3 p4 h0 n0 s)
    obtain ⟨fs, hr, hrun, hended, hW, hsame⟩ := X8.leave (v := some (.int (own_cu p1 p3))) (fun h => by rw [Bd.returns] at h; cases h) Bd.notSynchronized
    refine ⟨_, _, retOut X8 hx (t := .int) (i := .ireturn) Bd.returns rfl (Or.inl ⟨rfl, Or.inl rfl, _, rfl⟩) (hb hby own_d2_24) hr, hrun, hended, _, _, rfl, ?_, ⟨_, rfl⟩, hW, hsame.mono (by decide) (by decide)⟩
    show Q_own_runM Z p1 p2 p3 p4 h0 n0 _ T8.heap _
    rw [e8]
    exact ⟨by simp [own_run, hc10_9], N8, rfl⟩
theorem own_pn0 : plainName "com/example/chartrier/chartrier/io/IndexRunComparePinLaw" = true := by first | (simp [plainName, overriddenIn]; done) | decide +kernel
theorem own_ef_own_law (m : MethodId) (p1 : Int64) (p2 : Int64) (p3 : Int64) (p4 : Int64) (p5 : Int32) : entryFrame m #[(.long p1), (.long p2), (.long p3), (.long p4), (.int p5)] maxLocals = (mkF m 0 #[.val (.long p1), .second, .val (.long p2), .second, .val (.long p3), .second, .val (.long p4), .second, .val (.int p5), .unset, .unset, .unset, .unset, .unset, .unset, .unset, .unset] []) := by first | (simp [entryFrame, mkF, argsToLocals, Value.category, maxLocals]; done) | rfl
def Q_own_law (Z : State) (p1 : Int64) (p2 : Int64) (p3 : Int64) (p4 : Int64) (p5 : Int32) (h0 : Heap) (n0 : Nat) (v : Option Value) (h : Heap) (L : List Loc) : Prop := v = some (.int 1) ∧ Fr n0 L
def G_own_law (Z : State) (p1 : Int64) (p2 : Int64) (p3 : Int64) (p4 : Int64) (p5 : Int32) (h0 : Heap) (n0 : Nat) (s : State) : Outcome → State → Prop := fun o U' => ∃ v L, o = .returned v ∧ Q_own_law Z p1 p2 p3 p4 p5 h0 n0 v U'.heap L ∧ FrameEnd s o U' L room_1.cells room_1.slots
theorem own_pd1 : parseMethodDescriptor "(JJJJ)I" = some ⟨[.long, .long, .long, .long], some .int⟩ := by decide +kernel
theorem own_pd2 : parseMethodDescriptor "(I)I" = some ⟨[.int], some .int⟩ := by decide +kernel
set_option maxRecDepth 65536 in
set_option maxHeartbeats 40000000 in
theorem own_law (l : Launch) (Z : State) (a0 : Array Value) (hw : ∀ d ∈ tables_1, d.before a0 Z = true) (ws : List Jvm.Cond) (p1 : Int64) (p2 : Int64) (p3 : Int64) (p4 : Int64) (p5 : Int32) (h0 : Heap) (n0 : Nat) (Z0 : n0 ≤ h0.size)  :
    MetFree l x (head1 (Jvm.Cond.code x code maxLocals ret :: ws) room_1) (fun a U => a = #[(.long p1), (.long p2), (.long p3), (.long p4), (.int p5)] ∧ Z.Warmed39 U.vm ∧ U.heap = h0) (fun _ _ _ _ _ => True) (fun _ U o U' => ∃ v L, o = .returned v ∧ Q_own_law Z p1 p2 p3 p4 p5 h0 n0 v U'.heap L ∧ FrameEnd U o U' L room_1.cells room_1.slots) := by
  refine MetFree.of_bodySF (plainFor_of_name own_pn0) hisR ?_
  intro p e s m args below meth c s₁ Bd hml0 hP hK
  obtain ⟨rfl, hZ, hh⟩ := hP
  have hx := Bd.exec
  have hby := Bd.bytes
  have hml : c.maxLocals = 17 := hml0
  have hown : s.vm.findClass "com/example/chartrier/chartrier/io/IndexRunComparePinLaw" = some m.cls := findClass_of_methodNamed Bd.named
  have hnm := (name_of_methodNamed Bd.named Bd.method).1
  have X0 : Stand p l e room_1 s m #[(.long p1), (.long p2), (.long p3), (.long p4), (.int p5)] below meth c s₁ [] 0 0 := Stand.of_body Bd
  have e0 : s₁.heap = h0 := by rw [← hh, Bd.state]; rfl
  have N0 := Fr.nil n0
  refine own_go (S := s₁.setTop (entryFrame m #[(.long p1), (.long p2), (.long p3), (.long p4), (.int p5)] maxLocals)) (Q := (G_own_law Z p1 p2 p3 p4 p5 h0 n0 s)) (fun _ k => castTop (own_ef_own_law m p1 p2 p3 p4 p5) k) ?_
  show own_Goes p e below (s₁.setTop (mkF m 0 #[.val (.long p1), .second, .val (.long p2), .second, .val (.long p3), .second, .val (.long p4), .second, .val (.int p5), .unset, .unset, .unset, .unset, .unset, .unset, .unset, .unset] [])) (G_own_law Z p1 p2 p3 p4 p5 h0 n0 s)
  refine own_go (fun _ k => XS.iload X0.here hx rfl (hb hby at_0) rfl k) ?_
  show own_Goes p e below (s₁.setTop (mkF m 2 #[.val (.long p1), .second, .val (.long p2), .second, .val (.long p3), .second, .val (.long p4), .second, .val (.int p5), .unset, .unset, .unset, .unset, .unset, .unset, .unset, .unset] [(.int p5)])) (G_own_law Z p1 p2 p3 p4 p5 h0 n0 s)
  refine own_go (fun _ k => XS.iconst X0.here hx rfl (hb hby at_2) k) ?_
  show own_Goes p e below (s₁.setTop (mkF m 3 #[.val (.long p1), .second, .val (.long p2), .second, .val (.long p3), .second, .val (.long p4), .second, .val (.int p5), .unset, .unset, .unset, .unset, .unset, .unset, .unset, .unset] [(.int (3 : Int32)), (.int p5)])) (G_own_law Z p1 p2 p3 p4 p5 h0 n0 s)
  refine own_go (fun _ k => XS.iand X0.here hx rfl (hb hby at_3) rfl k) ?_
  show own_Goes p e below (s₁.setTop (mkF m 4 #[.val (.long p1), .second, .val (.long p2), .second, .val (.long p3), .second, .val (.long p4), .second, .val (.int p5), .unset, .unset, .unset, .unset, .unset, .unset, .unset, .unset] [(.int (p5 &&& (3 : Int32)))])) (G_own_law Z p1 p2 p3 p4 p5 h0 n0 s)
  refine own_go (fun _ k => XS.istore X0.here hx rfl (hb hby at_4) rfl (l' := #[.val (.long p1), .second, .val (.long p2), .second, .val (.long p3), .second, .val (.long p4), .second, .val (.int p5), .val (.int (p5 &&& (3 : Int32))), .unset, .unset, .unset, .unset, .unset, .unset, .unset]) rfl k) ?_
  show own_Goes p e below (s₁.setTop (mkF m 6 #[.val (.long p1), .second, .val (.long p2), .second, .val (.long p3), .second, .val (.long p4), .second, .val (.int p5), .val (.int (p5 &&& (3 : Int32))), .unset, .unset, .unset, .unset, .unset, .unset, .unset] [])) (G_own_law Z p1 p2 p3 p4 p5 h0 n0 s)
  refine own_go (fun _ k => XS.lload X0.here hx rfl (hb hby at_6) rfl k) ?_
  show own_Goes p e below (s₁.setTop (mkF m 8 #[.val (.long p1), .second, .val (.long p2), .second, .val (.long p3), .second, .val (.long p4), .second, .val (.int p5), .val (.int (p5 &&& (3 : Int32))), .unset, .unset, .unset, .unset, .unset, .unset, .unset] [(.long p3)])) (G_own_law Z p1 p2 p3 p4 p5 h0 n0 s)
  refine own_go (fun _ k => XS.lstore X0.here hx rfl (hb hby at_8) rfl (l' := #[.val (.long p1), .second, .val (.long p2), .second, .val (.long p3), .second, .val (.long p4), .second, .val (.int p5), .val (.int (p5 &&& (3 : Int32))), .val (.long p3), .second, .unset, .unset, .unset, .unset, .unset]) rfl k) ?_
  show own_Goes p e below (s₁.setTop (mkF m 10 #[.val (.long p1), .second, .val (.long p2), .second, .val (.long p3), .second, .val (.long p4), .second, .val (.int p5), .val (.int (p5 &&& (3 : Int32))), .val (.long p3), .second, .unset, .unset, .unset, .unset, .unset] [])) (G_own_law Z p1 p2 p3 p4 p5 h0 n0 s)
  refine own_go (fun _ k => XS.lload X0.here hx rfl (hb hby at_10) rfl k) ?_
  show own_Goes p e below (s₁.setTop (mkF m 12 #[.val (.long p1), .second, .val (.long p2), .second, .val (.long p3), .second, .val (.long p4), .second, .val (.int p5), .val (.int (p5 &&& (3 : Int32))), .val (.long p3), .second, .unset, .unset, .unset, .unset, .unset] [(.long p4)])) (G_own_law Z p1 p2 p3 p4 p5 h0 n0 s)
  refine own_go (fun _ k => XS.lstore X0.here hx rfl (hb hby at_12) rfl (l' := #[.val (.long p1), .second, .val (.long p2), .second, .val (.long p3), .second, .val (.long p4), .second, .val (.int p5), .val (.int (p5 &&& (3 : Int32))), .val (.long p3), .second, .val (.long p4), .second, .unset, .unset, .unset]) rfl k) ?_
  show own_Goes p e below (s₁.setTop (mkF m 14 #[.val (.long p1), .second, .val (.long p2), .second, .val (.long p3), .second, .val (.long p4), .second, .val (.int p5), .val (.int (p5 &&& (3 : Int32))), .val (.long p3), .second, .val (.long p4), .second, .unset, .unset, .unset] [])) (G_own_law Z p1 p2 p3 p4 p5 h0 n0 s)
  obtain ⟨md, h_md⟩ : ∃ z : Int32, z = (p5 &&& (3 : Int32)) := ⟨_, rfl⟩
  rw [← h_md]
  show own_Goes p e below (s₁.setTop (mkF m 14 #[.val (.long p1), .second, .val (.long p2), .second, .val (.long p3), .second, .val (.long p4), .second, .val (.int p5), .val (.int md), .val (.long p3), .second, .val (.long p4), .second, .unset, .unset, .unset] [])) (G_own_law Z p1 p2 p3 p4 p5 h0 n0 s)
  refine own_join (P := fun q3 : Int64 => True) (F := fun q3 => s₁.setTop (mkF m 29 #[.val (.long p1), .second, .val (.long p2), .second, .val (.long p3), .second, .val (.long p4), .second, .val (.int p5), .val (.int md), .val (.long q3), .second, .val (.long p4), .second, .unset, .unset, .unset] [])) ?_ ?_
  · intro q3 h_q3
    show own_Goes p e below (s₁.setTop (mkF m 29 #[.val (.long p1), .second, .val (.long p2), .second, .val (.long p3), .second, .val (.long p4), .second, .val (.int p5), .val (.int md), .val (.long q3), .second, .val (.long p4), .second, .unset, .unset, .unset] [])) (G_own_law Z p1 p2 p3 p4 p5 h0 n0 s)
    refine own_join (P := fun q4 : Int64 => True) (F := fun q4 => s₁.setTop (mkF m 44 #[.val (.long p1), .second, .val (.long p2), .second, .val (.long p3), .second, .val (.long p4), .second, .val (.int p5), .val (.int md), .val (.long q3), .second, .val (.long q4), .second, .unset, .unset, .unset] [])) ?_ ?_
    · intro q4 h_q4
      show own_Goes p e below (s₁.setTop (mkF m 44 #[.val (.long p1), .second, .val (.long p2), .second, .val (.long p3), .second, .val (.long p4), .second, .val (.int p5), .val (.int md), .val (.long q3), .second, .val (.long q4), .second, .unset, .unset, .unset] [])) (G_own_law Z p1 p2 p3 p4 p5 h0 n0 s)
      refine own_go (fun _ k => XS.lloadN X0.here hx rfl (hb hby at_44) rfl k) ?_
      show own_Goes p e below (s₁.setTop (mkF m 45 #[.val (.long p1), .second, .val (.long p2), .second, .val (.long p3), .second, .val (.long p4), .second, .val (.int p5), .val (.int md), .val (.long q3), .second, .val (.long q4), .second, .unset, .unset, .unset] [(.long p1)])) (G_own_law Z p1 p2 p3 p4 p5 h0 n0 s)
      refine own_go (fun _ k => XS.lload X0.here hx rfl (hb hby at_45) rfl k) ?_
      show own_Goes p e below (s₁.setTop (mkF m 47 #[.val (.long p1), .second, .val (.long p2), .second, .val (.long p3), .second, .val (.long p4), .second, .val (.int p5), .val (.int md), .val (.long q3), .second, .val (.long q4), .second, .unset, .unset, .unset] [(.long q3), (.long p1)])) (G_own_law Z p1 p2 p3 p4 p5 h0 n0 s)
      obtain ⟨_, _, ⟨T13, L13, k13, n13⟩, -, X13, ⟨Lc13, hQ13, l13, y13, z13⟩, st13⟩ := Jvm.LawKit.callS X0 hx (y := (⟨"com/example/chartrier/chartrier/io/IndexRunComparePinLaw", "unsignedOrder", "(JJ)I"⟩ : MethodName)) hown (mvT hZ (hw _ (List.mem_of_getElem? (i := 0) rfl))) (mvT hZ (hw _ (List.mem_of_getElem? (i := 1) rfl))) (mvT hZ (hw _ (List.mem_of_getElem? (i := 2) rfl))) (mvT hZ (hw _ (List.mem_of_getElem? (i := 3) rfl))) (by decide) (backOf (W := 0) (own_uoM l Z a0 hw [] p1 q3 h0 n0 Z0 ) hZ (hw _ (List.mem_of_getElem? (i := 3) rfl)) (hw _ (List.mem_of_getElem? (i := 2) rfl)) (by decide) (by decide)) (g := (mkF m 47 #[.val (.long p1), .second, .val (.long p2), .second, .val (.long p3), .second, .val (.long p4), .second, .val (.int p5), .val (.int md), .val (.long q3), .second, .val (.long q4), .second, .unset, .unset, .unset] [(.long q3), (.long p1)])) rfl (by rw [hml]; rfl) (argsL := [(.long p1), (.long q3)]) (rest := []) (lenOf own_pd0 rfl) rfl (by show 2 * 0 + _ ≤ _; exact Nat.le_of_eq rfl) (hb hby at_47) (fun _ _ => ⟨rfl, e0, (by decide : 0 + 0 ≤ _), (by decide : 0 + 0 ≤ _)⟩)
      dsimp only [Pt.U, Pt.locs, Pt.cells, Pt.slots] at X13 l13 y13 z13 st13 hQ13
      subst l13 y13 z13
      obtain ⟨rfl, N13q, e13⟩ := hQ13
      have N13 := Fr.app N0 N13q
      refine own_go st13 ?_
      show own_Goes p e below (T13.setTop (mkF m 50 #[.val (.long p1), .second, .val (.long p2), .second, .val (.long p3), .second, .val (.long p4), .second, .val (.int p5), .val (.int md), .val (.long q3), .second, .val (.long q4), .second, .unset, .unset, .unset] [(.int (own_uo p1 q3))])) (G_own_law Z p1 p2 p3 p4 p5 h0 n0 s)
      refine own_go (fun _ k => XS.istore X13.here hx rfl (hb hby at_50) rfl (l' := #[.val (.long p1), .second, .val (.long p2), .second, .val (.long p3), .second, .val (.long p4), .second, .val (.int p5), .val (.int md), .val (.long q3), .second, .val (.long q4), .second, .val (.int (own_uo p1 q3)), .unset, .unset]) rfl k) ?_
      show own_Goes p e below (T13.setTop (mkF m 52 #[.val (.long p1), .second, .val (.long p2), .second, .val (.long p3), .second, .val (.long p4), .second, .val (.int p5), .val (.int md), .val (.long q3), .second, .val (.long q4), .second, .val (.int (own_uo p1 q3)), .unset, .unset] [])) (G_own_law Z p1 p2 p3 p4 p5 h0 n0 s)
      refine own_go (fun _ k => XS.iload X13.here hx rfl (hb hby at_52) rfl k) ?_
      show own_Goes p e below (T13.setTop (mkF m 54 #[.val (.long p1), .second, .val (.long p2), .second, .val (.long p3), .second, .val (.long p4), .second, .val (.int p5), .val (.int md), .val (.long q3), .second, .val (.long q4), .second, .val (.int (own_uo p1 q3)), .unset, .unset] [(.int (own_uo p1 q3))])) (G_own_law Z p1 p2 p3 p4 p5 h0 n0 s)
      by_cases hc54_14 : (own_uo p1 q3) = (0 : Int32)
      · refine own_go (fun _ k => XS.ifYes X13.here hx rfl (pc0 := 54) (pc' := 62) rfl (hb hby at_54) rfl (XT.i0_eq_t hc54_14) (by decide) (by decide) k) ?_
        show own_Goes p e below (T13.setTop (mkF m 62 #[.val (.long p1), .second, .val (.long p2), .second, .val (.long p3), .second, .val (.long p4), .second, .val (.int p5), .val (.int md), .val (.long q3), .second, .val (.long q4), .second, .val (.int (own_uo p1 q3)), .unset, .unset] [])) (G_own_law Z p1 p2 p3 p4 p5 h0 n0 s)
        refine own_go (fun _ k => XS.lloadN X13.here hx rfl (hb hby at_62) rfl k) ?_
        show own_Goes p e below (T13.setTop (mkF m 63 #[.val (.long p1), .second, .val (.long p2), .second, .val (.long p3), .second, .val (.long p4), .second, .val (.int p5), .val (.int md), .val (.long q3), .second, .val (.long q4), .second, .val (.int (own_uo p1 q3)), .unset, .unset] [(.long p2)])) (G_own_law Z p1 p2 p3 p4 p5 h0 n0 s)
        refine own_go (fun _ k => XS.lload X13.here hx rfl (hb hby at_63) rfl k) ?_
        show own_Goes p e below (T13.setTop (mkF m 65 #[.val (.long p1), .second, .val (.long p2), .second, .val (.long p3), .second, .val (.long p4), .second, .val (.int p5), .val (.int md), .val (.long q3), .second, .val (.long q4), .second, .val (.int (own_uo p1 q3)), .unset, .unset] [(.long q4), (.long p2)])) (G_own_law Z p1 p2 p3 p4 p5 h0 n0 s)
        obtain ⟨_, _, ⟨T15, L15, k15, n15⟩, -, X15, ⟨Lc15, hQ15, l15, y15, z15⟩, st15⟩ := Jvm.LawKit.callS X13 hx (y := (⟨"com/example/chartrier/chartrier/io/IndexRunComparePinLaw", "unsignedOrder", "(JJ)I"⟩ : MethodName)) hown (mvT hZ (hw _ (List.mem_of_getElem? (i := 0) rfl))) (mvT hZ (hw _ (List.mem_of_getElem? (i := 1) rfl))) (mvT hZ (hw _ (List.mem_of_getElem? (i := 2) rfl))) (mvT hZ (hw _ (List.mem_of_getElem? (i := 3) rfl))) (by decide) (backOf (W := 0) (own_uoM l Z a0 hw [] p2 q4 h0 n0 Z0 ) hZ (hw _ (List.mem_of_getElem? (i := 3) rfl)) (hw _ (List.mem_of_getElem? (i := 2) rfl)) (by decide) (by decide)) (g := (mkF m 65 #[.val (.long p1), .second, .val (.long p2), .second, .val (.long p3), .second, .val (.long p4), .second, .val (.int p5), .val (.int md), .val (.long q3), .second, .val (.long q4), .second, .val (.int (own_uo p1 q3)), .unset, .unset] [(.long q4), (.long p2)])) rfl (by rw [hml]; rfl) (argsL := [(.long p2), (.long q4)]) (rest := []) (lenOf own_pd0 rfl) rfl (by show 2 * 0 + _ ≤ _; exact Nat.le_of_eq rfl) (hb hby at_65) (fun _ _ => ⟨rfl, e13, (by decide : 0 + 0 ≤ _), (by decide : 0 + 0 ≤ _)⟩)
        dsimp only [Pt.U, Pt.locs, Pt.cells, Pt.slots] at X15 l15 y15 z15 st15 hQ15
        subst l15 y15 z15
        obtain ⟨rfl, N15q, e15⟩ := hQ15
        have N15 := Fr.app N13 N15q
        refine own_go st15 ?_
        show own_Goes p e below (T15.setTop (mkF m 68 #[.val (.long p1), .second, .val (.long p2), .second, .val (.long p3), .second, .val (.long p4), .second, .val (.int p5), .val (.int md), .val (.long q3), .second, .val (.long q4), .second, .val (.int (own_uo p1 q3)), .unset, .unset] [(.int (own_uo p2 q4))])) (G_own_law Z p1 p2 p3 p4 p5 h0 n0 s)
        refine own_go (fun _ k => XS.istore X15.here hx rfl (hb hby at_68) rfl (l' := #[.val (.long p1), .second, .val (.long p2), .second, .val (.long p3), .second, .val (.long p4), .second, .val (.int p5), .val (.int md), .val (.long q3), .second, .val (.long q4), .second, .val (.int (own_uo p1 q3)), .val (.int (own_uo p2 q4)), .unset]) rfl k) ?_
        show own_Goes p e below (T15.setTop (mkF m 70 #[.val (.long p1), .second, .val (.long p2), .second, .val (.long p3), .second, .val (.long p4), .second, .val (.int p5), .val (.int md), .val (.long q3), .second, .val (.long q4), .second, .val (.int (own_uo p1 q3)), .val (.int (own_uo p2 q4)), .unset] [])) (G_own_law Z p1 p2 p3 p4 p5 h0 n0 s)
        refine own_go (fun _ k => XS.lloadN X15.here hx rfl (hb hby at_70) rfl k) ?_
        show own_Goes p e below (T15.setTop (mkF m 71 #[.val (.long p1), .second, .val (.long p2), .second, .val (.long p3), .second, .val (.long p4), .second, .val (.int p5), .val (.int md), .val (.long q3), .second, .val (.long q4), .second, .val (.int (own_uo p1 q3)), .val (.int (own_uo p2 q4)), .unset] [(.long p1)])) (G_own_law Z p1 p2 p3 p4 p5 h0 n0 s)
        refine own_go (fun _ k => XS.lloadN X15.here hx rfl (hb hby at_71) rfl k) ?_
        show own_Goes p e below (T15.setTop (mkF m 72 #[.val (.long p1), .second, .val (.long p2), .second, .val (.long p3), .second, .val (.long p4), .second, .val (.int p5), .val (.int md), .val (.long q3), .second, .val (.long q4), .second, .val (.int (own_uo p1 q3)), .val (.int (own_uo p2 q4)), .unset] [(.long p2), (.long p1)])) (G_own_law Z p1 p2 p3 p4 p5 h0 n0 s)
        refine own_go (fun _ k => XS.lload X15.here hx rfl (hb hby at_72) rfl k) ?_
        show own_Goes p e below (T15.setTop (mkF m 74 #[.val (.long p1), .second, .val (.long p2), .second, .val (.long p3), .second, .val (.long p4), .second, .val (.int p5), .val (.int md), .val (.long q3), .second, .val (.long q4), .second, .val (.int (own_uo p1 q3)), .val (.int (own_uo p2 q4)), .unset] [(.long q3), (.long p2), (.long p1)])) (G_own_law Z p1 p2 p3 p4 p5 h0 n0 s)
        refine own_go (fun _ k => XS.lload X15.here hx rfl (hb hby at_74) rfl k) ?_
        show own_Goes p e below (T15.setTop (mkF m 76 #[.val (.long p1), .second, .val (.long p2), .second, .val (.long p3), .second, .val (.long p4), .second, .val (.int p5), .val (.int md), .val (.long q3), .second, .val (.long q4), .second, .val (.int (own_uo p1 q3)), .val (.int (own_uo p2 q4)), .unset] [(.long q4), (.long q3), (.long p2), (.long p1)])) (G_own_law Z p1 p2 p3 p4 p5 h0 n0 s)
        obtain ⟨_, _, ⟨T16, L16, k16, n16⟩, -, X16, ⟨Lc16, hQ16, l16, y16, z16⟩, st16⟩ := Jvm.LawKit.callS X15 hx (y := (⟨"com/example/chartrier/chartrier/io/IndexRun", "compare", "(JJJJ)I"⟩ : MethodName)) hown (mvT hZ (hw _ (List.mem_of_getElem? (i := 5) rfl))) (mvT hZ (hw _ (List.mem_of_getElem? (i := 6) rfl))) (mvT hZ (hw _ (List.mem_of_getElem? (i := 7) rfl))) (mvT hZ (hw _ (List.mem_of_getElem? (i := 8) rfl))) (by decide) (backOf (W := 0) (own_runM l Z a0 hw [] p1 p2 q3 q4 h0 n0 Z0 ) hZ (hw _ (List.mem_of_getElem? (i := 8) rfl)) (hw _ (List.mem_of_getElem? (i := 7) rfl)) (by decide) (by decide)) (g := (mkF m 76 #[.val (.long p1), .second, .val (.long p2), .second, .val (.long p3), .second, .val (.long p4), .second, .val (.int p5), .val (.int md), .val (.long q3), .second, .val (.long q4), .second, .val (.int (own_uo p1 q3)), .val (.int (own_uo p2 q4)), .unset] [(.long q4), (.long q3), (.long p2), (.long p1)])) rfl (by rw [hml]; rfl) (argsL := [(.long p1), (.long p2), (.long q3), (.long q4)]) (rest := []) (lenOf own_pd1 rfl) rfl (by show 2 * 0 + _ ≤ _; exact Nat.le_of_eq rfl) (hb hby at_76) (fun _ _ => ⟨rfl, e15, (by decide : 0 + 0 ≤ _), (by decide : 0 + 0 ≤ _)⟩)
        dsimp only [Pt.U, Pt.locs, Pt.cells, Pt.slots] at X16 l16 y16 z16 st16 hQ16
        subst l16 y16 z16
        obtain ⟨rfl, N16q, e16⟩ := hQ16
        have N16 := Fr.app N15 N16q
        refine own_go st16 ?_
        show own_Goes p e below (T16.setTop (mkF m 79 #[.val (.long p1), .second, .val (.long p2), .second, .val (.long p3), .second, .val (.long p4), .second, .val (.int p5), .val (.int md), .val (.long q3), .second, .val (.long q4), .second, .val (.int (own_uo p1 q3)), .val (.int (own_uo p2 q4)), .unset] [(.int (own_run p1 p2 q3 q4))])) (G_own_law Z p1 p2 p3 p4 p5 h0 n0 s)
        refine own_go (fun _ k => XS.istore X16.here hx rfl (hb hby at_79) rfl (l' := #[.val (.long p1), .second, .val (.long p2), .second, .val (.long p3), .second, .val (.long p4), .second, .val (.int p5), .val (.int md), .val (.long q3), .second, .val (.long q4), .second, .val (.int (own_uo p1 q3)), .val (.int (own_uo p2 q4)), .val (.int (own_run p1 p2 q3 q4))]) rfl k) ?_
        show own_Goes p e below (T16.setTop (mkF m 81 #[.val (.long p1), .second, .val (.long p2), .second, .val (.long p3), .second, .val (.long p4), .second, .val (.int p5), .val (.int md), .val (.long q3), .second, .val (.long q4), .second, .val (.int (own_uo p1 q3)), .val (.int (own_uo p2 q4)), .val (.int (own_run p1 p2 q3 q4))] [])) (G_own_law Z p1 p2 p3 p4 p5 h0 n0 s)
        refine own_go (fun _ k => XS.iload X16.here hx rfl (hb hby at_81) rfl k) ?_
        show own_Goes p e below (T16.setTop (mkF m 83 #[.val (.long p1), .second, .val (.long p2), .second, .val (.long p3), .second, .val (.long p4), .second, .val (.int p5), .val (.int md), .val (.long q3), .second, .val (.long q4), .second, .val (.int (own_uo p1 q3)), .val (.int (own_uo p2 q4)), .val (.int (own_run p1 p2 q3 q4))] [(.int (own_run p1 p2 q3 q4))])) (G_own_law Z p1 p2 p3 p4 p5 h0 n0 s)
        obtain ⟨_, _, ⟨T17, L17, k17, n17⟩, -, X17, ⟨Lc17, hQ17, l17, y17, z17⟩, st17⟩ := Jvm.LawKit.callS X16 hx (y := (⟨"com/example/chartrier/chartrier/io/IndexRunComparePinLaw", "sign", "(I)I"⟩ : MethodName)) hown (mvT hZ (hw _ (List.mem_of_getElem? (i := 17) rfl))) (mvT hZ (hw _ (List.mem_of_getElem? (i := 18) rfl))) (mvT hZ (hw _ (List.mem_of_getElem? (i := 2) rfl))) (mvT hZ (hw _ (List.mem_of_getElem? (i := 19) rfl))) (by decide) (backOf (W := 0) (own_sgM l Z a0 hw [] (own_run p1 p2 q3 q4) h0 n0 Z0 ) hZ (hw _ (List.mem_of_getElem? (i := 19) rfl)) (hw _ (List.mem_of_getElem? (i := 2) rfl)) (by decide) (by decide)) (g := (mkF m 83 #[.val (.long p1), .second, .val (.long p2), .second, .val (.long p3), .second, .val (.long p4), .second, .val (.int p5), .val (.int md), .val (.long q3), .second, .val (.long q4), .second, .val (.int (own_uo p1 q3)), .val (.int (own_uo p2 q4)), .val (.int (own_run p1 p2 q3 q4))] [(.int (own_run p1 p2 q3 q4))])) rfl (by rw [hml]; rfl) (argsL := [(.int (own_run p1 p2 q3 q4))]) (rest := []) (lenOf own_pd2 rfl) rfl (by show 2 * 0 + _ ≤ _; exact Nat.le_of_eq rfl) (hb hby at_83) (fun _ _ => ⟨rfl, e16, (by decide : 0 + 0 ≤ _), (by decide : 0 + 0 ≤ _)⟩)
        dsimp only [Pt.U, Pt.locs, Pt.cells, Pt.slots] at X17 l17 y17 z17 st17 hQ17
        subst l17 y17 z17
        obtain ⟨rfl, N17q, e17⟩ := hQ17
        have N17 := Fr.app N16 N17q
        refine own_go st17 ?_
        show own_Goes p e below (T17.setTop (mkF m 86 #[.val (.long p1), .second, .val (.long p2), .second, .val (.long p3), .second, .val (.long p4), .second, .val (.int p5), .val (.int md), .val (.long q3), .second, .val (.long q4), .second, .val (.int (own_uo p1 q3)), .val (.int (own_uo p2 q4)), .val (.int (own_run p1 p2 q3 q4))] [(.int (own_sg (own_run p1 p2 q3 q4)))])) (G_own_law Z p1 p2 p3 p4 p5 h0 n0 s)
        refine own_go (fun _ k => XS.iload X17.here hx rfl (hb hby at_86) rfl k) ?_
        show own_Goes p e below (T17.setTop (mkF m 88 #[.val (.long p1), .second, .val (.long p2), .second, .val (.long p3), .second, .val (.long p4), .second, .val (.int p5), .val (.int md), .val (.long q3), .second, .val (.long q4), .second, .val (.int (own_uo p1 q3)), .val (.int (own_uo p2 q4)), .val (.int (own_run p1 p2 q3 q4))] [(.int (own_uo p2 q4)), (.int (own_sg (own_run p1 p2 q3 q4)))])) (G_own_law Z p1 p2 p3 p4 p5 h0 n0 s)
        refine own_go (fun _ k => XS.icmpNo X17.here hx rfl (hb hby at_88) rfl (XT.ii_ne_f (own_r0 p1 p2 q3 q4 hc54_14)) k) ?_
        show own_Goes p e below (T17.setTop (mkF m 91 #[.val (.long p1), .second, .val (.long p2), .second, .val (.long p3), .second, .val (.long p4), .second, .val (.int p5), .val (.int md), .val (.long q3), .second, .val (.long q4), .second, .val (.int (own_uo p1 q3)), .val (.int (own_uo p2 q4)), .val (.int (own_run p1 p2 q3 q4))] [])) (G_own_law Z p1 p2 p3 p4 p5 h0 n0 s)
        refine own_go (fun _ k => XS.iconst X17.here hx rfl (hb hby at_91) k) ?_
        show own_Goes p e below (T17.setTop (mkF m 92 #[.val (.long p1), .second, .val (.long p2), .second, .val (.long p3), .second, .val (.long p4), .second, .val (.int p5), .val (.int md), .val (.long q3), .second, .val (.long q4), .second, .val (.int (own_uo p1 q3)), .val (.int (own_uo p2 q4)), .val (.int (own_run p1 p2 q3 q4))] [(.int (1 : Int32))])) (G_own_law Z p1 p2 p3 p4 p5 h0 n0 s)
        refine own_go (fun _ k => XS.goto X17.here hx rfl (pc0 := 92) (pc' := 96) rfl (hb hby at_92) (by decide) (by decide) k) ?_
        show own_Goes p e below (T17.setTop (mkF m 96 #[.val (.long p1), .second, .val (.long p2), .second, .val (.long p3), .second, .val (.long p4), .second, .val (.int p5), .val (.int md), .val (.long q3), .second, .val (.long q4), .second, .val (.int (own_uo p1 q3)), .val (.int (own_uo p2 q4)), .val (.int (own_run p1 p2 q3 q4))] [(.int (1 : Int32))])) (G_own_law Z p1 p2 p3 p4 p5 h0 n0 s)
        obtain ⟨fs, hr, hrun, hended, hW, hsame⟩ := X17.leave (v := some (.int (1 : Int32))) (fun h => by rw [Bd.returns] at h; cases h) Bd.notSynchronized
        refine ⟨_, _, retN X17 hx (t := .boolean) Bd.returns (by simp) (hb hby at_96) hr, hrun, hended, _, _, rfl, ?_, ⟨_, rfl⟩, hW, hsame.mono (by decide) (by decide)⟩
        show Q_own_law Z p1 p2 p3 p4 p5 h0 n0 _ T17.heap _
        rw [e17]
        exact ⟨rfl, N17⟩
      · refine own_go (fun _ k => XS.ifNo X13.here hx rfl (hb hby at_54) rfl (XT.i0_eq_f hc54_14) k) ?_
        show own_Goes p e below (T13.setTop (mkF m 57 #[.val (.long p1), .second, .val (.long p2), .second, .val (.long p3), .second, .val (.long p4), .second, .val (.int p5), .val (.int md), .val (.long q3), .second, .val (.long q4), .second, .val (.int (own_uo p1 q3)), .unset, .unset] [])) (G_own_law Z p1 p2 p3 p4 p5 h0 n0 s)
        refine own_go (fun _ k => XS.iload X13.here hx rfl (hb hby at_57) rfl k) ?_
        show own_Goes p e below (T13.setTop (mkF m 59 #[.val (.long p1), .second, .val (.long p2), .second, .val (.long p3), .second, .val (.long p4), .second, .val (.int p5), .val (.int md), .val (.long q3), .second, .val (.long q4), .second, .val (.int (own_uo p1 q3)), .unset, .unset] [(.int (own_uo p1 q3))])) (G_own_law Z p1 p2 p3 p4 p5 h0 n0 s)
        refine own_go (fun _ k => XS.goto X13.here hx rfl (pc0 := 59) (pc' := 68) rfl (hb hby at_59) (by decide) (by decide) k) ?_
        show own_Goes p e below (T13.setTop (mkF m 68 #[.val (.long p1), .second, .val (.long p2), .second, .val (.long p3), .second, .val (.long p4), .second, .val (.int p5), .val (.int md), .val (.long q3), .second, .val (.long q4), .second, .val (.int (own_uo p1 q3)), .unset, .unset] [(.int (own_uo p1 q3))])) (G_own_law Z p1 p2 p3 p4 p5 h0 n0 s)
        refine own_go (fun _ k => XS.istore X13.here hx rfl (hb hby at_68) rfl (l' := #[.val (.long p1), .second, .val (.long p2), .second, .val (.long p3), .second, .val (.long p4), .second, .val (.int p5), .val (.int md), .val (.long q3), .second, .val (.long q4), .second, .val (.int (own_uo p1 q3)), .val (.int (own_uo p1 q3)), .unset]) rfl k) ?_
        show own_Goes p e below (T13.setTop (mkF m 70 #[.val (.long p1), .second, .val (.long p2), .second, .val (.long p3), .second, .val (.long p4), .second, .val (.int p5), .val (.int md), .val (.long q3), .second, .val (.long q4), .second, .val (.int (own_uo p1 q3)), .val (.int (own_uo p1 q3)), .unset] [])) (G_own_law Z p1 p2 p3 p4 p5 h0 n0 s)
        refine own_go (fun _ k => XS.lloadN X13.here hx rfl (hb hby at_70) rfl k) ?_
        show own_Goes p e below (T13.setTop (mkF m 71 #[.val (.long p1), .second, .val (.long p2), .second, .val (.long p3), .second, .val (.long p4), .second, .val (.int p5), .val (.int md), .val (.long q3), .second, .val (.long q4), .second, .val (.int (own_uo p1 q3)), .val (.int (own_uo p1 q3)), .unset] [(.long p1)])) (G_own_law Z p1 p2 p3 p4 p5 h0 n0 s)
        refine own_go (fun _ k => XS.lloadN X13.here hx rfl (hb hby at_71) rfl k) ?_
        show own_Goes p e below (T13.setTop (mkF m 72 #[.val (.long p1), .second, .val (.long p2), .second, .val (.long p3), .second, .val (.long p4), .second, .val (.int p5), .val (.int md), .val (.long q3), .second, .val (.long q4), .second, .val (.int (own_uo p1 q3)), .val (.int (own_uo p1 q3)), .unset] [(.long p2), (.long p1)])) (G_own_law Z p1 p2 p3 p4 p5 h0 n0 s)
        refine own_go (fun _ k => XS.lload X13.here hx rfl (hb hby at_72) rfl k) ?_
        show own_Goes p e below (T13.setTop (mkF m 74 #[.val (.long p1), .second, .val (.long p2), .second, .val (.long p3), .second, .val (.long p4), .second, .val (.int p5), .val (.int md), .val (.long q3), .second, .val (.long q4), .second, .val (.int (own_uo p1 q3)), .val (.int (own_uo p1 q3)), .unset] [(.long q3), (.long p2), (.long p1)])) (G_own_law Z p1 p2 p3 p4 p5 h0 n0 s)
        refine own_go (fun _ k => XS.lload X13.here hx rfl (hb hby at_74) rfl k) ?_
        show own_Goes p e below (T13.setTop (mkF m 76 #[.val (.long p1), .second, .val (.long p2), .second, .val (.long p3), .second, .val (.long p4), .second, .val (.int p5), .val (.int md), .val (.long q3), .second, .val (.long q4), .second, .val (.int (own_uo p1 q3)), .val (.int (own_uo p1 q3)), .unset] [(.long q4), (.long q3), (.long p2), (.long p1)])) (G_own_law Z p1 p2 p3 p4 p5 h0 n0 s)
        obtain ⟨_, _, ⟨T18, L18, k18, n18⟩, -, X18, ⟨Lc18, hQ18, l18, y18, z18⟩, st18⟩ := Jvm.LawKit.callS X13 hx (y := (⟨"com/example/chartrier/chartrier/io/IndexRun", "compare", "(JJJJ)I"⟩ : MethodName)) hown (mvT hZ (hw _ (List.mem_of_getElem? (i := 5) rfl))) (mvT hZ (hw _ (List.mem_of_getElem? (i := 6) rfl))) (mvT hZ (hw _ (List.mem_of_getElem? (i := 7) rfl))) (mvT hZ (hw _ (List.mem_of_getElem? (i := 8) rfl))) (by decide) (backOf (W := 0) (own_runM l Z a0 hw [] p1 p2 q3 q4 h0 n0 Z0 ) hZ (hw _ (List.mem_of_getElem? (i := 8) rfl)) (hw _ (List.mem_of_getElem? (i := 7) rfl)) (by decide) (by decide)) (g := (mkF m 76 #[.val (.long p1), .second, .val (.long p2), .second, .val (.long p3), .second, .val (.long p4), .second, .val (.int p5), .val (.int md), .val (.long q3), .second, .val (.long q4), .second, .val (.int (own_uo p1 q3)), .val (.int (own_uo p1 q3)), .unset] [(.long q4), (.long q3), (.long p2), (.long p1)])) rfl (by rw [hml]; rfl) (argsL := [(.long p1), (.long p2), (.long q3), (.long q4)]) (rest := []) (lenOf own_pd1 rfl) rfl (by show 2 * 0 + _ ≤ _; exact Nat.le_of_eq rfl) (hb hby at_76) (fun _ _ => ⟨rfl, e13, (by decide : 0 + 0 ≤ _), (by decide : 0 + 0 ≤ _)⟩)
        dsimp only [Pt.U, Pt.locs, Pt.cells, Pt.slots] at X18 l18 y18 z18 st18 hQ18
        subst l18 y18 z18
        obtain ⟨rfl, N18q, e18⟩ := hQ18
        have N18 := Fr.app N13 N18q
        refine own_go st18 ?_
        show own_Goes p e below (T18.setTop (mkF m 79 #[.val (.long p1), .second, .val (.long p2), .second, .val (.long p3), .second, .val (.long p4), .second, .val (.int p5), .val (.int md), .val (.long q3), .second, .val (.long q4), .second, .val (.int (own_uo p1 q3)), .val (.int (own_uo p1 q3)), .unset] [(.int (own_run p1 p2 q3 q4))])) (G_own_law Z p1 p2 p3 p4 p5 h0 n0 s)
        refine own_go (fun _ k => XS.istore X18.here hx rfl (hb hby at_79) rfl (l' := #[.val (.long p1), .second, .val (.long p2), .second, .val (.long p3), .second, .val (.long p4), .second, .val (.int p5), .val (.int md), .val (.long q3), .second, .val (.long q4), .second, .val (.int (own_uo p1 q3)), .val (.int (own_uo p1 q3)), .val (.int (own_run p1 p2 q3 q4))]) rfl k) ?_
        show own_Goes p e below (T18.setTop (mkF m 81 #[.val (.long p1), .second, .val (.long p2), .second, .val (.long p3), .second, .val (.long p4), .second, .val (.int p5), .val (.int md), .val (.long q3), .second, .val (.long q4), .second, .val (.int (own_uo p1 q3)), .val (.int (own_uo p1 q3)), .val (.int (own_run p1 p2 q3 q4))] [])) (G_own_law Z p1 p2 p3 p4 p5 h0 n0 s)
        refine own_go (fun _ k => XS.iload X18.here hx rfl (hb hby at_81) rfl k) ?_
        show own_Goes p e below (T18.setTop (mkF m 83 #[.val (.long p1), .second, .val (.long p2), .second, .val (.long p3), .second, .val (.long p4), .second, .val (.int p5), .val (.int md), .val (.long q3), .second, .val (.long q4), .second, .val (.int (own_uo p1 q3)), .val (.int (own_uo p1 q3)), .val (.int (own_run p1 p2 q3 q4))] [(.int (own_run p1 p2 q3 q4))])) (G_own_law Z p1 p2 p3 p4 p5 h0 n0 s)
        obtain ⟨_, _, ⟨T19, L19, k19, n19⟩, -, X19, ⟨Lc19, hQ19, l19, y19, z19⟩, st19⟩ := Jvm.LawKit.callS X18 hx (y := (⟨"com/example/chartrier/chartrier/io/IndexRunComparePinLaw", "sign", "(I)I"⟩ : MethodName)) hown (mvT hZ (hw _ (List.mem_of_getElem? (i := 17) rfl))) (mvT hZ (hw _ (List.mem_of_getElem? (i := 18) rfl))) (mvT hZ (hw _ (List.mem_of_getElem? (i := 2) rfl))) (mvT hZ (hw _ (List.mem_of_getElem? (i := 19) rfl))) (by decide) (backOf (W := 0) (own_sgM l Z a0 hw [] (own_run p1 p2 q3 q4) h0 n0 Z0 ) hZ (hw _ (List.mem_of_getElem? (i := 19) rfl)) (hw _ (List.mem_of_getElem? (i := 2) rfl)) (by decide) (by decide)) (g := (mkF m 83 #[.val (.long p1), .second, .val (.long p2), .second, .val (.long p3), .second, .val (.long p4), .second, .val (.int p5), .val (.int md), .val (.long q3), .second, .val (.long q4), .second, .val (.int (own_uo p1 q3)), .val (.int (own_uo p1 q3)), .val (.int (own_run p1 p2 q3 q4))] [(.int (own_run p1 p2 q3 q4))])) rfl (by rw [hml]; rfl) (argsL := [(.int (own_run p1 p2 q3 q4))]) (rest := []) (lenOf own_pd2 rfl) rfl (by show 2 * 0 + _ ≤ _; exact Nat.le_of_eq rfl) (hb hby at_83) (fun _ _ => ⟨rfl, e18, (by decide : 0 + 0 ≤ _), (by decide : 0 + 0 ≤ _)⟩)
        dsimp only [Pt.U, Pt.locs, Pt.cells, Pt.slots] at X19 l19 y19 z19 st19 hQ19
        subst l19 y19 z19
        obtain ⟨rfl, N19q, e19⟩ := hQ19
        have N19 := Fr.app N18 N19q
        refine own_go st19 ?_
        show own_Goes p e below (T19.setTop (mkF m 86 #[.val (.long p1), .second, .val (.long p2), .second, .val (.long p3), .second, .val (.long p4), .second, .val (.int p5), .val (.int md), .val (.long q3), .second, .val (.long q4), .second, .val (.int (own_uo p1 q3)), .val (.int (own_uo p1 q3)), .val (.int (own_run p1 p2 q3 q4))] [(.int (own_sg (own_run p1 p2 q3 q4)))])) (G_own_law Z p1 p2 p3 p4 p5 h0 n0 s)
        refine own_go (fun _ k => XS.iload X19.here hx rfl (hb hby at_86) rfl k) ?_
        show own_Goes p e below (T19.setTop (mkF m 88 #[.val (.long p1), .second, .val (.long p2), .second, .val (.long p3), .second, .val (.long p4), .second, .val (.int p5), .val (.int md), .val (.long q3), .second, .val (.long q4), .second, .val (.int (own_uo p1 q3)), .val (.int (own_uo p1 q3)), .val (.int (own_run p1 p2 q3 q4))] [(.int (own_uo p1 q3)), (.int (own_sg (own_run p1 p2 q3 q4)))])) (G_own_law Z p1 p2 p3 p4 p5 h0 n0 s)
        refine own_go (fun _ k => XS.icmpNo X19.here hx rfl (hb hby at_88) rfl (XT.ii_ne_f (own_r1 p1 p2 q3 q4 hc54_14)) k) ?_
        show own_Goes p e below (T19.setTop (mkF m 91 #[.val (.long p1), .second, .val (.long p2), .second, .val (.long p3), .second, .val (.long p4), .second, .val (.int p5), .val (.int md), .val (.long q3), .second, .val (.long q4), .second, .val (.int (own_uo p1 q3)), .val (.int (own_uo p1 q3)), .val (.int (own_run p1 p2 q3 q4))] [])) (G_own_law Z p1 p2 p3 p4 p5 h0 n0 s)
        refine own_go (fun _ k => XS.iconst X19.here hx rfl (hb hby at_91) k) ?_
        show own_Goes p e below (T19.setTop (mkF m 92 #[.val (.long p1), .second, .val (.long p2), .second, .val (.long p3), .second, .val (.long p4), .second, .val (.int p5), .val (.int md), .val (.long q3), .second, .val (.long q4), .second, .val (.int (own_uo p1 q3)), .val (.int (own_uo p1 q3)), .val (.int (own_run p1 p2 q3 q4))] [(.int (1 : Int32))])) (G_own_law Z p1 p2 p3 p4 p5 h0 n0 s)
        refine own_go (fun _ k => XS.goto X19.here hx rfl (pc0 := 92) (pc' := 96) rfl (hb hby at_92) (by decide) (by decide) k) ?_
        show own_Goes p e below (T19.setTop (mkF m 96 #[.val (.long p1), .second, .val (.long p2), .second, .val (.long p3), .second, .val (.long p4), .second, .val (.int p5), .val (.int md), .val (.long q3), .second, .val (.long q4), .second, .val (.int (own_uo p1 q3)), .val (.int (own_uo p1 q3)), .val (.int (own_run p1 p2 q3 q4))] [(.int (1 : Int32))])) (G_own_law Z p1 p2 p3 p4 p5 h0 n0 s)
        obtain ⟨fs, hr, hrun, hended, hW, hsame⟩ := X19.leave (v := some (.int (1 : Int32))) (fun h => by rw [Bd.returns] at h; cases h) Bd.notSynchronized
        refine ⟨_, _, retN X19 hx (t := .boolean) Bd.returns (by simp) (hb hby at_96) hr, hrun, hended, _, _, rfl, ?_, ⟨_, rfl⟩, hW, hsame.mono (by decide) (by decide)⟩
        show Q_own_law Z p1 p2 p3 p4 p5 h0 n0 _ T19.heap _
        rw [e19]
        exact ⟨rfl, N19⟩
    · intro J44_12
      refine own_go (fun _ k => XS.iload X0.here hx rfl (hb hby at_29) rfl k) ?_
      show own_Goes p e below (s₁.setTop (mkF m 31 #[.val (.long p1), .second, .val (.long p2), .second, .val (.long p3), .second, .val (.long p4), .second, .val (.int p5), .val (.int md), .val (.long q3), .second, .val (.long p4), .second, .unset, .unset, .unset] [(.int md)])) (G_own_law Z p1 p2 p3 p4 p5 h0 n0 s)
      refine own_go (fun _ k => XS.iconst X0.here hx rfl (hb hby at_31) k) ?_
      show own_Goes p e below (s₁.setTop (mkF m 32 #[.val (.long p1), .second, .val (.long p2), .second, .val (.long p3), .second, .val (.long p4), .second, .val (.int p5), .val (.int md), .val (.long q3), .second, .val (.long p4), .second, .unset, .unset, .unset] [(.int (2 : Int32)), (.int md)])) (G_own_law Z p1 p2 p3 p4 p5 h0 n0 s)
      by_cases hc32_20 : md = (2 : Int32)
      · refine own_go (fun _ k => XS.icmpYes X0.here hx rfl (pc0 := 32) (pc' := 41) rfl (hb hby at_32) rfl (XT.ii_eq_t hc32_20) (by decide) (by decide) k) ?_
        show own_Goes p e below (s₁.setTop (mkF m 41 #[.val (.long p1), .second, .val (.long p2), .second, .val (.long p3), .second, .val (.long p4), .second, .val (.int p5), .val (.int md), .val (.long q3), .second, .val (.long p4), .second, .unset, .unset, .unset] [])) (G_own_law Z p1 p2 p3 p4 p5 h0 n0 s)
        refine own_go (fun _ k => XS.lloadN X0.here hx rfl (hb hby at_41) rfl k) ?_
        show own_Goes p e below (s₁.setTop (mkF m 42 #[.val (.long p1), .second, .val (.long p2), .second, .val (.long p3), .second, .val (.long p4), .second, .val (.int p5), .val (.int md), .val (.long q3), .second, .val (.long p4), .second, .unset, .unset, .unset] [(.long p2)])) (G_own_law Z p1 p2 p3 p4 p5 h0 n0 s)
        refine own_go (fun _ k => XS.lstore X0.here hx rfl (hb hby at_42) rfl (l' := #[.val (.long p1), .second, .val (.long p2), .second, .val (.long p3), .second, .val (.long p4), .second, .val (.int p5), .val (.int md), .val (.long q3), .second, .val (.long p2), .second, .unset, .unset, .unset]) rfl k) ?_
        show own_Goes p e below (s₁.setTop (mkF m 44 #[.val (.long p1), .second, .val (.long p2), .second, .val (.long p3), .second, .val (.long p4), .second, .val (.int p5), .val (.int md), .val (.long q3), .second, .val (.long p2), .second, .unset, .unset, .unset] [])) (G_own_law Z p1 p2 p3 p4 p5 h0 n0 s)
        exact J44_12 _ trivial
      · refine own_go (fun _ k => XS.icmpNo X0.here hx rfl (hb hby at_32) rfl (XT.ii_eq_f hc32_20) k) ?_
        show own_Goes p e below (s₁.setTop (mkF m 35 #[.val (.long p1), .second, .val (.long p2), .second, .val (.long p3), .second, .val (.long p4), .second, .val (.int p5), .val (.int md), .val (.long q3), .second, .val (.long p4), .second, .unset, .unset, .unset] [])) (G_own_law Z p1 p2 p3 p4 p5 h0 n0 s)
        refine own_go (fun _ k => XS.iload X0.here hx rfl (hb hby at_35) rfl k) ?_
        show own_Goes p e below (s₁.setTop (mkF m 37 #[.val (.long p1), .second, .val (.long p2), .second, .val (.long p3), .second, .val (.long p4), .second, .val (.int p5), .val (.int md), .val (.long q3), .second, .val (.long p4), .second, .unset, .unset, .unset] [(.int md)])) (G_own_law Z p1 p2 p3 p4 p5 h0 n0 s)
        refine own_go (fun _ k => XS.iconst X0.here hx rfl (hb hby at_37) k) ?_
        show own_Goes p e below (s₁.setTop (mkF m 38 #[.val (.long p1), .second, .val (.long p2), .second, .val (.long p3), .second, .val (.long p4), .second, .val (.int p5), .val (.int md), .val (.long q3), .second, .val (.long p4), .second, .unset, .unset, .unset] [(.int (3 : Int32)), (.int md)])) (G_own_law Z p1 p2 p3 p4 p5 h0 n0 s)
        by_cases hc38_21 : md = (3 : Int32)
        · refine own_go (fun _ k => XS.icmpNo X0.here hx rfl (hb hby at_38) rfl (XT.ii_ne_f hc38_21) k) ?_
          show own_Goes p e below (s₁.setTop (mkF m 41 #[.val (.long p1), .second, .val (.long p2), .second, .val (.long p3), .second, .val (.long p4), .second, .val (.int p5), .val (.int md), .val (.long q3), .second, .val (.long p4), .second, .unset, .unset, .unset] [])) (G_own_law Z p1 p2 p3 p4 p5 h0 n0 s)
          refine own_go (fun _ k => XS.lloadN X0.here hx rfl (hb hby at_41) rfl k) ?_
          show own_Goes p e below (s₁.setTop (mkF m 42 #[.val (.long p1), .second, .val (.long p2), .second, .val (.long p3), .second, .val (.long p4), .second, .val (.int p5), .val (.int md), .val (.long q3), .second, .val (.long p4), .second, .unset, .unset, .unset] [(.long p2)])) (G_own_law Z p1 p2 p3 p4 p5 h0 n0 s)
          refine own_go (fun _ k => XS.lstore X0.here hx rfl (hb hby at_42) rfl (l' := #[.val (.long p1), .second, .val (.long p2), .second, .val (.long p3), .second, .val (.long p4), .second, .val (.int p5), .val (.int md), .val (.long q3), .second, .val (.long p2), .second, .unset, .unset, .unset]) rfl k) ?_
          show own_Goes p e below (s₁.setTop (mkF m 44 #[.val (.long p1), .second, .val (.long p2), .second, .val (.long p3), .second, .val (.long p4), .second, .val (.int p5), .val (.int md), .val (.long q3), .second, .val (.long p2), .second, .unset, .unset, .unset] [])) (G_own_law Z p1 p2 p3 p4 p5 h0 n0 s)
          exact J44_12 _ trivial
        · refine own_go (fun _ k => XS.icmpYes X0.here hx rfl (pc0 := 38) (pc' := 44) rfl (hb hby at_38) rfl (XT.ii_ne_t hc38_21) (by decide) (by decide) k) ?_
          show own_Goes p e below (s₁.setTop (mkF m 44 #[.val (.long p1), .second, .val (.long p2), .second, .val (.long p3), .second, .val (.long p4), .second, .val (.int p5), .val (.int md), .val (.long q3), .second, .val (.long p4), .second, .unset, .unset, .unset] [])) (G_own_law Z p1 p2 p3 p4 p5 h0 n0 s)
          exact J44_12 _ trivial
  · intro J29_11
    refine own_go (fun _ k => XS.iload X0.here hx rfl (hb hby at_14) rfl k) ?_
    show own_Goes p e below (s₁.setTop (mkF m 16 #[.val (.long p1), .second, .val (.long p2), .second, .val (.long p3), .second, .val (.long p4), .second, .val (.int p5), .val (.int md), .val (.long p3), .second, .val (.long p4), .second, .unset, .unset, .unset] [(.int md)])) (G_own_law Z p1 p2 p3 p4 p5 h0 n0 s)
    refine own_go (fun _ k => XS.iconst X0.here hx rfl (hb hby at_16) k) ?_
    show own_Goes p e below (s₁.setTop (mkF m 17 #[.val (.long p1), .second, .val (.long p2), .second, .val (.long p3), .second, .val (.long p4), .second, .val (.int p5), .val (.int md), .val (.long p3), .second, .val (.long p4), .second, .unset, .unset, .unset] [(.int (1 : Int32)), (.int md)])) (G_own_law Z p1 p2 p3 p4 p5 h0 n0 s)
    by_cases hc17_22 : md = (1 : Int32)
    · refine own_go (fun _ k => XS.icmpYes X0.here hx rfl (pc0 := 17) (pc' := 26) rfl (hb hby at_17) rfl (XT.ii_eq_t hc17_22) (by decide) (by decide) k) ?_
      show own_Goes p e below (s₁.setTop (mkF m 26 #[.val (.long p1), .second, .val (.long p2), .second, .val (.long p3), .second, .val (.long p4), .second, .val (.int p5), .val (.int md), .val (.long p3), .second, .val (.long p4), .second, .unset, .unset, .unset] [])) (G_own_law Z p1 p2 p3 p4 p5 h0 n0 s)
      refine own_go (fun _ k => XS.lloadN X0.here hx rfl (hb hby at_26) rfl k) ?_
      show own_Goes p e below (s₁.setTop (mkF m 27 #[.val (.long p1), .second, .val (.long p2), .second, .val (.long p3), .second, .val (.long p4), .second, .val (.int p5), .val (.int md), .val (.long p3), .second, .val (.long p4), .second, .unset, .unset, .unset] [(.long p1)])) (G_own_law Z p1 p2 p3 p4 p5 h0 n0 s)
      refine own_go (fun _ k => XS.lstore X0.here hx rfl (hb hby at_27) rfl (l' := #[.val (.long p1), .second, .val (.long p2), .second, .val (.long p3), .second, .val (.long p4), .second, .val (.int p5), .val (.int md), .val (.long p1), .second, .val (.long p4), .second, .unset, .unset, .unset]) rfl k) ?_
      show own_Goes p e below (s₁.setTop (mkF m 29 #[.val (.long p1), .second, .val (.long p2), .second, .val (.long p3), .second, .val (.long p4), .second, .val (.int p5), .val (.int md), .val (.long p1), .second, .val (.long p4), .second, .unset, .unset, .unset] [])) (G_own_law Z p1 p2 p3 p4 p5 h0 n0 s)
      exact J29_11 _ trivial
    · refine own_go (fun _ k => XS.icmpNo X0.here hx rfl (hb hby at_17) rfl (XT.ii_eq_f hc17_22) k) ?_
      show own_Goes p e below (s₁.setTop (mkF m 20 #[.val (.long p1), .second, .val (.long p2), .second, .val (.long p3), .second, .val (.long p4), .second, .val (.int p5), .val (.int md), .val (.long p3), .second, .val (.long p4), .second, .unset, .unset, .unset] [])) (G_own_law Z p1 p2 p3 p4 p5 h0 n0 s)
      refine own_go (fun _ k => XS.iload X0.here hx rfl (hb hby at_20) rfl k) ?_
      show own_Goes p e below (s₁.setTop (mkF m 22 #[.val (.long p1), .second, .val (.long p2), .second, .val (.long p3), .second, .val (.long p4), .second, .val (.int p5), .val (.int md), .val (.long p3), .second, .val (.long p4), .second, .unset, .unset, .unset] [(.int md)])) (G_own_law Z p1 p2 p3 p4 p5 h0 n0 s)
      refine own_go (fun _ k => XS.iconst X0.here hx rfl (hb hby at_22) k) ?_
      show own_Goes p e below (s₁.setTop (mkF m 23 #[.val (.long p1), .second, .val (.long p2), .second, .val (.long p3), .second, .val (.long p4), .second, .val (.int p5), .val (.int md), .val (.long p3), .second, .val (.long p4), .second, .unset, .unset, .unset] [(.int (2 : Int32)), (.int md)])) (G_own_law Z p1 p2 p3 p4 p5 h0 n0 s)
      by_cases hc23_23 : md = (2 : Int32)
      · refine own_go (fun _ k => XS.icmpNo X0.here hx rfl (hb hby at_23) rfl (XT.ii_ne_f hc23_23) k) ?_
        show own_Goes p e below (s₁.setTop (mkF m 26 #[.val (.long p1), .second, .val (.long p2), .second, .val (.long p3), .second, .val (.long p4), .second, .val (.int p5), .val (.int md), .val (.long p3), .second, .val (.long p4), .second, .unset, .unset, .unset] [])) (G_own_law Z p1 p2 p3 p4 p5 h0 n0 s)
        refine own_go (fun _ k => XS.lloadN X0.here hx rfl (hb hby at_26) rfl k) ?_
        show own_Goes p e below (s₁.setTop (mkF m 27 #[.val (.long p1), .second, .val (.long p2), .second, .val (.long p3), .second, .val (.long p4), .second, .val (.int p5), .val (.int md), .val (.long p3), .second, .val (.long p4), .second, .unset, .unset, .unset] [(.long p1)])) (G_own_law Z p1 p2 p3 p4 p5 h0 n0 s)
        refine own_go (fun _ k => XS.lstore X0.here hx rfl (hb hby at_27) rfl (l' := #[.val (.long p1), .second, .val (.long p2), .second, .val (.long p3), .second, .val (.long p4), .second, .val (.int p5), .val (.int md), .val (.long p1), .second, .val (.long p4), .second, .unset, .unset, .unset]) rfl k) ?_
        show own_Goes p e below (s₁.setTop (mkF m 29 #[.val (.long p1), .second, .val (.long p2), .second, .val (.long p3), .second, .val (.long p4), .second, .val (.int p5), .val (.int md), .val (.long p1), .second, .val (.long p4), .second, .unset, .unset, .unset] [])) (G_own_law Z p1 p2 p3 p4 p5 h0 n0 s)
        exact J29_11 _ trivial
      · refine own_go (fun _ k => XS.icmpYes X0.here hx rfl (pc0 := 23) (pc' := 29) rfl (hb hby at_23) rfl (XT.ii_ne_t hc23_23) (by decide) (by decide) k) ?_
        show own_Goes p e below (s₁.setTop (mkF m 29 #[.val (.long p1), .second, .val (.long p2), .second, .val (.long p3), .second, .val (.long p4), .second, .val (.int p5), .val (.int md), .val (.long p3), .second, .val (.long p4), .second, .unset, .unset, .unset] [])) (G_own_law Z p1 p2 p3 p4 p5 h0 n0 s)
        exact J29_11 _ trivial
set_option maxRecDepth 65536 in
set_option maxHeartbeats 40000000 in
theorem comes_1 {Post : Tables → Env → Array Value → State → Outcome → State → Prop} (hpost : ∀ tb e args s v u, (limb_1_1.after args s (.returned v) u = true ∧ limb_1_2.after args s (.returned v) u = true ∧ True) → FrameEnd s (.returned v) u (Jvm.fieldLocs frame_1_writes args s ++ Jvm.arrayLocs frame_1_arrays args s ++ Jvm.staticLocs frame_1_statics s) 0 0 → Post tb e args s (.returned v) u) :
    ArmFor flags0 classFile x code maxLocals ret World_1 tables_1 room_1 Calls_1 rest_1 Pre_1 Post := by
  intro l hfl _ _ p e ha hc hk s m args below hf hA hF happ hP
  obtain ⟨hcalls, hrest, hpre⟩ := hP
  obtain ⟨-, -, -, hnamed, -, -, -, hat⟩ := (Spec.applies_iff hf).mp happ
  obtain ⟨hg, hn⟩ := and_e (Cond.before_iff.mp (show (Jvm.Cond.and given_1 narrow_1).before args s = true from hpre))
  obtain ⟨hcount, k0⟩ := and_e hg
  obtain ⟨g0, k1⟩ := and_e k0
  obtain ⟨g1, k2⟩ := and_e k1
  obtain ⟨g2, k3⟩ := and_e k2
  obtain ⟨g3, k4⟩ := and_e k3
  have g4 := k4
  obtain ⟨w0, w1, w2, w3, w4, rfl⟩ : ∃ w0 w1 w2 w3 w4 : Value, args = #[w0, w1, w2, w3, w4] := by
    have hs : args.size = 5 := by simpa [Cond.value, given_1] using hcount
    obtain ⟨L⟩ := args
    match L, hs with
    | [w0, w1, w2, w3, w4], _ => exact ⟨w0, w1, w2, w3, w4, rfl⟩
  have hw := fun d (hd : d ∈ tables_1) => atoms_spec (ws := Jvm.Cond.code x code maxLocals ret :: tables_1) hat d (List.mem_cons_of_mem _ hd)
  have hfit : Fit s := fun {y c} hc i hi => by
    obtain ⟨ha, rfl⟩ := Array.getElem?_eq_some_iff.mp hc
    have q := List.all_eq_true.mp ((Array.all_eq_true_iff_forall_mem.mp hF) _ (Array.getElem_mem ha)) i (List.mem_range.mpr hi)
    simpa [Array.getElem?_eq_getElem hi] using q
  obtain ⟨i0, ei0⟩ := isL_v g0
  obtain rfl : w0 = (.long i0) := Option.some.inj ei0
  obtain ⟨i1, ei1⟩ := isL_v g1
  obtain rfl : w1 = (.long i1) := Option.some.inj ei1
  obtain ⟨i2, ei2⟩ := isL_v g2
  obtain rfl : w2 = (.long i2) := Option.some.inj ei2
  obtain ⟨i3, ei3⟩ := isL_v g3
  obtain rfl : w3 = (.long i3) := Option.some.inj ei3
  obtain ⟨i4, ei4⟩ := is_v g4
  obtain rfl : w4 = (.int i4) := Option.some.inj ei4
  obtain ⟨n, o, h1, h2, h3, _, L, rfl, ⟨rfl, N⟩, hq⟩ := own_law l s _ hw tables_1 i0 i1 i2 i3 i4 s.heap s.heap.size (Nat.le_refl _)  p e ha hc hk s m _ below hf ((Spec.applies_iff_loose hf).mp happ).1 ⟨rfl, State.Warmed39.refl s, rfl⟩ trivial
  refine ⟨n, _, h1, h2, h3, hpost _ _ _ _ _ _ ⟨Cond.after_iff.mpr rfl, Cond.after_iff.mpr (eq_i res_at (Term.int_eval (1)) rfl), trivial⟩ ⟨hq.1, hq.2.1, (hq.2.2.sift fun y hy => Or.inr (N y hy)).mono (by decide) (by decide)⟩⟩
theorem main_1_1 : Claimed_1_1 := comes_1 fun _ _ _ _ _ _ h hF => ⟨h.1, hF⟩
theorem main_1_2 : Claimed_1_2 := comes_1 fun _ _ _ _ _ _ h hF => ⟨h.2.1, hF⟩
end Jvm.Pilot.@@N@@
namespace Jvm.Pilot.@@N@@
open Jvm Jvm.ClassFile Sem Op Lib Jvm.Free Jvm.Stand Jvm.Pilot.@@N@@.Jvm.D
/-! MADE BY PROGRAM (witnessworld.py) out of the Statement's table words and the real class files: 14 classes; the members and pool entries that the words name. The judged class is class 1, her method 3. -/
namespace start1
open Jvm.ClassFile
def u (s : String) : CpInfo := .utf8 (stringToUtf16 s)
/-- a pool by its gaps: so many unusable entries, then the entry; so many at the end -/
def gap : Nat → List CpInfo → List CpInfo
  | 0, r => r
  | n + 1, r => .unusable :: gap n r
def poolList (es : List (Nat × CpInfo)) (last : Nat) : List CpInfo := es.foldr (fun e r => gap e.1 (e.2 :: r)) (gap last [])
def pool (es : List (Nat × CpInfo)) (last : Nat) : Array CpInfo := ⟨poolList es last⟩
def fileOf (pool : Array CpInfo) (this : Nat) (attrs : Array Attribute := #[]) (ms : Array MethodInfo := #[]) (fl : Nat := 33) (sup : Nat := 0) (ifs : Array Nat := #[]) (fds : Array FieldInfo := #[]) : ClassFile where
  minorVersion := 0
  majorVersion := 65
  constantPool := pool
  accessFlags := fl
  thisClass := this
  superClass := sup
  interfaces := ifs
  fields := fds
  methods := ms
  attributes := attrs
def plain (name : String) (sup : Option ClassId) : Class where
  name := name
  kind := .ordinary
  loader := none
  accessFlags := 33
  super := sup
  interfaces := #[]
  cf := none
  fields := #[]
  methods := #[]
  instanceTypes := #[]
  staticTypes := #[]
  resolved := #[]
  callSites := []
  init := .initialized
  statics := none
  mirror := none

def pool0 : Array CpInfo := pool [(5, u "<init>"), (0, u "()V"), (1, .class_ 10), (1, u "java/lang/Object")] 113

def k0m0 : Method := { name := "<init>", desc := "()V", sig := { parameters := [], returnType := none }, accessFlags := 1, code := none }
/-- java/lang/Object -/
def k0 : Class := { plain "java/lang/Object" none with
  accessFlags := 33
  interfaces := #[]
  cf := some (fileOf pool0 8 #[] #[{ accessFlags := 1, nameIndex := 5, descriptorIndex := 6, attributes := #[] }] 33 0 #[] #[])
  fields := #[]
  methods := #[k0m0]
  instanceTypes := #[]
  staticTypes := #[]
  resolved := Array.replicate 124 none
  statics := none }

def pool1 : Array CpInfo := pool [(2, .class_ 4), (1, u "java/lang/Object"), (0, u "<init>"), (0, u "()V"), (2, .long 9223372036854775808), (1, .methodref 12 13), (0, .class_ 14), (0, .nameAndType 15 16), (0, u "com/example/chartrier/chartrier/io/IndexRunComparePinLaw"), (0, u "unsignedOrder"), (0, u "(JJ)I"), (0, .methodref 18 19), (0, .class_ 20), (0, .nameAndType 21 22), (0, u "com/example/chartrier/chartrier/io/IndexRun"), (0, u "compare"), (0, u "(JJJJ)I"), (0, .methodref 12 24), (0, .nameAndType 25 26), (0, u "sign"), (0, u "(I)I"), (3, u "law"), (0, u "(JJJJI)Z")] 2

def k1m0 : Method := { name := "<init>", desc := "()V", sig := { parameters := [], returnType := none }, accessFlags := 1, code := none }
def k1c1 : Code := { maxStack := 1, maxLocals := 1, code := method_2_code, exceptionTable := #[], attributes := #[] }
def k1m1 : Method := { name := "sign", desc := "(I)I", sig := { parameters := [.int], returnType := some .int }, accessFlags := 10, code := some k1c1 }
def k1c2 : Code := { maxStack := 4, maxLocals := 8, code := method_3_code, exceptionTable := #[], attributes := #[] }
def k1m2 : Method := { name := "unsignedOrder", desc := "(JJ)I", sig := { parameters := [.long, .long], returnType := some .int }, accessFlags := 10, code := some k1c2 }
def k1c3 : Code := { maxStack := 8, maxLocals := 17, code := code, exceptionTable := #[], attributes := #[] }
def k1m3 : Method := { name := "law", desc := "(JJJJI)Z", sig := { parameters := [.long, .long, .long, .long, .int], returnType := some .boolean }, accessFlags := 9, code := some k1c3 }
/-- com/example/chartrier/chartrier/io/IndexRunComparePinLaw -/
def k1 : Class := { plain "com/example/chartrier/chartrier/io/IndexRunComparePinLaw" (some 0) with
  accessFlags := 49
  interfaces := #[]
  cf := some (fileOf pool1 12 #[] #[{ accessFlags := 1, nameIndex := 5, descriptorIndex := 6, attributes := #[] }, { accessFlags := 10, nameIndex := 25, descriptorIndex := 26, attributes := #[] }, { accessFlags := 10, nameIndex := 15, descriptorIndex := 16, attributes := #[] }, { accessFlags := 9, nameIndex := 30, descriptorIndex := 31, attributes := #[] }] 49 2 #[] #[])
  fields := #[]
  methods := #[k1m0, k1m1, k1m2, k1m3]
  instanceTypes := #[]
  staticTypes := #[]
  resolved := Array.replicate 34 none
  statics := none }

def pool2 : Array CpInfo := pool [(2, .class_ 4), (1, u "java/lang/Object"), (3, .class_ 10), (1, u "com/example/chartrier/chartrier/io/IndexRun"), (0, u "file"), (0, u "Ljava/nio/file/Path;"), (2, u "packs"), (0, u "Ljava/util/List;"), (2, u "size"), (0, u "J"), (2, u "windows"), (0, u "[Ljava/nio/ByteBuffer;"), (133, .class_ 159), (0, u "com/example/chartrier/chartrier/io/IndexRun$Entry"), (19, u "I"), (23, u "compare"), (0, u "(JJJJ)I"), (2, .methodref 208 209), (0, .class_ 210), (0, .nameAndType 211 212), (0, u "java/lang/Long"), (0, u "compareUnsigned"), (0, u "(JJ)I"), (32, u "MAGIC"), (1, u "NAME"), (1, u "HEADER"), (1, u "ENTRY"), (1, u "WINDOW_ENTRIES"), (22, .class_ 277), (0, u "com/example/chartrier/chartrier/io/IndexRun$Writer")] 20

def k2c0 : Code := { maxStack := 4, maxLocals := 9, code := prog_6_method_15_code, exceptionTable := #[], attributes := #[] }
def k2m0 : Method := { name := "compare", desc := "(JJJJ)I", sig := { parameters := [.long, .long, .long, .long], returnType := some .int }, accessFlags := 8, code := some k2c0 }
/-- com/example/chartrier/chartrier/io/IndexRun -/
def k2 : Class := { plain "com/example/chartrier/chartrier/io/IndexRun" (some 0) with
  accessFlags := 48
  interfaces := #[]
  cf := some (fileOf pool2 8 #[.nestMembers #[276, 158]] #[{ accessFlags := 8, nameIndex := 203, descriptorIndex := 204, attributes := #[] }] 48 2 #[] #[{ accessFlags := 26, nameIndex := 245, descriptorIndex := 179, attributes := #[] }, { accessFlags := 24, nameIndex := 247, descriptorIndex := 179, attributes := #[] }, { accessFlags := 26, nameIndex := 249, descriptorIndex := 179, attributes := #[] }, { accessFlags := 26, nameIndex := 251, descriptorIndex := 179, attributes := #[] }, { accessFlags := 26, nameIndex := 253, descriptorIndex := 179, attributes := #[] }, { accessFlags := 18, nameIndex := 11, descriptorIndex := 12, attributes := #[] }, { accessFlags := 18, nameIndex := 15, descriptorIndex := 16, attributes := #[] }, { accessFlags := 18, nameIndex := 19, descriptorIndex := 20, attributes := #[] }, { accessFlags := 18, nameIndex := 23, descriptorIndex := 24, attributes := #[] }])
  fields := #[{ name := "MAGIC", type := .int, accessFlags := 26, slot := 0, constantValue := 0 }, { name := "NAME", type := .int, accessFlags := 24, slot := 1, constantValue := 0 }, { name := "HEADER", type := .int, accessFlags := 26, slot := 2, constantValue := 0 }, { name := "ENTRY", type := .int, accessFlags := 26, slot := 3, constantValue := 0 }, { name := "WINDOW_ENTRIES", type := .int, accessFlags := 26, slot := 4, constantValue := 0 }, { name := "file", type := (.object "java/nio/file/Path"), accessFlags := 18, slot := 0, constantValue := 0 }, { name := "packs", type := (.object "java/util/List"), accessFlags := 18, slot := 1, constantValue := 0 }, { name := "size", type := .long, accessFlags := 18, slot := 2, constantValue := 0 }, { name := "windows", type := (.array (.object "java/nio/ByteBuffer")), accessFlags := 18, slot := 3, constantValue := 0 }]
  methods := #[k2m0]
  instanceTypes := #[(.object "java/nio/file/Path"), (.object "java/util/List"), .long, (.array (.object "java/nio/ByteBuffer"))]
  staticTypes := #[.int, .int, .int, .int, .int]
  resolved := Array.replicate 298 none
  statics := none }

def pool3 : Array CpInfo := pool [(1, .class_ 2), (0, u "java/io/Serializable"), (0, .class_ 4), (0, u "java/lang/Object")] 2

/-- java/io/Serializable -/
def k3 : Class := { plain "java/io/Serializable" (some 0) with
  accessFlags := 1537
  interfaces := #[]
  cf := some (fileOf pool3 1 #[] #[] 1537 3 #[] #[])
  fields := #[]
  methods := #[]
  instanceTypes := #[]
  staticTypes := #[]
  resolved := Array.replicate 7 none
  statics := none }

def pool4 : Array CpInfo := pool [(2, .class_ 4), (1, u "java/lang/Object"), (0, u "<init>"), (0, u "()V"), (1, .class_ 10), (1, u "java/lang/Number"), (2, .class_ 14), (0, u "java/io/Serializable"), (0, u "serialVersionUID"), (0, u "J")] 20

def k4m0 : Method := { name := "<init>", desc := "()V", sig := { parameters := [], returnType := none }, accessFlags := 1, code := none }
/-- java/lang/Number -/
def k4 : Class := { plain "java/lang/Number" (some 0) with
  accessFlags := 1057
  interfaces := #[3]
  cf := some (fileOf pool4 8 #[] #[{ accessFlags := 1, nameIndex := 5, descriptorIndex := 6, attributes := #[] }] 1057 2 #[13] #[{ accessFlags := 26, nameIndex := 15, descriptorIndex := 16, attributes := #[] }])
  fields := #[{ name := "serialVersionUID", type := .long, accessFlags := 26, slot := 0, constantValue := 0 }]
  methods := #[k4m0]
  instanceTypes := #[]
  staticTypes := #[.long]
  resolved := Array.replicate 37 none
  statics := none }

def pool5 : Array CpInfo := pool [(1, .class_ 2), (0, u "java/lang/Comparable"), (0, .class_ 4), (0, u "java/lang/Object")] 7

/-- java/lang/Comparable -/
def k5 : Class := { plain "java/lang/Comparable" (some 0) with
  accessFlags := 1537
  interfaces := #[]
  cf := some (fileOf pool5 1 #[] #[] 1537 3 #[] #[])
  fields := #[]
  methods := #[]
  instanceTypes := #[]
  staticTypes := #[]
  resolved := Array.replicate 12 none
  statics := none }

def pool6 : Array CpInfo := pool [(1, .class_ 2), (0, u "java/lang/constant/Constable"), (0, .class_ 4), (0, u "java/lang/Object")] 6

/-- java/lang/constant/Constable -/
def k6 : Class := { plain "java/lang/constant/Constable" (some 0) with
  accessFlags := 1537
  interfaces := #[]
  cf := some (fileOf pool6 1 #[] #[] 1537 3 #[] #[])
  fields := #[]
  methods := #[]
  instanceTypes := #[]
  staticTypes := #[]
  resolved := Array.replicate 11 none
  statics := none }

def pool7 : Array CpInfo := pool [(1, .class_ 2), (0, u "java/lang/constant/ConstantDesc"), (0, .class_ 4), (0, u "java/lang/Object")] 32

/-- java/lang/constant/ConstantDesc -/
def k7 : Class := { plain "java/lang/constant/ConstantDesc" (some 0) with
  accessFlags := 1537
  interfaces := #[]
  cf := some (fileOf pool7 1 #[] #[] 1537 3 #[] #[])
  fields := #[]
  methods := #[]
  instanceTypes := #[]
  staticTypes := #[]
  resolved := Array.replicate 37 none
  statics := none }

def pool8 : Array CpInfo := pool [(1, .class_ 2), (0, u "java/lang/Long"), (165, .long 9223372036854775808), (66, .class_ 237), (1, u "java/lang/Long$LongCache"), (33, .class_ 272), (0, u "java/lang/Number"), (2, u "value"), (0, u "J"), (25, .methodref 1 303), (0, .nameAndType 304 305), (0, u "compare"), (0, u "(JJ)I"), (55, u "TYPE"), (0, u "Ljava/lang/Class;"), (0, .class_ 364), (0, u "java/lang/Comparable"), (0, .class_ 366), (0, u "java/lang/constant/Constable"), (0, .class_ 368), (0, u "java/lang/constant/ConstantDesc"), (0, u "MIN_VALUE"), (1, u "MAX_VALUE"), (4, u "SIZE"), (0, u "I"), (1, u "BYTES"), (1, u "serialVersionUID"), (87, u "compareUnsigned")] 54

def k8c0 : Code := { maxStack := 4, maxLocals := 4, code := jdk_35_method_42_code, exceptionTable := #[], attributes := #[] }
def k8m0 : Method := { name := "compare", desc := "(JJ)I", sig := { parameters := [.long, .long], returnType := some .int }, accessFlags := 9, code := some k8c0 }
def k8c1 : Code := { maxStack := 6, maxLocals := 4, code := jdk_35_method_43_code, exceptionTable := #[], attributes := #[] }
def k8m1 : Method := { name := "compareUnsigned", desc := "(JJ)I", sig := { parameters := [.long, .long], returnType := some .int }, accessFlags := 9, code := some k8c1 }
/-- java/lang/Long -/
def k8 : Class := { plain "java/lang/Long" (some 4) with
  accessFlags := 49
  interfaces := #[5, 6, 7]
  cf := some (fileOf pool8 1 #[.nestMembers #[235]] #[{ accessFlags := 9, nameIndex := 304, descriptorIndex := 305, attributes := #[] }, { accessFlags := 9, nameIndex := 469, descriptorIndex := 305, attributes := #[] }] 49 271 #[363, 365, 367] #[{ accessFlags := 25, nameIndex := 369, descriptorIndex := 276, attributes := #[] }, { accessFlags := 25, nameIndex := 371, descriptorIndex := 276, attributes := #[] }, { accessFlags := 25, nameIndex := 361, descriptorIndex := 362, attributes := #[] }, { accessFlags := 18, nameIndex := 275, descriptorIndex := 276, attributes := #[] }, { accessFlags := 25, nameIndex := 376, descriptorIndex := 377, attributes := #[] }, { accessFlags := 25, nameIndex := 379, descriptorIndex := 377, attributes := #[] }, { accessFlags := 26, nameIndex := 381, descriptorIndex := 276, attributes := #[] }])
  fields := #[{ name := "MIN_VALUE", type := .long, accessFlags := 25, slot := 0, constantValue := 0 }, { name := "MAX_VALUE", type := .long, accessFlags := 25, slot := 1, constantValue := 0 }, { name := "TYPE", type := (.object "java/lang/Class"), accessFlags := 25, slot := 2, constantValue := 0 }, { name := "value", type := .long, accessFlags := 18, slot := 0, constantValue := 0 }, { name := "SIZE", type := .int, accessFlags := 25, slot := 3, constantValue := 0 }, { name := "BYTES", type := .int, accessFlags := 25, slot := 4, constantValue := 0 }, { name := "serialVersionUID", type := .long, accessFlags := 26, slot := 5, constantValue := 0 }]
  methods := #[k8m0, k8m1]
  instanceTypes := #[.long]
  staticTypes := #[.long, .long, (.object "java/lang/Class"), .int, .int, .long]
  resolved := Array.replicate 524 none
  statics := none }

def pool9 : Array CpInfo := pool [(1, u "java/lang/Cloneable"), (0, .class_ 1), (0, u "java/lang/Object"), (0, .class_ 3)] 3

/-- java/lang/Cloneable -/
def k9 : Class := { plain "java/lang/Cloneable" (some 0) with
  accessFlags := 1537
  interfaces := #[]
  cf := some (fileOf pool9 2 #[] #[] 1537 4 #[] #[])
  fields := #[]
  methods := #[]
  instanceTypes := #[]
  staticTypes := #[]
  resolved := Array.replicate 8 none
  statics := none }

/-- the primitive byte -/
def k10 : Class := { plain "byte" none with kind := .primitive 'B', accessFlags := 0x411 }
/-- [B -/
def k11 : Class := { plain "[B" (some 0) with kind := .array 10 .byte, interfaces := #[9, 3], accessFlags := 1041 }

/-- the primitive int -/
def k12 : Class := { plain "int" none with kind := .primitive 'I', accessFlags := 0x411 }
/-- [I -/
def k13 : Class := { plain "[I" (some 0) with kind := .array 12 .int, interfaces := #[9, 3], accessFlags := 1041 }

def heap : Heap := #[]
def classes : Array Class := #[k0, k1, k2, k3, k4, k5, k6, k7, k8, k9, k10, k11, k12, k13]
def interned : List (Array UInt16 × Addr) := []
def slotsUsed : Nat := 0
def theMethod : MethodId := ⟨1, 3⟩
def args0 : Array Value := #[.long 5, .long 6, .long 7, .long 8, .int 0]
def aboutOver (below : List Frame) : State where
  vm := { classes := classes, interned := interned.toArray }
  heap := heap
  slotsUsed := slotsUsed
  threads := #[{ frames := .invoking theMethod args0 :: below }]
def below0 : List Frame := [.native { method := ⟨0, 0⟩, args := #[] }]
def about1 : State := aboutOver below0
def p0 : Program := .bare "" "" ""
def e0 : Env := launch0.env 0 0 0
theorem w_frames : about1.frames = Frame.invoking theMethod args0 :: below0 := rfl
set_option maxRecDepth 65536 in
theorem w_args : argsFit about1.vm theMethod args0 = true := by decide +kernel
set_option maxRecDepth 65536 in
theorem w_heap : heapFits about1 = true := by decide +kernel
set_option maxRecDepth 65536 in
theorem w_runnable : about1.curStatus? = some .runnable := by decide +kernel
set_option maxRecDepth 65536 in
theorem w_alone : about1.alone = true := by decide +kernel
set_option maxRecDepth 65536 in
theorem w_named : about1.methodNamed? x = some theMethod := by decide +kernel
set_option maxRecDepth 65536 in
theorem w_hears : about1.hears theMethod below0 = true := by decide +kernel
set_option maxRecDepth 65536 in
theorem w_ripe : about1.ripe theMethod args0 below0 = true := by decide +kernel
theorem w_running : about1.status = .running := rfl
set_option maxRecDepth 65536 in
theorem w_room : about1.hasRoom e0.platform room_1 = true :=
  launch0.hasRoom_least _ room_1 (by decide +kernel) (by decide +kernel) (by decide +kernel) (by decide +kernel) (by decide +kernel) (by decide +kernel)
theorem allAtoms_all (ts : List Jvm.Cond) (a : Array Jvm.Value) (st : Jvm.State) : (allAtoms ts).before a st = ts.all (fun c => c.before a st) := by
  induction ts with
  | nil => rfl
  | cons c t ih =>
    show (Jvm.Cond.and c (allAtoms t)).before a st = _
    rw [Jvm.Cond.before_and, ih, List.all_cons]
def words1 : List Jvm.Cond := Jvm.Cond.code x code maxLocals ret :: tables_1
/-- a 'code' word, met by the world's own term for the bytes: nothing is compared byte by byte -/
theorem code_word {y : MethodName} {bytes : ByteArray} {mx : Nat} {rt : Option FieldType} {a : Array Value} {s : State} {m : MethodId} {meth : Method} {c : Code} (h1 : s.methodNamed? y = some m) (h2 : s.vm.method? m = some meth) (h3 : meth.code = some c) (h4 : c.code = bytes)
    (h5 : (c.maxLocals == mx && c.exceptionTable.isEmpty && decide (c.maxStack ≤ mostOperands) && decide (meth.sig.returnType = rt) && !meth.locks && decide (parseMethodDescriptor y.desc = some meth.sig)) = true) : (Jvm.Cond.code y bytes mx rt).before a s = true := by
  simp only [Bool.and_eq_true, beq_iff_eq, Bool.not_eq_true', decide_eq_true_eq] at h5
  obtain ⟨⟨⟨⟨⟨g1, g2⟩, g3⟩, g4⟩, g5⟩, g6⟩ := h5
  simp [Cond.before, Cond.holds, Cond.value, h1, h2, h3, h4, g1, g2, g3, g4, g5, g6]
def isCode : Jvm.Cond → Bool
  | .code _ _ _ _ => true
  | _ => false
theorem all_split {L : List Jvm.Cond} {P : Jvm.Cond → Bool} (h1 : L.all (fun c => isCode c || P c) = true) (h2 : ∀ c ∈ L.filter isCode, P c = true) : L.all P = true := by
  refine List.all_eq_true.mpr fun c hc => ?_
  have h := List.all_eq_true.mp h1 c hc
  rcases Bool.eq_false_or_eq_true (isCode c) with hi | hi
  · exact h2 c (List.mem_filter.mpr ⟨hc, hi⟩)
  · simpa [hi] using h
set_option maxRecDepth 65536 in
theorem w_c0 : (Jvm.Cond.code x code maxLocals ret).before args0 about1 = true := code_word (m := ⟨1, 3⟩) (meth := k1m3) (c := k1c3) (by decide +kernel) rfl rfl rfl (by decide +kernel)
set_option maxRecDepth 65536 in
theorem w_c1 : (Jvm.Cond.code ({ cls := "com/example/chartrier/chartrier/io/IndexRunComparePinLaw", name := "unsignedOrder", desc := "(JJ)I" } : Jvm.MethodName) method_3_code (8 : Nat) (Option.some Jvm.ClassFile.FieldType.int)).before args0 about1 = true := code_word (m := ⟨1, 2⟩) (meth := k1m2) (c := k1c2) (by decide +kernel) rfl rfl rfl (by decide +kernel)
set_option maxRecDepth 65536 in
theorem w_c2 : (Jvm.Cond.code ({ cls := "com/example/chartrier/chartrier/io/IndexRun", name := "compare", desc := "(JJJJ)I" } : Jvm.MethodName) prog_6_method_15_code (9 : Nat) (Option.some Jvm.ClassFile.FieldType.int)).before args0 about1 = true := code_word (m := ⟨2, 0⟩) (meth := k2m0) (c := k2c0) (by decide +kernel) rfl rfl rfl (by decide +kernel)
set_option maxRecDepth 65536 in
theorem w_c3 : (Jvm.Cond.code ({ cls := "java/lang/Long", name := "compareUnsigned", desc := "(JJ)I" } : Jvm.MethodName) jdk_35_method_43_code (4 : Nat) (Option.some Jvm.ClassFile.FieldType.int)).before args0 about1 = true := code_word (m := ⟨8, 1⟩) (meth := k8m1) (c := k8c1) (by decide +kernel) rfl rfl rfl (by decide +kernel)
set_option maxRecDepth 65536 in
theorem w_c4 : (Jvm.Cond.code ({ cls := "java/lang/Long", name := "compare", desc := "(JJ)I" } : Jvm.MethodName) jdk_35_method_42_code (4 : Nat) (Option.some Jvm.ClassFile.FieldType.int)).before args0 about1 = true := code_word (m := ⟨8, 0⟩) (meth := k8m0) (c := k8c0) (by decide +kernel) rfl rfl rfl (by decide +kernel)
set_option maxRecDepth 65536 in
theorem w_c5 : (Jvm.Cond.code ({ cls := "com/example/chartrier/chartrier/io/IndexRunComparePinLaw", name := "sign", desc := "(I)I" } : Jvm.MethodName) method_2_code (1 : Nat) (Option.some Jvm.ClassFile.FieldType.int)).before args0 about1 = true := code_word (m := ⟨1, 1⟩) (meth := k1m1) (c := k1c1) (by decide +kernel) rfl rfl rfl (by decide +kernel)
def codes1 : List Jvm.Cond := [Jvm.Cond.code x code maxLocals ret, Jvm.Cond.code ({ cls := "com/example/chartrier/chartrier/io/IndexRunComparePinLaw", name := "unsignedOrder", desc := "(JJ)I" } : Jvm.MethodName) method_3_code (8 : Nat) (Option.some Jvm.ClassFile.FieldType.int), Jvm.Cond.code ({ cls := "com/example/chartrier/chartrier/io/IndexRun", name := "compare", desc := "(JJJJ)I" } : Jvm.MethodName) prog_6_method_15_code (9 : Nat) (Option.some Jvm.ClassFile.FieldType.int), Jvm.Cond.code ({ cls := "java/lang/Long", name := "compareUnsigned", desc := "(JJ)I" } : Jvm.MethodName) jdk_35_method_43_code (4 : Nat) (Option.some Jvm.ClassFile.FieldType.int), Jvm.Cond.code ({ cls := "java/lang/Long", name := "compare", desc := "(JJ)I" } : Jvm.MethodName) jdk_35_method_42_code (4 : Nat) (Option.some Jvm.ClassFile.FieldType.int), Jvm.Cond.code ({ cls := "com/example/chartrier/chartrier/io/IndexRunComparePinLaw", name := "sign", desc := "(I)I" } : Jvm.MethodName) method_2_code (1 : Nat) (Option.some Jvm.ClassFile.FieldType.int)]
set_option maxRecDepth 65536 in
theorem codes_eq : words1.filter isCode = codes1 := rfl
theorem w_codes : ∀ c ∈ words1.filter isCode, c.before args0 about1 = true := by
  rw [codes_eq]
  intro c hc
  simp only [codes1, List.mem_cons, List.not_mem_nil, or_false] at hc
  rcases hc with rfl | rfl | rfl | rfl | rfl | rfl
  · exact w_c0
  · exact w_c1
  · exact w_c2
  · exact w_c3
  · exact w_c4
  · exact w_c5
set_option maxRecDepth 65536 in
theorem w_t1 : words1.all (fun c => isCode c || c.before args0 about1) = true := by decide +kernel
theorem w_tables : (allAtoms (Jvm.Cond.code x code maxLocals ret :: tables_1)).before args0 about1 = true := by
  rw [allAtoms_all]
  show words1.all (fun c => c.before args0 about1) = true
  refine all_split ?_ w_codes
  rw [w_t1]
set_option maxRecDepth 65536 in
theorem w_case : (Jvm.Cond.and given_1 narrow_1).before args0 about1 = true := by decide +kernel
theorem w_applies : (headSpec (Jvm.Cond.code x code maxLocals ret :: tables_1) room_1).applies x e0.platform about1 = true :=
  (Spec.applies_iff w_frames).mpr ⟨w_running, w_runnable, w_alone, w_named, w_hears, w_ripe, w_room, w_tables⟩
theorem atStart : AtStart classFile x code maxLocals ret World_1 tables_1 room_1 Calls_1 rest_1 Pre_1 launch0 p0 e0 about1 theMethod args0 below0 :=
  ⟨lists_1, trivial, launch0.admits_env _ _ _, launch0.least_env, fairChoices_fair.cas, fairChoices_fair.clock, w_frames, w_args, w_heap, w_applies, trivial, trivial, w_case⟩
end start1
theorem witness_1 : WitnessClaimed_1 := ⟨start1.p0, start1.e0, start1.about1, start1.theMethod, start1.args0, start1.below0, start1.atStart⟩
end Jvm.Pilot.@@N@@
