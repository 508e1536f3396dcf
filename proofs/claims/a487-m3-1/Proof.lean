import JvmDerived
import JvmDerived.Pilot.@@N@@Statement
import JvmDerived.Pilot.@@N@@Code
set_option linter.unusedVariables false
set_option linter.unusedSimpArgs false
namespace Jvm.Pilot.@@N@@
open Jvm Jvm.ClassFile Sem Op Lib Jvm.Free Jvm.Stand Jvm.LawKit Jvm.RoadKit Bundle Jvm.Pilot.@@N@@.Jvm.D
/-- the run comes from S to an end of which Q holds -/
def own_Goes (p : Program) (e : Env) (below : List Frame) (S : State) (Q : Outcome → State → Prop) : Prop := ∃ s₂ o, Steps p.tables e below S s₂ ∧ s₂.status = .running ∧ Ended s₂ below o ∧ Q o s₂
theorem own_go {p : Program} {e : Env} {below : List Frame} {S N : State} {Q : Outcome → State → Prop} (h : ∀ t, Steps p.tables e below N t → Steps p.tables e below S t) (k : own_Goes p e below N Q) : own_Goes p e below S Q := by
  obtain ⟨s₂, o, h1, h2⟩ := k; exact ⟨s₂, o, h _ h1, h2⟩
/-- the model's own selection picks a private method itself -/
theorem own_selp {y : MethodName} {s : State} {args : Array Value} {n : Nat} (hy : y.cls ≠ "java/lang/invoke/MethodHandle" ∧ y.cls ≠ "java/lang/invoke/VarHandle") (hins : (Cond.instantiable y.cls n).before args s = true) (hpriv : (Cond.privateMethod y).before args s = true) (hinst : (Cond.instanceMethod y).before args s = true) : (Cond.selects y.cls y y).before args s = true := by
  obtain ⟨c, k, hc, hk, -, hniab, -, -⟩ := Cond.instantiable_spec hins
  have hni : k.isInterface = false := (Bool.or_eq_false_iff.mp hniab).1
  obtain ⟨mk, methM, hnamed, hmethM, -, -⟩ := Cond.instanceMethod_spec hinst
  have hfound : s.methodFound? y.cls y.name y.desc = some mk := State.methodFound?_of_named hnamed hy
  have hcls : mk.cls = c := Option.some.inj ((findClass_of_methodNamed hnamed).symm.trans hc)
  have hsel : selectMethod {} s.vm c mk = .method mk := selectMethod_private hmethM (Cond.privateMethod_at hpriv mk methM hnamed hmethM)
  simp only [Cond.before, Cond.holds, Cond.value, hc, hfound, hnamed, hsel, hcls, hk]
  simp; exact hni
/-- a place where roads meet: walked once, for whatever the roads bring -/
theorem own_join {p : Program} {e : Env} {below : List Frame} {S : State} {Q : Outcome → State → Prop} {α : Type} {P : α → Prop} {F : α → State} (h1 : ∀ z, P z → own_Goes p e below (F z) Q) (h2 : (∀ z, P z → own_Goes p e below (F z) Q) → own_Goes p e below S Q) : own_Goes p e below S Q := h2 h1
def own_ic (c : Int32) : Int32 := if c < 32 then 0 else if 126 < c then 0 else 1
theorem own_pn1 : plainName "com/example/varianta/varianta/Field" = true := by first | (simp [plainName, overriddenIn]; done) | decide +kernel
theorem own_ef_own_isCode (m : MethodId) (p1 : Int32) : entryFrame m #[(.int p1)] 1 = (mkF m 0 #[.val (.int p1)] []) := by first | (simp [entryFrame, mkF, argsToLocals, Value.category]; done) | rfl
def Q_own_isCode (Z : State) (p1 : Int32) (h0 : Heap) (n0 : Nat) (v : Option Value) (h : Heap) (L : List Loc) : Prop := v = some (.int (own_ic p1)) ∧ Fr n0 L ∧ h = h0
def G_own_isCode (Z : State) (p1 : Int32) (h0 : Heap) (n0 : Nat) (s : State) : Outcome → State → Prop := fun o U' => ∃ v L, o = .returned v ∧ Q_own_isCode Z p1 h0 n0 v U'.heap L ∧ FrameEnd s o U' L ({ frames := 0, cells := 0, slots := 0, locals := 0 } : Room).cells ({ frames := 0, cells := 0, slots := 0, locals := 0 } : Room).slots
theorem own_d1_0 : decode prog_5_method_2_code 0 = .ok (.iload_n 0, 1) := by decide +kernel
theorem own_d1_1 : decode prog_5_method_2_code 1 = .ok (.bipush 32, 2) := by decide +kernel
theorem own_d1_3 : decode prog_5_method_2_code 3 = .ok (.if_icmp .lt 13, 3) := by decide +kernel
theorem own_d1_16 : decode prog_5_method_2_code 16 = .ok (.iconst 0, 1) := by decide +kernel
theorem own_d1_17 : decode prog_5_method_2_code 17 = .ok (.ireturn, 1) := by decide +kernel
theorem own_d1_6 : decode prog_5_method_2_code 6 = .ok (.iload_n 0, 1) := by decide +kernel
theorem own_d1_7 : decode prog_5_method_2_code 7 = .ok (.bipush 126, 2) := by decide +kernel
theorem own_d1_9 : decode prog_5_method_2_code 9 = .ok (.if_icmp .gt 7, 3) := by decide +kernel
theorem own_d1_12 : decode prog_5_method_2_code 12 = .ok (.iconst 1, 1) := by decide +kernel
theorem own_d1_13 : decode prog_5_method_2_code 13 = .ok (.goto 4, 3) := by decide +kernel
set_option maxRecDepth 65536 in
set_option maxHeartbeats 40000000 in
theorem own_isCode (l : Launch) (Z : State) (a0 : Array Value) (hw : ∀ d ∈ tables_1, d.before a0 Z = true) (ws : List Jvm.Cond) (p1 : Int32) (h0 : Heap) (n0 : Nat) (Z0 : n0 ≤ h0.size)  :
    MetFree l (⟨"com/example/varianta/varianta/Field", "isCode", "(C)Z"⟩ : MethodName) (head1 (Jvm.Cond.code (⟨"com/example/varianta/varianta/Field", "isCode", "(C)Z"⟩ : MethodName) prog_5_method_2_code 1 (some .boolean) :: ws) ({ frames := 0, cells := 0, slots := 0, locals := 0 } : Room)) (fun a U => a = #[(.int p1)] ∧ Z.Warmed39 U.vm ∧ U.heap = h0) (fun _ _ _ _ _ => True) (fun _ U o U' => ∃ v L, o = .returned v ∧ Q_own_isCode Z p1 h0 n0 v U'.heap L ∧ FrameEnd U o U' L ({ frames := 0, cells := 0, slots := 0, locals := 0 } : Room).cells ({ frames := 0, cells := 0, slots := 0, locals := 0 } : Room).slots) := by
  refine MetFree.of_bodySF (plainFor_of_name own_pn1) hisR ?_
  intro p e s m args below meth c s₁ Bd hml0 hP hK
  obtain ⟨rfl, hZ, hh⟩ := hP
  have hx := Bd.exec
  have hby := Bd.bytes
  have hml : c.maxLocals = 1 := hml0
  have hown : s.vm.findClass "com/example/varianta/varianta/Field" = some m.cls := findClass_of_methodNamed Bd.named
  have hnm := (name_of_methodNamed Bd.named Bd.method).1
  have X0 : Stand p l e ({ frames := 0, cells := 0, slots := 0, locals := 0 } : Room) s m #[(.int p1)] below meth c s₁ [] 0 0 := Stand.of_body Bd
  have e0 : s₁.heap = h0 := by rw [← hh, Bd.state]; rfl
  have N0 := Fr.nil n0
  refine own_go (S := s₁.setTop (entryFrame m #[(.int p1)] 1)) (Q := (G_own_isCode Z p1 h0 n0 s)) (fun _ k => castTop (own_ef_own_isCode m p1) k) ?_
  show own_Goes p e below (s₁.setTop (mkF m 0 #[.val (.int p1)] [])) (G_own_isCode Z p1 h0 n0 s)
  refine own_go (fun _ k => XS.iloadN X0.here hx rfl (hb hby own_d1_0) rfl k) ?_
  show own_Goes p e below (s₁.setTop (mkF m 1 #[.val (.int p1)] [(.int p1)])) (G_own_isCode Z p1 h0 n0 s)
  refine own_go (fun _ k => XS.bipush X0.here hx rfl (hb hby own_d1_1) k) ?_
  show own_Goes p e below (s₁.setTop (mkF m 3 #[.val (.int p1)] [(.int (32 : Int32)), (.int p1)])) (G_own_isCode Z p1 h0 n0 s)
  by_cases hc3_1 : p1 < (32 : Int32)
  · refine own_go (fun _ k => XS.icmpYes X0.here hx rfl (pc0 := 3) (pc' := 16) rfl (hb hby own_d1_3) rfl (XT.ii_lt_t hc3_1) (by decide) (by decide) k) ?_
    show own_Goes p e below (s₁.setTop (mkF m 16 #[.val (.int p1)] [])) (G_own_isCode Z p1 h0 n0 s)
    refine own_go (fun _ k => XS.iconst X0.here hx rfl (hb hby own_d1_16) k) ?_
    show own_Goes p e below (s₁.setTop (mkF m 17 #[.val (.int p1)] [(.int (0 : Int32))])) (G_own_isCode Z p1 h0 n0 s)
    obtain ⟨fs, hr, hrun, hended, hW, hsame⟩ := X0.leave (v := some (.int (0 : Int32))) (fun h => by rw [Bd.returns] at h; cases h)
    refine ⟨_, _, retN X0 hx (t := .boolean) Bd.returns (by simp) (hb hby own_d1_17) hr, hrun, hended, _, _, rfl, ?_, ⟨_, rfl⟩, hW, hsame.mono (by decide) (by decide)⟩
    show Q_own_isCode Z p1 h0 n0 _ s₁.heap _
    rw [e0]
    exact ⟨by simp [own_ic, hc3_1], N0, rfl⟩
  · refine own_go (fun _ k => XS.icmpNo X0.here hx rfl (hb hby own_d1_3) rfl (XT.ii_lt_f hc3_1) k) ?_
    show own_Goes p e below (s₁.setTop (mkF m 6 #[.val (.int p1)] [])) (G_own_isCode Z p1 h0 n0 s)
    refine own_go (fun _ k => XS.iloadN X0.here hx rfl (hb hby own_d1_6) rfl k) ?_
    show own_Goes p e below (s₁.setTop (mkF m 7 #[.val (.int p1)] [(.int p1)])) (G_own_isCode Z p1 h0 n0 s)
    refine own_go (fun _ k => XS.bipush X0.here hx rfl (hb hby own_d1_7) k) ?_
    show own_Goes p e below (s₁.setTop (mkF m 9 #[.val (.int p1)] [(.int (126 : Int32)), (.int p1)])) (G_own_isCode Z p1 h0 n0 s)
    by_cases hc9_2 : (126 : Int32) < p1
    · refine own_go (fun _ k => XS.icmpYes X0.here hx rfl (pc0 := 9) (pc' := 16) rfl (hb hby own_d1_9) rfl (XT.ii_gt_t hc9_2) (by decide) (by decide) k) ?_
      show own_Goes p e below (s₁.setTop (mkF m 16 #[.val (.int p1)] [])) (G_own_isCode Z p1 h0 n0 s)
      refine own_go (fun _ k => XS.iconst X0.here hx rfl (hb hby own_d1_16) k) ?_
      show own_Goes p e below (s₁.setTop (mkF m 17 #[.val (.int p1)] [(.int (0 : Int32))])) (G_own_isCode Z p1 h0 n0 s)
      obtain ⟨fs, hr, hrun, hended, hW, hsame⟩ := X0.leave (v := some (.int (0 : Int32))) (fun h => by rw [Bd.returns] at h; cases h)
      refine ⟨_, _, retN X0 hx (t := .boolean) Bd.returns (by simp) (hb hby own_d1_17) hr, hrun, hended, _, _, rfl, ?_, ⟨_, rfl⟩, hW, hsame.mono (by decide) (by decide)⟩
      show Q_own_isCode Z p1 h0 n0 _ s₁.heap _
      rw [e0]
      exact ⟨by simp [own_ic, hc3_1, hc9_2], N0, rfl⟩
    · refine own_go (fun _ k => XS.icmpNo X0.here hx rfl (hb hby own_d1_9) rfl (XT.ii_gt_f hc9_2) k) ?_
      show own_Goes p e below (s₁.setTop (mkF m 12 #[.val (.int p1)] [])) (G_own_isCode Z p1 h0 n0 s)
      refine own_go (fun _ k => XS.iconst X0.here hx rfl (hb hby own_d1_12) k) ?_
      show own_Goes p e below (s₁.setTop (mkF m 13 #[.val (.int p1)] [(.int (1 : Int32))])) (G_own_isCode Z p1 h0 n0 s)
      refine own_go (fun _ k => XS.goto X0.here hx rfl (pc0 := 13) (pc' := 17) rfl (hb hby own_d1_13) (by decide) (by decide) k) ?_
      show own_Goes p e below (s₁.setTop (mkF m 17 #[.val (.int p1)] [(.int (1 : Int32))])) (G_own_isCode Z p1 h0 n0 s)
      obtain ⟨fs, hr, hrun, hended, hW, hsame⟩ := X0.leave (v := some (.int (1 : Int32))) (fun h => by rw [Bd.returns] at h; cases h)
      refine ⟨_, _, retN X0 hx (t := .boolean) Bd.returns (by simp) (hb hby own_d1_17) hr, hrun, hended, _, _, rfl, ?_, ⟨_, rfl⟩, hW, hsame.mono (by decide) (by decide)⟩
      show Q_own_isCode Z p1 h0 n0 _ s₁.heap _
      rw [e0]
      exact ⟨by simp [own_ic, hc3_1, hc9_2], N0, rfl⟩
theorem own_exp (c z1 z2 : Int32) (h1 : z1 = if c < 128 then 1 else 0) (h2 : z2 = if c < 32 then 1 else if c = 127 then 1 else 0) : own_ic c = if z1 = 0 then 0 else if z2 = 0 then 1 else 0 := by
  subst h1 h2
  unfold own_ic
  by_cases a : c < 32
  · simp [a]
  · by_cases b : c < 128
    · by_cases d : c = 127
      · subst d; decide
      · have : ¬ 126 < c := by
          rw [Int32.lt_iff_toInt_lt] at *
          have e : c.toInt ≠ 127 := fun q => d (Int32.toInt_inj.mp q)
          have e1 : (126 : Int32).toInt = 126 := by decide
          have e2 : (128 : Int32).toInt = 128 := by decide
          omega
        simp [a, b, d, this]
    · have : 126 < c := by
        rw [Int32.lt_iff_toInt_lt] at *
        have e1 : (126 : Int32).toInt = 126 := by decide
        have e2 : (128 : Int32).toInt = 128 := by decide
        omega
      simp [a, b, this]
theorem own_pn0 : plainName "com/example/varianta/varianta/FieldIsCodePinLaw" = true := by first | (simp [plainName, overriddenIn]; done) | decide +kernel
theorem own_ef_own_law (m : MethodId) (p1 : Int32) : entryFrame m #[(.int p1)] maxLocals = (mkF m 0 #[.val (.int p1), .unset, .unset, .unset, .unset, .unset] []) := by first | (simp [entryFrame, mkF, argsToLocals, Value.category, maxLocals]; done) | rfl
def Q_own_law (Z : State) (p1 : Int32) (h0 : Heap) (n0 : Nat) (v : Option Value) (h : Heap) (L : List Loc) : Prop := v = some (.int 1) ∧ Fr n0 L
def G_own_law (Z : State) (p1 : Int32) (h0 : Heap) (n0 : Nat) (s : State) : Outcome → State → Prop := fun o U' => ∃ v L, o = .returned v ∧ Q_own_law Z p1 h0 n0 v U'.heap L ∧ FrameEnd s o U' L room_1.cells room_1.slots
theorem own_pd0 : parseMethodDescriptor "(C)Z" = some ⟨[.char], some .boolean⟩ := by decide +kernel
set_option maxRecDepth 65536 in
set_option maxHeartbeats 40000000 in
theorem own_law (l : Launch) (Z : State) (a0 : Array Value) (hw : ∀ d ∈ tables_1, d.before a0 Z = true) (ws : List Jvm.Cond) (p1 : Int32) (h0 : Heap) (n0 : Nat) (Z0 : n0 ≤ h0.size)  :
    MetFree l x (head1 (Jvm.Cond.code x code maxLocals ret :: ws) room_1) (fun a U => a = #[(.int p1)] ∧ Z.Warmed39 U.vm ∧ U.heap = h0) (fun _ _ _ _ _ => True) (fun _ U o U' => ∃ v L, o = .returned v ∧ Q_own_law Z p1 h0 n0 v U'.heap L ∧ FrameEnd U o U' L room_1.cells room_1.slots) := by
  refine MetFree.of_bodySF (plainFor_of_name own_pn0) hisR ?_
  intro p e s m args below meth c s₁ Bd hml0 hP hK
  obtain ⟨rfl, hZ, hh⟩ := hP
  have hx := Bd.exec
  have hby := Bd.bytes
  have hml : c.maxLocals = 6 := hml0
  have hown : s.vm.findClass "com/example/varianta/varianta/FieldIsCodePinLaw" = some m.cls := findClass_of_methodNamed Bd.named
  have hnm := (name_of_methodNamed Bd.named Bd.method).1
  have X0 : Stand p l e room_1 s m #[(.int p1)] below meth c s₁ [] 0 0 := Stand.of_body Bd
  have e0 : s₁.heap = h0 := by rw [← hh, Bd.state]; rfl
  have N0 := Fr.nil n0
  refine own_go (S := s₁.setTop (entryFrame m #[(.int p1)] maxLocals)) (Q := (G_own_law Z p1 h0 n0 s)) (fun _ k => castTop (own_ef_own_law m p1) k) ?_
  show own_Goes p e below (s₁.setTop (mkF m 0 #[.val (.int p1), .unset, .unset, .unset, .unset, .unset] [])) (G_own_law Z p1 h0 n0 s)
  refine own_go (fun _ k => XS.iloadN X0.here hx rfl (hb hby at_0) rfl k) ?_
  show own_Goes p e below (s₁.setTop (mkF m 1 #[.val (.int p1), .unset, .unset, .unset, .unset, .unset] [(.int p1)])) (G_own_law Z p1 h0 n0 s)
  refine own_go (fun _ k => Jvm.Stand.ldcI (own := "com/example/varianta/varianta/FieldIsCodePinLaw") (index := 7) (v := (65535 : Int32)) X0 hx hown (mvT hZ (hw _ (List.mem_of_getElem? (i := 0) rfl))) rfl (hb hby at_1) k) ?_
  show own_Goes p e below (s₁.setTop (mkF m 3 #[.val (.int p1), .unset, .unset, .unset, .unset, .unset] [(.int (65535 : Int32)), (.int p1)])) (G_own_law Z p1 h0 n0 s)
  refine own_go (fun _ k => XS.iand X0.here hx rfl (hb hby at_3) rfl k) ?_
  show own_Goes p e below (s₁.setTop (mkF m 4 #[.val (.int p1), .unset, .unset, .unset, .unset, .unset] [(.int (p1 &&& (65535 : Int32)))])) (G_own_law Z p1 h0 n0 s)
  refine own_go (fun _ k => XS.i2c X0.here hx rfl (hb hby at_4) rfl k) ?_
  show own_Goes p e below (s₁.setTop (mkF m 5 #[.val (.int p1), .unset, .unset, .unset, .unset, .unset] [(.int ((p1 &&& (65535 : Int32)).toUInt32.toUInt16.toUInt32.toInt32))])) (G_own_law Z p1 h0 n0 s)
  refine own_go (fun _ k => XS.istoreN X0.here hx rfl (hb hby at_5) rfl (l' := #[.val (.int p1), .val (.int ((p1 &&& (65535 : Int32)).toUInt32.toUInt16.toUInt32.toInt32)), .unset, .unset, .unset, .unset]) rfl k) ?_
  show own_Goes p e below (s₁.setTop (mkF m 6 #[.val (.int p1), .val (.int ((p1 &&& (65535 : Int32)).toUInt32.toUInt16.toUInt32.toInt32)), .unset, .unset, .unset, .unset] [])) (G_own_law Z p1 h0 n0 s)
  obtain ⟨c1, h_c1⟩ : ∃ z : Int32, z = ((p1 &&& (65535 : Int32)).toUInt32.toUInt16.toUInt32.toInt32) := ⟨_, rfl⟩
  rw [← h_c1]
  show own_Goes p e below (s₁.setTop (mkF m 6 #[.val (.int p1), .val (.int c1), .unset, .unset, .unset, .unset] [])) (G_own_law Z p1 h0 n0 s)
  refine own_join (P := fun z1 : Int32 => z1 = if c1 < 128 then 1 else 0) (F := fun z1 => s₁.setTop (mkF m 18 #[.val (.int p1), .val (.int c1), .unset, .unset, .unset, .unset] [(.int z1)])) ?_ ?_
  · intro z1 h_z1
    show own_Goes p e below (s₁.setTop (mkF m 18 #[.val (.int p1), .val (.int c1), .unset, .unset, .unset, .unset] [(.int z1)])) (G_own_law Z p1 h0 n0 s)
    refine own_go (fun _ k => XS.istoreN X0.here hx rfl (hb hby at_18) rfl (l' := #[.val (.int p1), .val (.int c1), .val (.int z1), .unset, .unset, .unset]) rfl k) ?_
    show own_Goes p e below (s₁.setTop (mkF m 19 #[.val (.int p1), .val (.int c1), .val (.int z1), .unset, .unset, .unset] [])) (G_own_law Z p1 h0 n0 s)
    refine own_join (P := fun z2 : Int32 => z2 = if c1 < 32 then 1 else if c1 = 127 then 1 else 0) (F := fun z2 => s₁.setTop (mkF m 36 #[.val (.int p1), .val (.int c1), .val (.int z1), .unset, .unset, .unset] [(.int z2)])) ?_ ?_
    · intro z2 h_z2
      show own_Goes p e below (s₁.setTop (mkF m 36 #[.val (.int p1), .val (.int c1), .val (.int z1), .unset, .unset, .unset] [(.int z2)])) (G_own_law Z p1 h0 n0 s)
      refine own_go (fun _ k => XS.istoreN X0.here hx rfl (hb hby at_36) rfl (l' := #[.val (.int p1), .val (.int c1), .val (.int z1), .val (.int z2), .unset, .unset]) rfl k) ?_
      show own_Goes p e below (s₁.setTop (mkF m 37 #[.val (.int p1), .val (.int c1), .val (.int z1), .val (.int z2), .unset, .unset] [])) (G_own_law Z p1 h0 n0 s)
      refine own_join (P := fun z3 : Int32 => z3 = own_ic c1) (F := fun z3 => s₁.setTop (mkF m 50 #[.val (.int p1), .val (.int c1), .val (.int z1), .val (.int z2), .unset, .unset] [(.int z3)])) ?_ ?_
      · intro z3 h_z3
        show own_Goes p e below (s₁.setTop (mkF m 50 #[.val (.int p1), .val (.int c1), .val (.int z1), .val (.int z2), .unset, .unset] [(.int z3)])) (G_own_law Z p1 h0 n0 s)
        refine own_go (fun _ k => XS.istore X0.here hx rfl (hb hby at_50) rfl (l' := #[.val (.int p1), .val (.int c1), .val (.int z1), .val (.int z2), .val (.int z3), .unset]) rfl k) ?_
        show own_Goes p e below (s₁.setTop (mkF m 52 #[.val (.int p1), .val (.int c1), .val (.int z1), .val (.int z2), .val (.int z3), .unset] [])) (G_own_law Z p1 h0 n0 s)
        refine own_go (fun _ k => XS.bipush X0.here hx rfl (hb hby at_52) k) ?_
        show own_Goes p e below (s₁.setTop (mkF m 54 #[.val (.int p1), .val (.int c1), .val (.int z1), .val (.int z2), .val (.int z3), .unset] [(.int (32 : Int32))])) (G_own_law Z p1 h0 n0 s)
        obtain ⟨_, _, ⟨T6, L6, k6, n6⟩, -, X6, ⟨Lc6, hQ6, l6, y6, z6⟩, st6⟩ := Jvm.LawKit.callS X0 hx (y := (⟨"com/example/varianta/varianta/Field", "isCode", "(C)Z"⟩ : MethodName)) hown (mvT hZ (hw _ (List.mem_of_getElem? (i := 1) rfl))) (mvT hZ (hw _ (List.mem_of_getElem? (i := 2) rfl))) (mvT hZ (hw _ (List.mem_of_getElem? (i := 3) rfl))) (mvT hZ (hw _ (List.mem_of_getElem? (i := 4) rfl))) (by decide) (backOf (W := 0) (own_isCode l Z a0 hw [] (32 : Int32) h0 n0 Z0 ) hZ (hw _ (List.mem_of_getElem? (i := 4) rfl)) (hw _ (List.mem_of_getElem? (i := 3) rfl)) (by decide) (by decide)) (g := (mkF m 54 #[.val (.int p1), .val (.int c1), .val (.int z1), .val (.int z2), .val (.int z3), .unset] [(.int (32 : Int32))])) rfl (by rw [hml]; rfl) (argsL := [(.int (32 : Int32))]) (rest := []) (lenOf own_pd0 rfl) rfl (by show 2 * 0 + _ ≤ _; exact Nat.le_of_eq rfl) (hb hby at_54) (fun _ _ => ⟨rfl, e0, (by decide : 0 + 0 ≤ _), (by decide : 0 + 0 ≤ _)⟩)
        dsimp only [Pt.U, Pt.locs, Pt.cells, Pt.slots] at X6 l6 y6 z6 st6 hQ6
        subst l6 y6 z6
        obtain ⟨rfl, N6q, e6⟩ := hQ6
        have N6 := Fr.app N0 N6q
        refine own_go st6 ?_
        show own_Goes p e below (T6.setTop (mkF m 57 #[.val (.int p1), .val (.int c1), .val (.int z1), .val (.int z2), .val (.int z3), .unset] [(.int (own_ic (32 : Int32)))])) (G_own_law Z p1 h0 n0 s)
        refine own_go (fun _ k => XS.ifNo X6.here hx rfl (hb hby at_57) rfl (XT.i0_eq_f (by decide)) k) ?_
        show own_Goes p e below (T6.setTop (mkF m 60 #[.val (.int p1), .val (.int c1), .val (.int z1), .val (.int z2), .val (.int z3), .unset] [])) (G_own_law Z p1 h0 n0 s)
        refine own_go (fun _ k => XS.bipush X6.here hx rfl (hb hby at_60) k) ?_
        show own_Goes p e below (T6.setTop (mkF m 62 #[.val (.int p1), .val (.int c1), .val (.int z1), .val (.int z2), .val (.int z3), .unset] [(.int (126 : Int32))])) (G_own_law Z p1 h0 n0 s)
        obtain ⟨_, _, ⟨T7, L7, k7, n7⟩, -, X7, ⟨Lc7, hQ7, l7, y7, z7⟩, st7⟩ := Jvm.LawKit.callS X6 hx (y := (⟨"com/example/varianta/varianta/Field", "isCode", "(C)Z"⟩ : MethodName)) hown (mvT hZ (hw _ (List.mem_of_getElem? (i := 1) rfl))) (mvT hZ (hw _ (List.mem_of_getElem? (i := 2) rfl))) (mvT hZ (hw _ (List.mem_of_getElem? (i := 3) rfl))) (mvT hZ (hw _ (List.mem_of_getElem? (i := 4) rfl))) (by decide) (backOf (W := 0) (own_isCode l Z a0 hw [] (126 : Int32) h0 n0 Z0 ) hZ (hw _ (List.mem_of_getElem? (i := 4) rfl)) (hw _ (List.mem_of_getElem? (i := 3) rfl)) (by decide) (by decide)) (g := (mkF m 62 #[.val (.int p1), .val (.int c1), .val (.int z1), .val (.int z2), .val (.int z3), .unset] [(.int (126 : Int32))])) rfl (by rw [hml]; rfl) (argsL := [(.int (126 : Int32))]) (rest := []) (lenOf own_pd0 rfl) rfl (by show 2 * 0 + _ ≤ _; exact Nat.le_of_eq rfl) (hb hby at_62) (fun _ _ => ⟨rfl, e6, (by decide : 0 + 0 ≤ _), (by decide : 0 + 0 ≤ _)⟩)
        dsimp only [Pt.U, Pt.locs, Pt.cells, Pt.slots] at X7 l7 y7 z7 st7 hQ7
        subst l7 y7 z7
        obtain ⟨rfl, N7q, e7⟩ := hQ7
        have N7 := Fr.app N6 N7q
        refine own_go st7 ?_
        show own_Goes p e below (T7.setTop (mkF m 65 #[.val (.int p1), .val (.int c1), .val (.int z1), .val (.int z2), .val (.int z3), .unset] [(.int (own_ic (126 : Int32)))])) (G_own_law Z p1 h0 n0 s)
        refine own_go (fun _ k => XS.ifNo X7.here hx rfl (hb hby at_65) rfl (XT.i0_eq_f (by decide)) k) ?_
        show own_Goes p e below (T7.setTop (mkF m 68 #[.val (.int p1), .val (.int c1), .val (.int z1), .val (.int z2), .val (.int z3), .unset] [])) (G_own_law Z p1 h0 n0 s)
        refine own_go (fun _ k => XS.bipush X7.here hx rfl (hb hby at_68) k) ?_
        show own_Goes p e below (T7.setTop (mkF m 70 #[.val (.int p1), .val (.int c1), .val (.int z1), .val (.int z2), .val (.int z3), .unset] [(.int (31 : Int32))])) (G_own_law Z p1 h0 n0 s)
        obtain ⟨_, _, ⟨T8, L8, k8, n8⟩, -, X8, ⟨Lc8, hQ8, l8, y8, z8⟩, st8⟩ := Jvm.LawKit.callS X7 hx (y := (⟨"com/example/varianta/varianta/Field", "isCode", "(C)Z"⟩ : MethodName)) hown (mvT hZ (hw _ (List.mem_of_getElem? (i := 1) rfl))) (mvT hZ (hw _ (List.mem_of_getElem? (i := 2) rfl))) (mvT hZ (hw _ (List.mem_of_getElem? (i := 3) rfl))) (mvT hZ (hw _ (List.mem_of_getElem? (i := 4) rfl))) (by decide) (backOf (W := 0) (own_isCode l Z a0 hw [] (31 : Int32) h0 n0 Z0 ) hZ (hw _ (List.mem_of_getElem? (i := 4) rfl)) (hw _ (List.mem_of_getElem? (i := 3) rfl)) (by decide) (by decide)) (g := (mkF m 70 #[.val (.int p1), .val (.int c1), .val (.int z1), .val (.int z2), .val (.int z3), .unset] [(.int (31 : Int32))])) rfl (by rw [hml]; rfl) (argsL := [(.int (31 : Int32))]) (rest := []) (lenOf own_pd0 rfl) rfl (by show 2 * 0 + _ ≤ _; exact Nat.le_of_eq rfl) (hb hby at_70) (fun _ _ => ⟨rfl, e7, (by decide : 0 + 0 ≤ _), (by decide : 0 + 0 ≤ _)⟩)
        dsimp only [Pt.U, Pt.locs, Pt.cells, Pt.slots] at X8 l8 y8 z8 st8 hQ8
        subst l8 y8 z8
        obtain ⟨rfl, N8q, e8⟩ := hQ8
        have N8 := Fr.app N7 N8q
        refine own_go st8 ?_
        show own_Goes p e below (T8.setTop (mkF m 73 #[.val (.int p1), .val (.int c1), .val (.int z1), .val (.int z2), .val (.int z3), .unset] [(.int (own_ic (31 : Int32)))])) (G_own_law Z p1 h0 n0 s)
        refine own_go (fun _ k => XS.ifNo X8.here hx rfl (hb hby at_73) rfl (XT.i0_ne_f (by decide)) k) ?_
        show own_Goes p e below (T8.setTop (mkF m 76 #[.val (.int p1), .val (.int c1), .val (.int z1), .val (.int z2), .val (.int z3), .unset] [])) (G_own_law Z p1 h0 n0 s)
        refine own_go (fun _ k => XS.bipush X8.here hx rfl (hb hby at_76) k) ?_
        show own_Goes p e below (T8.setTop (mkF m 78 #[.val (.int p1), .val (.int c1), .val (.int z1), .val (.int z2), .val (.int z3), .unset] [(.int (127 : Int32))])) (G_own_law Z p1 h0 n0 s)
        obtain ⟨_, _, ⟨T9, L9, k9, n9⟩, -, X9, ⟨Lc9, hQ9, l9, y9, z9⟩, st9⟩ := Jvm.LawKit.callS X8 hx (y := (⟨"com/example/varianta/varianta/Field", "isCode", "(C)Z"⟩ : MethodName)) hown (mvT hZ (hw _ (List.mem_of_getElem? (i := 1) rfl))) (mvT hZ (hw _ (List.mem_of_getElem? (i := 2) rfl))) (mvT hZ (hw _ (List.mem_of_getElem? (i := 3) rfl))) (mvT hZ (hw _ (List.mem_of_getElem? (i := 4) rfl))) (by decide) (backOf (W := 0) (own_isCode l Z a0 hw [] (127 : Int32) h0 n0 Z0 ) hZ (hw _ (List.mem_of_getElem? (i := 4) rfl)) (hw _ (List.mem_of_getElem? (i := 3) rfl)) (by decide) (by decide)) (g := (mkF m 78 #[.val (.int p1), .val (.int c1), .val (.int z1), .val (.int z2), .val (.int z3), .unset] [(.int (127 : Int32))])) rfl (by rw [hml]; rfl) (argsL := [(.int (127 : Int32))]) (rest := []) (lenOf own_pd0 rfl) rfl (by show 2 * 0 + _ ≤ _; exact Nat.le_of_eq rfl) (hb hby at_78) (fun _ _ => ⟨rfl, e8, (by decide : 0 + 0 ≤ _), (by decide : 0 + 0 ≤ _)⟩)
        dsimp only [Pt.U, Pt.locs, Pt.cells, Pt.slots] at X9 l9 y9 z9 st9 hQ9
        subst l9 y9 z9
        obtain ⟨rfl, N9q, e9⟩ := hQ9
        have N9 := Fr.app N8 N9q
        refine own_go st9 ?_
        show own_Goes p e below (T9.setTop (mkF m 81 #[.val (.int p1), .val (.int c1), .val (.int z1), .val (.int z2), .val (.int z3), .unset] [(.int (own_ic (127 : Int32)))])) (G_own_law Z p1 h0 n0 s)
        refine own_go (fun _ k => XS.ifNo X9.here hx rfl (hb hby at_81) rfl (XT.i0_ne_f (by decide)) k) ?_
        show own_Goes p e below (T9.setTop (mkF m 84 #[.val (.int p1), .val (.int c1), .val (.int z1), .val (.int z2), .val (.int z3), .unset] [])) (G_own_law Z p1 h0 n0 s)
        refine own_go (fun _ k => XS.iconst X9.here hx rfl (hb hby at_84) k) ?_
        show own_Goes p e below (T9.setTop (mkF m 85 #[.val (.int p1), .val (.int c1), .val (.int z1), .val (.int z2), .val (.int z3), .unset] [(.int (1 : Int32))])) (G_own_law Z p1 h0 n0 s)
        refine own_go (fun _ k => XS.goto X9.here hx rfl (pc0 := 85) (pc' := 89) rfl (hb hby at_85) (by decide) (by decide) k) ?_
        show own_Goes p e below (T9.setTop (mkF m 89 #[.val (.int p1), .val (.int c1), .val (.int z1), .val (.int z2), .val (.int z3), .unset] [(.int (1 : Int32))])) (G_own_law Z p1 h0 n0 s)
        refine own_go (fun _ k => XS.istore X9.here hx rfl (hb hby at_89) rfl (l' := #[.val (.int p1), .val (.int c1), .val (.int z1), .val (.int z2), .val (.int z3), .val (.int (1 : Int32))]) rfl k) ?_
        show own_Goes p e below (T9.setTop (mkF m 91 #[.val (.int p1), .val (.int c1), .val (.int z1), .val (.int z2), .val (.int z3), .val (.int (1 : Int32))] [])) (G_own_law Z p1 h0 n0 s)
        refine own_go (fun _ k => XS.iload X9.here hx rfl (hb hby at_91) rfl k) ?_
        show own_Goes p e below (T9.setTop (mkF m 93 #[.val (.int p1), .val (.int c1), .val (.int z1), .val (.int z2), .val (.int z3), .val (.int (1 : Int32))] [(.int (1 : Int32))])) (G_own_law Z p1 h0 n0 s)
        refine own_go (fun _ k => XS.ifNo X9.here hx rfl (hb hby at_93) rfl (XT.i0_eq_f (by decide)) k) ?_
        show own_Goes p e below (T9.setTop (mkF m 96 #[.val (.int p1), .val (.int c1), .val (.int z1), .val (.int z2), .val (.int z3), .val (.int (1 : Int32))] [])) (G_own_law Z p1 h0 n0 s)
        refine own_go (fun _ k => XS.iloadN X9.here hx rfl (hb hby at_96) rfl k) ?_
        show own_Goes p e below (T9.setTop (mkF m 97 #[.val (.int p1), .val (.int c1), .val (.int z1), .val (.int z2), .val (.int z3), .val (.int (1 : Int32))] [(.int c1)])) (G_own_law Z p1 h0 n0 s)
        obtain ⟨_, _, ⟨T10, L10, k10, n10⟩, -, X10, ⟨Lc10, hQ10, l10, y10, z10⟩, st10⟩ := Jvm.LawKit.callS X9 hx (y := (⟨"com/example/varianta/varianta/Field", "isCode", "(C)Z"⟩ : MethodName)) hown (mvT hZ (hw _ (List.mem_of_getElem? (i := 1) rfl))) (mvT hZ (hw _ (List.mem_of_getElem? (i := 2) rfl))) (mvT hZ (hw _ (List.mem_of_getElem? (i := 3) rfl))) (mvT hZ (hw _ (List.mem_of_getElem? (i := 4) rfl))) (by decide) (backOf (W := 0) (own_isCode l Z a0 hw [] c1 h0 n0 Z0 ) hZ (hw _ (List.mem_of_getElem? (i := 4) rfl)) (hw _ (List.mem_of_getElem? (i := 3) rfl)) (by decide) (by decide)) (g := (mkF m 97 #[.val (.int p1), .val (.int c1), .val (.int z1), .val (.int z2), .val (.int z3), .val (.int (1 : Int32))] [(.int c1)])) rfl (by rw [hml]; rfl) (argsL := [(.int c1)]) (rest := []) (lenOf own_pd0 rfl) rfl (by show 2 * 0 + _ ≤ _; exact Nat.le_of_eq rfl) (hb hby at_97) (fun _ _ => ⟨rfl, e9, (by decide : 0 + 0 ≤ _), (by decide : 0 + 0 ≤ _)⟩)
        dsimp only [Pt.U, Pt.locs, Pt.cells, Pt.slots] at X10 l10 y10 z10 st10 hQ10
        subst l10 y10 z10
        obtain ⟨rfl, N10q, e10⟩ := hQ10
        have N10 := Fr.app N9 N10q
        refine own_go st10 ?_
        show own_Goes p e below (T10.setTop (mkF m 100 #[.val (.int p1), .val (.int c1), .val (.int z1), .val (.int z2), .val (.int z3), .val (.int (1 : Int32))] [(.int (own_ic c1))])) (G_own_law Z p1 h0 n0 s)
        refine own_go (fun _ k => XS.iload X10.here hx rfl (hb hby at_100) rfl k) ?_
        show own_Goes p e below (T10.setTop (mkF m 102 #[.val (.int p1), .val (.int c1), .val (.int z1), .val (.int z2), .val (.int z3), .val (.int (1 : Int32))] [(.int z3), (.int (own_ic c1))])) (G_own_law Z p1 h0 n0 s)
        refine own_go (fun _ k => XS.icmpNo X10.here hx rfl (hb hby at_102) rfl (XT.ii_ne_f h_z3.symm) k) ?_
        show own_Goes p e below (T10.setTop (mkF m 105 #[.val (.int p1), .val (.int c1), .val (.int z1), .val (.int z2), .val (.int z3), .val (.int (1 : Int32))] [])) (G_own_law Z p1 h0 n0 s)
        refine own_go (fun _ k => XS.iconst X10.here hx rfl (hb hby at_105) k) ?_
        show own_Goes p e below (T10.setTop (mkF m 106 #[.val (.int p1), .val (.int c1), .val (.int z1), .val (.int z2), .val (.int z3), .val (.int (1 : Int32))] [(.int (1 : Int32))])) (G_own_law Z p1 h0 n0 s)
        refine own_go (fun _ k => XS.goto X10.here hx rfl (pc0 := 106) (pc' := 110) rfl (hb hby at_106) (by decide) (by decide) k) ?_
        show own_Goes p e below (T10.setTop (mkF m 110 #[.val (.int p1), .val (.int c1), .val (.int z1), .val (.int z2), .val (.int z3), .val (.int (1 : Int32))] [(.int (1 : Int32))])) (G_own_law Z p1 h0 n0 s)
        obtain ⟨fs, hr, hrun, hended, hW, hsame⟩ := X10.leave (v := some (.int (1 : Int32))) (fun h => by rw [Bd.returns] at h; cases h)
        refine ⟨_, _, retN X10 hx (t := .boolean) Bd.returns (by simp) (hb hby at_110) hr, hrun, hended, _, _, rfl, ?_, ⟨_, rfl⟩, hW, hsame.mono (by decide) (by decide)⟩
        show Q_own_law Z p1 h0 n0 _ T10.heap _
        rw [e10]
        exact ⟨rfl, N10⟩
      · intro J50_5
        refine own_go (fun _ k => XS.iloadN X0.here hx rfl (hb hby at_37) rfl k) ?_
        show own_Goes p e below (s₁.setTop (mkF m 38 #[.val (.int p1), .val (.int c1), .val (.int z1), .val (.int z2), .unset, .unset] [(.int z1)])) (G_own_law Z p1 h0 n0 s)
        by_cases hc38_11 : z1 = (0 : Int32)
        · refine own_go (fun _ k => XS.ifYes X0.here hx rfl (pc0 := 38) (pc' := 49) rfl (hb hby at_38) rfl (XT.i0_eq_t hc38_11) (by decide) (by decide) k) ?_
          show own_Goes p e below (s₁.setTop (mkF m 49 #[.val (.int p1), .val (.int c1), .val (.int z1), .val (.int z2), .unset, .unset] [])) (G_own_law Z p1 h0 n0 s)
          refine own_go (fun _ k => XS.iconst X0.here hx rfl (hb hby at_49) k) ?_
          show own_Goes p e below (s₁.setTop (mkF m 50 #[.val (.int p1), .val (.int c1), .val (.int z1), .val (.int z2), .unset, .unset] [(.int (0 : Int32))])) (G_own_law Z p1 h0 n0 s)
          exact J50_5 _ (by rw [own_exp c1 z1 z2 h_z1 h_z2]; simp [hc38_11])
        · refine own_go (fun _ k => XS.ifNo X0.here hx rfl (hb hby at_38) rfl (XT.i0_eq_f hc38_11) k) ?_
          show own_Goes p e below (s₁.setTop (mkF m 41 #[.val (.int p1), .val (.int c1), .val (.int z1), .val (.int z2), .unset, .unset] [])) (G_own_law Z p1 h0 n0 s)
          refine own_go (fun _ k => XS.iloadN X0.here hx rfl (hb hby at_41) rfl k) ?_
          show own_Goes p e below (s₁.setTop (mkF m 42 #[.val (.int p1), .val (.int c1), .val (.int z1), .val (.int z2), .unset, .unset] [(.int z2)])) (G_own_law Z p1 h0 n0 s)
          by_cases hc42_12 : z2 = (0 : Int32)
          · refine own_go (fun _ k => XS.ifNo X0.here hx rfl (hb hby at_42) rfl (XT.i0_ne_f hc42_12) k) ?_
            show own_Goes p e below (s₁.setTop (mkF m 45 #[.val (.int p1), .val (.int c1), .val (.int z1), .val (.int z2), .unset, .unset] [])) (G_own_law Z p1 h0 n0 s)
            refine own_go (fun _ k => XS.iconst X0.here hx rfl (hb hby at_45) k) ?_
            show own_Goes p e below (s₁.setTop (mkF m 46 #[.val (.int p1), .val (.int c1), .val (.int z1), .val (.int z2), .unset, .unset] [(.int (1 : Int32))])) (G_own_law Z p1 h0 n0 s)
            refine own_go (fun _ k => XS.goto X0.here hx rfl (pc0 := 46) (pc' := 50) rfl (hb hby at_46) (by decide) (by decide) k) ?_
            show own_Goes p e below (s₁.setTop (mkF m 50 #[.val (.int p1), .val (.int c1), .val (.int z1), .val (.int z2), .unset, .unset] [(.int (1 : Int32))])) (G_own_law Z p1 h0 n0 s)
            exact J50_5 _ (by rw [own_exp c1 z1 z2 h_z1 h_z2]; simp [hc38_11, hc42_12])
          · refine own_go (fun _ k => XS.ifYes X0.here hx rfl (pc0 := 42) (pc' := 49) rfl (hb hby at_42) rfl (XT.i0_ne_t hc42_12) (by decide) (by decide) k) ?_
            show own_Goes p e below (s₁.setTop (mkF m 49 #[.val (.int p1), .val (.int c1), .val (.int z1), .val (.int z2), .unset, .unset] [])) (G_own_law Z p1 h0 n0 s)
            refine own_go (fun _ k => XS.iconst X0.here hx rfl (hb hby at_49) k) ?_
            show own_Goes p e below (s₁.setTop (mkF m 50 #[.val (.int p1), .val (.int c1), .val (.int z1), .val (.int z2), .unset, .unset] [(.int (0 : Int32))])) (G_own_law Z p1 h0 n0 s)
            exact J50_5 _ (by rw [own_exp c1 z1 z2 h_z1 h_z2]; simp [hc38_11, hc42_12])
    · intro J36_4
      refine own_go (fun _ k => XS.iloadN X0.here hx rfl (hb hby at_19) rfl k) ?_
      show own_Goes p e below (s₁.setTop (mkF m 20 #[.val (.int p1), .val (.int c1), .val (.int z1), .unset, .unset, .unset] [(.int c1)])) (G_own_law Z p1 h0 n0 s)
      refine own_go (fun _ k => XS.bipush X0.here hx rfl (hb hby at_20) k) ?_
      show own_Goes p e below (s₁.setTop (mkF m 22 #[.val (.int p1), .val (.int c1), .val (.int z1), .unset, .unset, .unset] [(.int (32 : Int32)), (.int c1)])) (G_own_law Z p1 h0 n0 s)
      by_cases hc22_13 : c1 < (32 : Int32)
      · refine own_go (fun _ k => XS.icmpYes X0.here hx rfl (pc0 := 22) (pc' := 31) rfl (hb hby at_22) rfl (XT.ii_lt_t hc22_13) (by decide) (by decide) k) ?_
        show own_Goes p e below (s₁.setTop (mkF m 31 #[.val (.int p1), .val (.int c1), .val (.int z1), .unset, .unset, .unset] [])) (G_own_law Z p1 h0 n0 s)
        refine own_go (fun _ k => XS.iconst X0.here hx rfl (hb hby at_31) k) ?_
        show own_Goes p e below (s₁.setTop (mkF m 32 #[.val (.int p1), .val (.int c1), .val (.int z1), .unset, .unset, .unset] [(.int (1 : Int32))])) (G_own_law Z p1 h0 n0 s)
        refine own_go (fun _ k => XS.goto X0.here hx rfl (pc0 := 32) (pc' := 36) rfl (hb hby at_32) (by decide) (by decide) k) ?_
        show own_Goes p e below (s₁.setTop (mkF m 36 #[.val (.int p1), .val (.int c1), .val (.int z1), .unset, .unset, .unset] [(.int (1 : Int32))])) (G_own_law Z p1 h0 n0 s)
        exact J36_4 _ (by simp [hc22_13])
      · refine own_go (fun _ k => XS.icmpNo X0.here hx rfl (hb hby at_22) rfl (XT.ii_lt_f hc22_13) k) ?_
        show own_Goes p e below (s₁.setTop (mkF m 25 #[.val (.int p1), .val (.int c1), .val (.int z1), .unset, .unset, .unset] [])) (G_own_law Z p1 h0 n0 s)
        refine own_go (fun _ k => XS.iloadN X0.here hx rfl (hb hby at_25) rfl k) ?_
        show own_Goes p e below (s₁.setTop (mkF m 26 #[.val (.int p1), .val (.int c1), .val (.int z1), .unset, .unset, .unset] [(.int c1)])) (G_own_law Z p1 h0 n0 s)
        refine own_go (fun _ k => XS.bipush X0.here hx rfl (hb hby at_26) k) ?_
        show own_Goes p e below (s₁.setTop (mkF m 28 #[.val (.int p1), .val (.int c1), .val (.int z1), .unset, .unset, .unset] [(.int (127 : Int32)), (.int c1)])) (G_own_law Z p1 h0 n0 s)
        by_cases hc28_14 : c1 = (127 : Int32)
        · refine own_go (fun _ k => XS.icmpNo X0.here hx rfl (hb hby at_28) rfl (XT.ii_ne_f hc28_14) k) ?_
          show own_Goes p e below (s₁.setTop (mkF m 31 #[.val (.int p1), .val (.int c1), .val (.int z1), .unset, .unset, .unset] [])) (G_own_law Z p1 h0 n0 s)
          refine own_go (fun _ k => XS.iconst X0.here hx rfl (hb hby at_31) k) ?_
          show own_Goes p e below (s₁.setTop (mkF m 32 #[.val (.int p1), .val (.int c1), .val (.int z1), .unset, .unset, .unset] [(.int (1 : Int32))])) (G_own_law Z p1 h0 n0 s)
          refine own_go (fun _ k => XS.goto X0.here hx rfl (pc0 := 32) (pc' := 36) rfl (hb hby at_32) (by decide) (by decide) k) ?_
          show own_Goes p e below (s₁.setTop (mkF m 36 #[.val (.int p1), .val (.int c1), .val (.int z1), .unset, .unset, .unset] [(.int (1 : Int32))])) (G_own_law Z p1 h0 n0 s)
          exact J36_4 _ (by simp [hc22_13, hc28_14])
        · refine own_go (fun _ k => XS.icmpYes X0.here hx rfl (pc0 := 28) (pc' := 35) rfl (hb hby at_28) rfl (XT.ii_ne_t hc28_14) (by decide) (by decide) k) ?_
          show own_Goes p e below (s₁.setTop (mkF m 35 #[.val (.int p1), .val (.int c1), .val (.int z1), .unset, .unset, .unset] [])) (G_own_law Z p1 h0 n0 s)
          refine own_go (fun _ k => XS.iconst X0.here hx rfl (hb hby at_35) k) ?_
          show own_Goes p e below (s₁.setTop (mkF m 36 #[.val (.int p1), .val (.int c1), .val (.int z1), .unset, .unset, .unset] [(.int (0 : Int32))])) (G_own_law Z p1 h0 n0 s)
          exact J36_4 _ (by simp [hc22_13, hc28_14])
  · intro J18_3
    refine own_go (fun _ k => XS.iloadN X0.here hx rfl (hb hby at_6) rfl k) ?_
    show own_Goes p e below (s₁.setTop (mkF m 7 #[.val (.int p1), .val (.int c1), .unset, .unset, .unset, .unset] [(.int c1)])) (G_own_law Z p1 h0 n0 s)
    refine own_go (fun _ k => XS.sipush X0.here hx rfl (hb hby at_7) k) ?_
    show own_Goes p e below (s₁.setTop (mkF m 10 #[.val (.int p1), .val (.int c1), .unset, .unset, .unset, .unset] [(.int (128 : Int32)), (.int c1)])) (G_own_law Z p1 h0 n0 s)
    by_cases hc10_15 : c1 < (128 : Int32)
    · refine own_go (fun _ k => XS.icmpNo X0.here hx rfl (hb hby at_10) rfl (XT.ii_ge_f hc10_15) k) ?_
      show own_Goes p e below (s₁.setTop (mkF m 13 #[.val (.int p1), .val (.int c1), .unset, .unset, .unset, .unset] [])) (G_own_law Z p1 h0 n0 s)
      refine own_go (fun _ k => XS.iconst X0.here hx rfl (hb hby at_13) k) ?_
      show own_Goes p e below (s₁.setTop (mkF m 14 #[.val (.int p1), .val (.int c1), .unset, .unset, .unset, .unset] [(.int (1 : Int32))])) (G_own_law Z p1 h0 n0 s)
      refine own_go (fun _ k => XS.goto X0.here hx rfl (pc0 := 14) (pc' := 18) rfl (hb hby at_14) (by decide) (by decide) k) ?_
      show own_Goes p e below (s₁.setTop (mkF m 18 #[.val (.int p1), .val (.int c1), .unset, .unset, .unset, .unset] [(.int (1 : Int32))])) (G_own_law Z p1 h0 n0 s)
      exact J18_3 _ (by simp [hc10_15])
    · refine own_go (fun _ k => XS.icmpYes X0.here hx rfl (pc0 := 10) (pc' := 17) rfl (hb hby at_10) rfl (XT.ii_ge_t hc10_15) (by decide) (by decide) k) ?_
      show own_Goes p e below (s₁.setTop (mkF m 17 #[.val (.int p1), .val (.int c1), .unset, .unset, .unset, .unset] [])) (G_own_law Z p1 h0 n0 s)
      refine own_go (fun _ k => XS.iconst X0.here hx rfl (hb hby at_17) k) ?_
      show own_Goes p e below (s₁.setTop (mkF m 18 #[.val (.int p1), .val (.int c1), .unset, .unset, .unset, .unset] [(.int (0 : Int32))])) (G_own_law Z p1 h0 n0 s)
      exact J18_3 _ (by simp [hc10_15])
set_option maxRecDepth 65536 in
set_option maxHeartbeats 40000000 in
theorem comes_1 {Post : Tables → Env → Array Value → State → Outcome → State → Prop} (hpost : ∀ tb e args s v u, (limb_1_1.after args s (.returned v) u = true ∧ limb_1_2.after args s (.returned v) u = true ∧ True) → FrameEnd s (.returned v) u (Jvm.fieldLocs frame_1_writes args s ++ Jvm.arrayLocs frame_1_arrays args s ++ Jvm.staticLocs frame_1_statics s) 0 0 → Post tb e args s (.returned v) u) :
    ArmFor flags0 classFile x code maxLocals ret World_1 tables_1 room_1 Calls_1 rest_1 Pre_1 Post := by
  intro l hfl _ _ p e ha hc hk s m args below hf hA hF happ hP
  obtain ⟨hcalls, hrest, hpre⟩ := hP
  obtain ⟨-, -, -, hnamed, -, -, -, hat⟩ := (Spec.applies_iff hf).mp happ
  obtain ⟨hg, hn⟩ := and_e (Cond.before_iff.mp (show (Jvm.Cond.and given_1 narrow_1).before args s = true from hpre))
  obtain ⟨hcount, k0⟩ := and_e hg
  have g0 := k0
  obtain ⟨w0, rfl⟩ : ∃ w0 : Value, args = #[w0] := by
    have hs : args.size = 1 := by simpa [Cond.value, given_1] using hcount
    obtain ⟨L⟩ := args
    match L, hs with
    | [w0], _ => exact ⟨w0, rfl⟩
  have hw := fun d (hd : d ∈ tables_1) => atoms_spec (ws := Jvm.Cond.code x code maxLocals ret :: tables_1) hat d (List.mem_cons_of_mem _ hd)
  have hfit : Fit s := fun {y c} hc i hi => by
    obtain ⟨ha, rfl⟩ := Array.getElem?_eq_some_iff.mp hc
    have q := List.all_eq_true.mp ((Array.all_eq_true_iff_forall_mem.mp hF) _ (Array.getElem_mem ha)) i (List.mem_range.mpr hi)
    simpa [Array.getElem?_eq_getElem hi] using q
  obtain ⟨i0, ei0⟩ := is_v g0
  obtain rfl : w0 = (.int i0) := Option.some.inj ei0
  obtain ⟨n, o, h1, h2, h3, _, L, rfl, ⟨rfl, N⟩, hq⟩ := own_law l s _ hw tables_1 i0 s.heap s.heap.size (Nat.le_refl _)  p e ha hc hk s m _ below hf ((Spec.applies_iff_loose hf).mp happ).1 ⟨rfl, State.Warmed39.refl s, rfl⟩ trivial
  refine ⟨n, _, h1, h2, h3, hpost _ _ _ _ _ _ ⟨Cond.after_iff.mpr rfl, Cond.after_iff.mpr (eq_i res_at (Term.int_eval (1)) rfl), trivial⟩ ⟨hq.1, hq.2.1, (hq.2.2.sift fun y hy => Or.inr (N y hy)).mono (by decide) (by decide)⟩⟩
theorem main_1_1 : Claimed_1_1 := comes_1 fun _ _ _ _ _ _ h hF => ⟨h.1, hF⟩
theorem main_1_2 : Claimed_1_2 := comes_1 fun _ _ _ _ _ _ h hF => ⟨h.2.1, hF⟩
end Jvm.Pilot.@@N@@
namespace Jvm.Pilot.@@N@@
open Jvm Jvm.ClassFile Sem Op Lib Jvm.Free Jvm.Stand Jvm.Pilot.@@N@@.Jvm.D
/-! MADE BY PROGRAM (witnessworld.py) out of the Statement's table words and the real class files: 10 classes; the members and pool entries that the words name. The judged class is class 1, her method 1. -/
namespace start1
open Jvm.ClassFile
def u (s : String) : CpInfo := .utf8 (stringToUtf16 s)
/-- a pool by its gaps: so many unusable entries, then the entry; so many at the end -/
def gap : Nat → List CpInfo → List CpInfo
  | 0, r => r
  | n + 1, r => .unusable :: gap n r
def poolList (es : List (Nat × CpInfo)) (last : Nat) : List CpInfo := es.foldr (fun e r => gap e.1 (e.2 :: r)) (gap last [])
def pool (es : List (Nat × CpInfo)) (last : Nat) : Array CpInfo := ⟨poolList es last⟩
def fileOf (pool : Array CpInfo) (this : Nat) (attrs : Array Attribute := #[]) (ms : Array MethodInfo := #[]) (fl : Nat := 33) (sup : Nat := 0) (ifs : Array Nat := #[]) (fds : Array FieldInfo := #[]) : ClassFile where
  minorVersion := 0
  majorVersion := 65
  constantPool := pool
  accessFlags := fl
  thisClass := this
  superClass := sup
  interfaces := ifs
  fields := fds
  methods := ms
  attributes := attrs
def plain (name : String) (sup : Option ClassId) : Class where
  name := name
  kind := .ordinary
  loader := none
  accessFlags := 33
  super := sup
  interfaces := #[]
  cf := none
  fields := #[]
  methods := #[]
  instanceTypes := #[]
  staticTypes := #[]
  resolved := #[]
  callSites := []
  init := .initialized
  statics := none
  mirror := none

def pool0 : Array CpInfo := pool [(5, u "<init>"), (0, u "()V"), (1, .class_ 10), (1, u "java/lang/Object")] 113

def k0m0 : Method := { name := "<init>", desc := "()V", sig := { parameters := [], returnType := none }, accessFlags := 1, code := none }
/-- java/lang/Object -/
def k0 : Class := { plain "java/lang/Object" none with
  accessFlags := 33
  interfaces := #[]
  cf := some (fileOf pool0 8 #[] #[{ accessFlags := 1, nameIndex := 5, descriptorIndex := 6, attributes := #[] }] 33 0 #[] #[])
  fields := #[]
  methods := #[k0m0]
  instanceTypes := #[]
  staticTypes := #[]
  resolved := Array.replicate 124 none
  statics := none }

def pool1 : Array CpInfo := pool [(2, .class_ 4), (1, u "java/lang/Object"), (0, u "<init>"), (0, u "()V"), (0, .integer 65535), (0, .methodref 9 10), (0, .class_ 11), (0, .nameAndType 12 13), (0, u "com/example/varianta/varianta/Field"), (0, u "isCode"), (0, u "(C)Z"), (0, .class_ 15), (0, u "com/example/varianta/varianta/FieldIsCodePinLaw"), (2, u "law"), (0, u "(I)Z")] 3

def k1m0 : Method := { name := "<init>", desc := "()V", sig := { parameters := [], returnType := none }, accessFlags := 1, code := none }
def k1c1 : Code := { maxStack := 2, maxLocals := 6, code := code, exceptionTable := #[], attributes := #[] }
def k1m1 : Method := { name := "law", desc := "(I)Z", sig := { parameters := [.int], returnType := some .boolean }, accessFlags := 9, code := some k1c1 }
/-- com/example/varianta/varianta/FieldIsCodePinLaw -/
def k1 : Class := { plain "com/example/varianta/varianta/FieldIsCodePinLaw" (some 0) with
  accessFlags := 49
  interfaces := #[]
  cf := some (fileOf pool1 14 #[] #[{ accessFlags := 1, nameIndex := 5, descriptorIndex := 6, attributes := #[] }, { accessFlags := 9, nameIndex := 18, descriptorIndex := 19, attributes := #[] }] 49 2 #[] #[])
  fields := #[]
  methods := #[k1m0, k1m1]
  instanceTypes := #[]
  staticTypes := #[]
  resolved := Array.replicate 23 none
  statics := none }

def pool2 : Array CpInfo := pool [(2, .class_ 4), (1, u "java/lang/Object"), (0, u "<init>"), (0, u "()V"), (0, .class_ 8), (0, u "java/lang/Record")] 13

def k2m0 : Method := { name := "<init>", desc := "()V", sig := { parameters := [], returnType := none }, accessFlags := 4, code := none }
/-- java/lang/Record -/
def k2 : Class := { plain "java/lang/Record" (some 0) with
  accessFlags := 1057
  interfaces := #[]
  cf := some (fileOf pool2 7 #[] #[{ accessFlags := 4, nameIndex := 5, descriptorIndex := 6, attributes := #[] }] 1057 2 #[] #[])
  fields := #[]
  methods := #[k2m0]
  instanceTypes := #[]
  staticTypes := #[]
  resolved := Array.replicate 22 none
  statics := none }

def pool3 : Array CpInfo := pool [(2, .class_ 4), (1, u "java/lang/Record"), (27, .class_ 34), (1, u "com/example/varianta/varianta/Field"), (0, u "tag"), (0, u "Ljava/lang/String;"), (2, u "indicator1"), (0, u "C"), (2, u "indicator2"), (2, u "subfields"), (0, u "Ljava/util/List;"), (8, .class_ 57), (0, u "com/example/varianta/varianta/Field$Subfield"), (34, u "isCode"), (0, u "(C)Z")] 47

def k3c0 : Code := { maxStack := 2, maxLocals := 1, code := prog_5_method_2_code, exceptionTable := #[], attributes := #[] }
def k3m0 : Method := { name := "isCode", desc := "(C)Z", sig := { parameters := [.char], returnType := some .boolean }, accessFlags := 8, code := some k3c0 }
/-- com/example/varianta/varianta/Field -/
def k3 : Class := { plain "com/example/varianta/varianta/Field" (some 2) with
  accessFlags := 48
  interfaces := #[]
  cf := some (fileOf pool3 32 #[.nestMembers #[56]] #[{ accessFlags := 8, nameIndex := 92, descriptorIndex := 93, attributes := #[] }] 48 2 #[] #[{ accessFlags := 18, nameIndex := 35, descriptorIndex := 36, attributes := #[] }, { accessFlags := 18, nameIndex := 39, descriptorIndex := 40, attributes := #[] }, { accessFlags := 18, nameIndex := 43, descriptorIndex := 40, attributes := #[] }, { accessFlags := 18, nameIndex := 46, descriptorIndex := 47, attributes := #[] }])
  fields := #[{ name := "tag", type := (.object "java/lang/String"), accessFlags := 18, slot := 0, constantValue := 0 }, { name := "indicator1", type := .char, accessFlags := 18, slot := 1, constantValue := 0 }, { name := "indicator2", type := .char, accessFlags := 18, slot := 2, constantValue := 0 }, { name := "subfields", type := (.object "java/util/List"), accessFlags := 18, slot := 3, constantValue := 0 }]
  methods := #[k3m0]
  instanceTypes := #[(.object "java/lang/String"), .char, .char, (.object "java/util/List")]
  staticTypes := #[]
  resolved := Array.replicate 141 none
  statics := none }

def pool4 : Array CpInfo := pool [(1, u "java/lang/Cloneable"), (0, .class_ 1), (0, u "java/lang/Object"), (0, .class_ 3)] 3

/-- java/lang/Cloneable -/
def k4 : Class := { plain "java/lang/Cloneable" (some 0) with
  accessFlags := 1537
  interfaces := #[]
  cf := some (fileOf pool4 2 #[] #[] 1537 4 #[] #[])
  fields := #[]
  methods := #[]
  instanceTypes := #[]
  staticTypes := #[]
  resolved := Array.replicate 8 none
  statics := none }

def pool5 : Array CpInfo := pool [(1, u "java/io/Serializable"), (0, .class_ 1), (0, u "java/lang/Object"), (0, .class_ 3)] 3

/-- java/io/Serializable -/
def k5 : Class := { plain "java/io/Serializable" (some 0) with
  accessFlags := 1537
  interfaces := #[]
  cf := some (fileOf pool5 2 #[] #[] 1537 4 #[] #[])
  fields := #[]
  methods := #[]
  instanceTypes := #[]
  staticTypes := #[]
  resolved := Array.replicate 8 none
  statics := none }

/-- the primitive byte -/
def k6 : Class := { plain "byte" none with kind := .primitive 'B', accessFlags := 0x411 }
/-- [B -/
def k7 : Class := { plain "[B" (some 0) with kind := .array 6 .byte, interfaces := #[4, 5], accessFlags := 1041 }

/-- the primitive int -/
def k8 : Class := { plain "int" none with kind := .primitive 'I', accessFlags := 0x411 }
/-- [I -/
def k9 : Class := { plain "[I" (some 0) with kind := .array 8 .int, interfaces := #[4, 5], accessFlags := 1041 }

def heap : Heap := #[]
def classes : Array Class := #[k0, k1, k2, k3, k4, k5, k6, k7, k8, k9]
def interned : List (Array UInt16 × Addr) := []
def slotsUsed : Nat := 0
def theMethod : MethodId := ⟨1, 1⟩
def args0 : Array Value := #[.int 5]
def aboutOver (below : List Frame) : State where
  vm := { classes := classes, interned := interned.toArray }
  heap := heap
  slotsUsed := slotsUsed
  threads := #[{ frames := .invoking theMethod args0 :: below }]
def below0 : List Frame := [.native { method := ⟨0, 0⟩, args := #[] }]
def about1 : State := aboutOver below0
def p0 : Program := .bare "" "" ""
def e0 : Env := launch0.env 0 0 0
theorem w_frames : about1.frames = Frame.invoking theMethod args0 :: below0 := rfl
set_option maxRecDepth 65536 in
theorem w_args : argsFit about1.vm theMethod args0 = true := by decide +kernel
set_option maxRecDepth 65536 in
theorem w_heap : heapFits about1 = true := by decide +kernel
set_option maxRecDepth 65536 in
theorem w_runnable : about1.curStatus? = some .runnable := by decide +kernel
set_option maxRecDepth 65536 in
theorem w_alone : about1.alone = true := by decide +kernel
set_option maxRecDepth 65536 in
theorem w_named : about1.methodNamed? x = some theMethod := by decide +kernel
set_option maxRecDepth 65536 in
theorem w_hears : about1.hears theMethod below0 = true := by decide +kernel
set_option maxRecDepth 65536 in
theorem w_ripe : about1.ripe theMethod args0 below0 = true := by decide +kernel
theorem w_running : about1.status = .running := rfl
set_option maxRecDepth 65536 in
theorem w_room : about1.hasRoom e0.platform room_1 = true :=
  launch0.hasRoom_least _ room_1 (by decide +kernel) (by decide +kernel) (by decide +kernel) (by decide +kernel) (by decide +kernel) (by decide +kernel)
theorem allAtoms_all (ts : List Jvm.Cond) (a : Array Jvm.Value) (st : Jvm.State) : (allAtoms ts).before a st = ts.all (fun c => c.before a st) := by
  induction ts with
  | nil => rfl
  | cons c t ih =>
    show (Jvm.Cond.and c (allAtoms t)).before a st = _
    rw [Jvm.Cond.before_and, ih, List.all_cons]
def words1 : List Jvm.Cond := Jvm.Cond.code x code maxLocals ret :: tables_1
/-- a 'code' word, met by the world's own term for the bytes: nothing is compared byte by byte -/
theorem code_word {y : MethodName} {bytes : ByteArray} {mx : Nat} {rt : Option FieldType} {a : Array Value} {s : State} {m : MethodId} {meth : Method} {c : Code} (h1 : s.methodNamed? y = some m) (h2 : s.vm.method? m = some meth) (h3 : meth.code = some c) (h4 : c.code = bytes)
    (h5 : (c.maxLocals == mx && c.exceptionTable.isEmpty && decide (c.maxStack ≤ mostOperands) && decide (meth.sig.returnType = rt) && !meth.locks && decide (parseMethodDescriptor y.desc = some meth.sig)) = true) : (Jvm.Cond.code y bytes mx rt).before a s = true := by
  simp only [Bool.and_eq_true, beq_iff_eq, Bool.not_eq_true', decide_eq_true_eq] at h5
  obtain ⟨⟨⟨⟨⟨g1, g2⟩, g3⟩, g4⟩, g5⟩, g6⟩ := h5
  simp [Cond.before, Cond.holds, Cond.value, h1, h2, h3, h4, g1, g2, g3, g4, g5, g6]
def isCode : Jvm.Cond → Bool
  | .code _ _ _ _ => true
  | _ => false
theorem all_split {L : List Jvm.Cond} {P : Jvm.Cond → Bool} (h1 : L.all (fun c => isCode c || P c) = true) (h2 : ∀ c ∈ L.filter isCode, P c = true) : L.all P = true := by
  refine List.all_eq_true.mpr fun c hc => ?_
  have h := List.all_eq_true.mp h1 c hc
  rcases Bool.eq_false_or_eq_true (isCode c) with hi | hi
  · exact h2 c (List.mem_filter.mpr ⟨hc, hi⟩)
  · simpa [hi] using h
set_option maxRecDepth 65536 in
theorem w_c0 : (Jvm.Cond.code x code maxLocals ret).before args0 about1 = true := code_word (m := ⟨1, 1⟩) (meth := k1m1) (c := k1c1) (by decide +kernel) rfl rfl rfl (by decide +kernel)
set_option maxRecDepth 65536 in
theorem w_c1 : (Jvm.Cond.code ({ cls := "com/example/varianta/varianta/Field", name := "isCode", desc := "(C)Z" } : Jvm.MethodName) prog_5_method_2_code (1 : Nat) (Option.some Jvm.ClassFile.FieldType.boolean)).before args0 about1 = true := code_word (m := ⟨3, 0⟩) (meth := k3m0) (c := k3c0) (by decide +kernel) rfl rfl rfl (by decide +kernel)
def codes1 : List Jvm.Cond := [Jvm.Cond.code x code maxLocals ret, Jvm.Cond.code ({ cls := "com/example/varianta/varianta/Field", name := "isCode", desc := "(C)Z" } : Jvm.MethodName) prog_5_method_2_code (1 : Nat) (Option.some Jvm.ClassFile.FieldType.boolean)]
set_option maxRecDepth 65536 in
theorem codes_eq : words1.filter isCode = codes1 := rfl
theorem w_codes : ∀ c ∈ words1.filter isCode, c.before args0 about1 = true := by
  rw [codes_eq]
  intro c hc
  simp only [codes1, List.mem_cons, List.not_mem_nil, or_false] at hc
  rcases hc with rfl | rfl
  · exact w_c0
  · exact w_c1
set_option maxRecDepth 65536 in
theorem w_t1 : words1.all (fun c => isCode c || c.before args0 about1) = true := by decide +kernel
theorem w_tables : (allAtoms (Jvm.Cond.code x code maxLocals ret :: tables_1)).before args0 about1 = true := by
  rw [allAtoms_all]
  show words1.all (fun c => c.before args0 about1) = true
  refine all_split ?_ w_codes
  rw [w_t1]
set_option maxRecDepth 65536 in
theorem w_case : (Jvm.Cond.and given_1 narrow_1).before args0 about1 = true := by decide +kernel
theorem w_applies : (headSpec (Jvm.Cond.code x code maxLocals ret :: tables_1) room_1).applies x e0.platform about1 = true :=
  (Spec.applies_iff w_frames).mpr ⟨w_running, w_runnable, w_alone, w_named, w_hears, w_ripe, w_room, w_tables⟩
theorem atStart : AtStart classFile x code maxLocals ret World_1 tables_1 room_1 Calls_1 rest_1 Pre_1 launch0 p0 e0 about1 theMethod args0 below0 :=
  ⟨lists_1, trivial, launch0.admits_env _ _ _, launch0.least_env, fairChoices_fair.cas, fairChoices_fair.clock, w_frames, w_args, w_heap, w_applies, trivial, trivial, w_case⟩
end start1
theorem witness_1 : WitnessClaimed_1 := ⟨start1.p0, start1.e0, start1.about1, start1.theMethod, start1.args0, start1.below0, start1.atStart⟩
end Jvm.Pilot.@@N@@
