import JvmDerived
import JvmDerived.Pilot.@@N@@Statement
import JvmDerived.Pilot.@@N@@Code
set_option linter.unusedVariables false
set_option linter.unusedSimpArgs false
namespace Jvm.Pilot.@@N@@
open Jvm Jvm.ClassFile Sem Op Lib Jvm.Free Jvm.Stand Jvm.LawKit Jvm.RoadKit Bundle Jvm.Pilot.@@N@@.Jvm.D
/-- the run comes from S to an end of which Q holds -/
def own_Goes (p : Program) (e : Env) (below : List Frame) (S : State) (Q : Outcome → State → Prop) : Prop := ∃ s₂ o, Steps p.tables e below S s₂ ∧ s₂.status = .running ∧ Ended s₂ below o ∧ Q o s₂
theorem own_go {p : Program} {e : Env} {below : List Frame} {S N : State} {Q : Outcome → State → Prop} (h : ∀ t, Steps p.tables e below N t → Steps p.tables e below S t) (k : own_Goes p e below N Q) : own_Goes p e below S Q := by
  obtain ⟨s₂, o, h1, h2⟩ := k; exact ⟨s₂, o, h _ h1, h2⟩
/-- the model's own selection picks a private method itself -/
theorem own_selp {y : MethodName} {s : State} {args : Array Value} {n : Nat} (hy : y.cls ≠ "java/lang/invoke/MethodHandle" ∧ y.cls ≠ "java/lang/invoke/VarHandle") (hins : (Cond.instantiable y.cls n).before args s = true) (hpriv : (Cond.privateMethod y).before args s = true) (hinst : (Cond.instanceMethod y).before args s = true) : (Cond.selects y.cls y y).before args s = true := by
  obtain ⟨c, k, hc, hk, -, hniab, -, -⟩ := Cond.instantiable_spec hins
  have hni : k.isInterface = false := (Bool.or_eq_false_iff.mp hniab).1
  obtain ⟨mk, methM, hnamed, hmethM, -, -⟩ := Cond.instanceMethod_spec hinst
  have hfound : s.methodFound? y.cls y.name y.desc = some mk := State.methodFound?_of_named hnamed hy
  have hcls : mk.cls = c := Option.some.inj ((findClass_of_methodNamed hnamed).symm.trans hc)
  have hsel : selectMethod {} s.vm c mk = .method mk := selectMethod_private hmethM (Cond.privateMethod_at hpriv mk methM hnamed hmethM)
  simp only [Cond.before, Cond.holds, Cond.value, hc, hfound, hnamed, hsel, hcls, hk]
  simp; exact hni
/-- a place where roads meet: walked once, for whatever the roads bring -/
theorem own_join {p : Program} {e : Env} {below : List Frame} {S : State} {Q : Outcome → State → Prop} {α : Type} {P : α → Prop} {F : α → State} (h1 : ∀ z, P z → own_Goes p e below (F z) Q) (h2 : (∀ z, P z → own_Goes p e below (F z) Q) → own_Goes p e below S Q) : own_Goes p e below S Q := h2 h1
theorem own_elem {t : Term} {s : State} {args : Array Value} {ac : Addr} {cl : Cell} {j : Nat} (ei : t.eval args s none [j] s = some (.ref ac)) (hnn : ¬ j.toInt32 < 0) (hat : s.arrayAt? ac = some cl) (hback : j.toInt32.toNatClampNeg = j) : (Term.elem t (.index 0)).eval args s none [j] s = cl.slots[j]? := by
  simp [Term.eval, ei, hnn, hat, hback]
theorem own_cache {s : State} {args : Array Value} (w : ∀ d ∈ jdkStatics_1, d.before args s = true) : ∃ (ac : Addr) (cl : Cell), Sta s s.heap "java/lang/Long$LongCache" "cache" "[Ljava/lang/Long;" (.ref ac) ∧ Arr s s.heap ac cl (.object "java/lang/Long") ∧ cl.slots.size = 256 ∧ ∀ j, j < 256 → ∃ y, cl.slots[j]? = some (.ref y) ∧ Exa s s.heap y "java/lang/Long" := by
  have w1 := w _ (List.mem_of_getElem? (i := 1) rfl)
  have w2 := w _ (List.mem_of_getElem? (i := 2) rfl)
  have w3 := w _ (List.mem_of_getElem? (i := 3) rfl)
  have w4 := w _ (List.mem_of_getElem? (i := 4) rfl)
  have w5 := w _ (List.mem_of_getElem? (i := 5) rfl)
  obtain ⟨ac, c', cell0, k0, ev, -⟩ := Cond.exactly_spec w3
  have S := Sta.start ev (Or.inl w1)
  obtain ⟨cl, A⟩ := Arr.start ev (Cond.before_iff.mp w2)
  have hat := IntBox.arrayAt_of A.1 A.2.1 A.2.2
  obtain ⟨hsz, hsize⟩ := IntBox.length_fwd w4 ev A.1 A.2.1 A.2.2
  have hsz256 : cl.slots.size = 256 := by
    have e : (cl.slots.size.toInt32).toInt = cl.slots.size := len_toInt (by omega)
    rw [hsize] at e
    have : ((256 : Int32)).toInt = 256 := by decide
    omega
  have hall := Cond.all_elim ev hat (Cond.before_iff.mp w5)
  refine ⟨ac, cl, S, A, hsz256, fun j hj => ?_⟩
  obtain ⟨hx, -⟩ := and_e (hall j (by omega))
  have ei : (Term.static "java/lang/Long$LongCache" "cache" "[Ljava/lang/Long;").eval args s none [j] s = some (.ref ac) := ev
  obtain ⟨hnn, hback⟩ := IntBox.place_nonneg j hj
  have ee : (Term.elem (Term.static "java/lang/Long$LongCache" "cache" "[Ljava/lang/Long;") (.index 0)).eval args s none [j] s = cl.slots[j]? := own_elem ei hnn hat hback
  obtain ⟨y, cB, cellB, kB, ey, -⟩ := Cond.exactly_spec (show (Cond.exactly (Term.elem (Term.static "java/lang/Long$LongCache" "cache" "[Ljava/lang/Long;") (.index 0)) "java/lang/Long").holds args s none s [j] = true by simp [Cond.holds, hx])
  exact ⟨y, ee.symm.trans ey, exa_at ey hx⟩
theorem own_notmv {Z : State} {a0 : Array Value} (hw : ∀ d ∈ tables_1, d.before a0 Z = true) : ∃ c t, Z.vm.findClass "java/lang/Long" = some c ∧ Z.vm.findClass "com/example/remnant/remnant/core/MultipleValues" = some t ∧ Z.vm.assignable c t = false := by
  obtain ⟨t, kt, g1, g2, g3, g4, -⟩ := Cond.instantiable_spec (hw _ (List.mem_of_getElem? (i := 32) rfl))
  have g5 : kt.isInterface = false := (Bool.or_eq_false_iff.mp g4).1
  have n0 : NS Z "java/lang/Object" "com/example/remnant/remnant/core/MultipleValues" := by
    obtain ⟨c, k, h1, h2, h3, -, -⟩ := Cond.noSuperclass_spec (hw _ (List.mem_of_getElem? (i := 47) rfl))
    have ne := ids_ne h1 g1 (by decide)
    refine ⟨c, t, h1, g1, fun fuel => ?_⟩
    cases fuel with
    | zero => rfl
    | succ f => simp [Vm.isSubclassAux, ne, h2, h3]
  have n1 := NS.step (hw _ (List.mem_of_getElem? (i := 46) rfl)) n0 (by decide)
  have n2 := NS.step (hw _ (List.mem_of_getElem? (i := 45) rfl)) n1 (by decide)
  obtain ⟨c, t', h0, g0, n3⟩ := n2
  cases g1.symm.trans g0
  obtain ⟨p, k, kp, h1, h2, h3, h4, h5, -, h7⟩ := Cond.superclass_spec h0 (hw _ (List.mem_of_getElem? (i := 45) rfl))
  have ne := ids_ne h0 g1 (by decide)
  refine ⟨c, t, h0, g1, ?_⟩
  show Z.vm.assignableAux (255 + 1) c t = false
  simp [Vm.assignableAux, ne, h2, g2, h5, g3, g5, Vm.isSubclass, n3]
theorem own_n (k : Int32) : k &&& (3 : Int32) = 0 ∨ k &&& (3 : Int32) = 1 ∨ k &&& (3 : Int32) = 2 ∨ k &&& (3 : Int32) = 3 := by
  have h := c_and k 3 (by decide)
  have e0 : (0 : Int32).toInt = 0 := by decide
  have e1 : (1 : Int32).toInt = 1 := by decide
  have e2 : (2 : Int32).toInt = 2 := by decide
  have e3 : (3 : Int32).toInt = 3 := by decide
  simp only [← Int32.toInt_inj]
  omega
theorem own_pn3 : plainName "java/lang/Number" = true := by first | (simp [plainName, overriddenIn]; done) | decide +kernel
theorem own_ef_own_numM (m : MethodId) (a1 : Addr) : entryFrame m #[(.ref a1)] 1 = (mkF m 0 #[.val (.ref a1)] []) := by first | (simp [entryFrame, mkF, argsToLocals, Value.category]; done) | rfl
def Q_own_numM (Z : State) (a1 : Addr) (h0 : Heap) (n0 : Nat) (v : Option Value) (h : Heap) (L : List Loc) : Prop := v = none ∧ Fr n0 L ∧ h = h0
def G_own_numM (Z : State) (a1 : Addr) (h0 : Heap) (n0 : Nat) (s : State) : Outcome → State → Prop := fun o U' => ∃ v L, o = .returned v ∧ Q_own_numM Z a1 h0 n0 v U'.heap L ∧ FrameEnd s o U' L ({ frames := 1, cells := 0, slots := 0, locals := 12 } : Room).cells ({ frames := 1, cells := 0, slots := 0, locals := 12 } : Room).slots
theorem own_d3_0 : decode jdk_18_method_1_code 0 = .ok (.aload_n 0, 1) := by decide +kernel
theorem own_d3_1 : decode jdk_18_method_1_code 1 = .ok (.invokespecial 1, 3) := by decide +kernel
theorem own_d3_4 : decode jdk_18_method_1_code 4 = .ok (.return_, 1) := by decide +kernel
set_option maxRecDepth 65536 in
set_option maxHeartbeats 40000000 in
theorem own_numM (l : Launch) (Z : State) (a0 : Array Value) (hw : ∀ d ∈ tables_1, d.before a0 Z = true) (ws : List Jvm.Cond) (a1 : Addr) (h0 : Heap) (n0 : Nat) (Z0 : n0 ≤ h0.size)  :
    MetFree l (⟨"java/lang/Number", "<init>", "()V"⟩ : MethodName) (head1 (Jvm.Cond.code (⟨"java/lang/Number", "<init>", "()V"⟩ : MethodName) jdk_18_method_1_code 1 none :: ws) ({ frames := 1, cells := 0, slots := 0, locals := 12 } : Room)) (fun a U => a = #[(.ref a1)] ∧ Z.Warmed39 U.vm ∧ U.heap = h0) (fun _ _ _ _ _ => True) (fun _ U o U' => ∃ v L, o = .returned v ∧ Q_own_numM Z a1 h0 n0 v U'.heap L ∧ FrameEnd U o U' L ({ frames := 1, cells := 0, slots := 0, locals := 12 } : Room).cells ({ frames := 1, cells := 0, slots := 0, locals := 12 } : Room).slots) := by
  refine MetFree.of_bodySF (plainFor_of_name own_pn3) hisR ?_
  intro p e s m args below meth c s₁ Bd hml0 hP hK
  obtain ⟨rfl, hZ, hh⟩ := hP
  have hx := Bd.exec
  have hby := Bd.bytes
  have hml : c.maxLocals = 1 := hml0
  have hown : s.vm.findClass "java/lang/Number" = some m.cls := findClass_of_methodNamed Bd.named
  have hnm := (name_of_methodNamed Bd.named Bd.method).1
  have X0 : Stand p l e ({ frames := 1, cells := 0, slots := 0, locals := 12 } : Room) s m #[(.ref a1)] below meth c s₁ [] 0 0 := Stand.of_body Bd
  have e0 : s₁.heap = h0 := by rw [← hh, Bd.state]; rfl
  have N0 := Fr.nil n0
  refine own_go (S := s₁.setTop (entryFrame m #[(.ref a1)] 1)) (Q := (G_own_numM Z a1 h0 n0 s)) (fun _ k_ => castTop (own_ef_own_numM m a1) k_) ?_
  show own_Goes p e below (s₁.setTop (mkF m 0 #[.val (.ref a1)] [])) (G_own_numM Z a1 h0 n0 s)
  refine own_go (fun _ k_ => XS.aloadN X0.here hx rfl (hb hby own_d3_0) rfl rfl k_) ?_
  show own_Goes p e below (s₁.setTop (mkF m 1 #[.val (.ref a1)] [(.ref a1)])) (G_own_numM Z a1 h0 n0 s)
  obtain ⟨T1, X1, e1, st1⟩ := initO X0 hx hZ hown (hw _ (List.mem_of_getElem? (i := 20) rfl)) (hw _ (List.mem_of_getElem? (i := 21) rfl)) (hw _ (List.mem_of_getElem? (i := 22) rfl)) e0 (g := (mkF m 1 #[.val (.ref a1)] [(.ref a1)])) rfl (by rw [hml]; rfl) rfl (hb hby own_d3_1) (by decide) (W := 0) (by show 2 * 0 + _ ≤ _; exact Nat.le_of_eq rfl) (by decide)
  refine own_go st1 ?_
  show own_Goes p e below (T1.setTop (mkF m 4 #[.val (.ref a1)] [])) (G_own_numM Z a1 h0 n0 s)
  obtain ⟨fs, hr, hrun, hended, hW, hsame⟩ := X1.leave (v := none) (fun _ => rfl) Bd.notSynchronized
  refine ⟨_, _, X1.returnOut hx Bd.returns (hb hby own_d3_4) hr, hrun, hended, _, _, rfl, ?_, ⟨_, rfl⟩, hW, hsame.mono (by decide) (by decide)⟩
  show Q_own_numM Z a1 h0 n0 _ T1.heap _
  rw [e1]
  exact ⟨rfl, N0, rfl⟩
theorem own_pn2 : plainName "java/lang/Long" = true := by first | (simp [plainName, overriddenIn]; done) | decide +kernel
theorem own_ef_own_liniM (m : MethodId) (a1 : Addr) (p2 : Int64) : entryFrame m #[(.ref a1), (.long p2)] 3 = (mkF m 0 #[.val (.ref a1), .val (.long p2), .second] []) := by first | (simp [entryFrame, mkF, argsToLocals, Value.category]; done) | rfl
def Q_own_liniM (Z : State) (a1 : Addr) (p2 : Int64) (h0 : Heap) (n0 : Nat) (v : Option Value) (h : Heap) (L : List Loc) : Prop := v = none ∧ Fr n0 L ∧ Keep h0 h [a1] ∧ Fld Z h a1 "java/lang/Long" "value" "J" (.long p2)
def G_own_liniM (Z : State) (a1 : Addr) (p2 : Int64) (h0 : Heap) (n0 : Nat) (s : State) : Outcome → State → Prop := fun o U' => ∃ v L, o = .returned v ∧ Q_own_liniM Z a1 p2 h0 n0 v U'.heap L ∧ FrameEnd s o U' L ({ frames := 2, cells := 0, slots := 0, locals := 24 } : Room).cells ({ frames := 2, cells := 0, slots := 0, locals := 24 } : Room).slots
theorem own_d2_0 : decode jdk_35_method_26_code 0 = .ok (.aload_n 0, 1) := by decide +kernel
theorem own_d2_1 : decode jdk_35_method_26_code 1 = .ok (.invokespecial 270, 3) := by decide +kernel
theorem own_pd0 : parseMethodDescriptor "()V" = some ⟨[], none⟩ := by decide +kernel
theorem own_d2_4 : decode jdk_35_method_26_code 4 = .ok (.aload_n 0, 1) := by decide +kernel
theorem own_d2_5 : decode jdk_35_method_26_code 5 = .ok (.lload_n 1, 1) := by decide +kernel
theorem own_d2_6 : decode jdk_35_method_26_code 6 = .ok (.putfield 273, 3) := by decide +kernel
theorem own_d2_9 : decode jdk_35_method_26_code 9 = .ok (.return_, 1) := by decide +kernel
set_option maxRecDepth 65536 in
set_option maxHeartbeats 40000000 in
theorem own_liniM (l : Launch) (Z : State) (a0 : Array Value) (hw : ∀ d ∈ tables_1, d.before a0 Z = true) (ws : List Jvm.Cond) (a1 : Addr) (p2 : Int64) (h0 : Heap) (n0 : Nat) (Z0 : n0 ≤ h0.size) (E_a1 : Exa Z h0 a1 "java/lang/Long") (g_a1 : n0 ≤ a1) (F_f : Fld Z h0 a1 "java/lang/Long" "value" "J" (.long (0 : Int64))) :
    MetFree l (⟨"java/lang/Long", "<init>", "(J)V"⟩ : MethodName) (head1 (Jvm.Cond.code (⟨"java/lang/Long", "<init>", "(J)V"⟩ : MethodName) jdk_35_method_26_code 3 none :: ws) ({ frames := 2, cells := 0, slots := 0, locals := 24 } : Room)) (fun a U => a = #[(.ref a1), (.long p2)] ∧ Z.Warmed39 U.vm ∧ U.heap = h0) (fun _ _ _ _ _ => True) (fun _ U o U' => ∃ v L, o = .returned v ∧ Q_own_liniM Z a1 p2 h0 n0 v U'.heap L ∧ FrameEnd U o U' L ({ frames := 2, cells := 0, slots := 0, locals := 24 } : Room).cells ({ frames := 2, cells := 0, slots := 0, locals := 24 } : Room).slots) := by
  refine MetFree.of_bodySF (plainFor_of_name own_pn2) hisR ?_
  intro p e s m args below meth c s₁ Bd hml0 hP hK
  obtain ⟨rfl, hZ, hh⟩ := hP
  have hx := Bd.exec
  have hby := Bd.bytes
  have hml : c.maxLocals = 3 := hml0
  have hown : s.vm.findClass "java/lang/Long" = some m.cls := findClass_of_methodNamed Bd.named
  have hnm := (name_of_methodNamed Bd.named Bd.method).1
  have X0 : Stand p l e ({ frames := 2, cells := 0, slots := 0, locals := 24 } : Room) s m #[(.ref a1), (.long p2)] below meth c s₁ [] 0 0 := Stand.of_body Bd
  have e0 : s₁.heap = h0 := by rw [← hh, Bd.state]; rfl
  have N0 := Fr.nil n0
  refine own_go (S := s₁.setTop (entryFrame m #[(.ref a1), (.long p2)] 3)) (Q := (G_own_liniM Z a1 p2 h0 n0 s)) (fun _ k_ => castTop (own_ef_own_liniM m a1 p2) k_) ?_
  show own_Goes p e below (s₁.setTop (mkF m 0 #[.val (.ref a1), .val (.long p2), .second] [])) (G_own_liniM Z a1 p2 h0 n0 s)
  have K2 : Keep h0 h0 [a1] := Keep.refl h0 [a1]
  refine own_go (fun _ k_ => XS.aloadN X0.here hx rfl (hb hby own_d2_0) rfl rfl k_) ?_
  show own_Goes p e below (s₁.setTop (mkF m 1 #[.val (.ref a1), .val (.long p2), .second] [(.ref a1)])) (G_own_liniM Z a1 p2 h0 n0 s)
  obtain ⟨_, _, ⟨T3, L3, k3, n3⟩, -, X3, ⟨Lc3, hQ3, l3, y3, z3⟩, st3⟩ := X0.specialBack hx (y := (⟨"java/lang/Number", "<init>", "()V"⟩ : MethodName)) rfl hown (mvT hZ (hw _ (List.mem_of_getElem? (i := 14) rfl))) (mvT hZ (hw _ (List.mem_of_getElem? (i := 15) rfl))) (mvT hZ (hw _ (List.mem_of_getElem? (i := 19) rfl))) (by decide) (backOf (W := 0) (own_numM l Z a0 hw [] a1 h0 n0 Z0 ) hZ (hw _ (List.mem_of_getElem? (i := 19) rfl)) (hw _ (List.mem_of_getElem? (i := 18) rfl)) (by decide) (by decide)) (g := (mkF m 1 #[.val (.ref a1), .val (.long p2), .second] [(.ref a1)])) rfl (by rw [hml]; rfl) (Steps.refl _) (a := a1) (argsL := []) (rest := []) (lenOf own_pd0 rfl) rfl (by show 2 * 0 + _ ≤ _; exact Nat.le_of_eq rfl) (hb hby own_d2_1) (fun _ _ => ⟨rfl, e0, (by decide : 0 + 0 ≤ _), (by decide : 0 + 0 ≤ _)⟩)
  dsimp only [Pt.U, Pt.locs, Pt.cells, Pt.slots] at X3 l3 y3 z3 st3 hQ3
  subst l3 y3 z3
  obtain ⟨rfl, N3q, e3⟩ := hQ3
  have N3 := Fr.app N0 N3q
  refine own_go (fun _ k_ => st3.trans k_) ?_
  show own_Goes p e below (T3.setTop (mkF m 4 #[.val (.ref a1), .val (.long p2), .second] [])) (G_own_liniM Z a1 p2 h0 n0 s)
  refine own_go (fun _ k_ => XS.aloadN X3.here hx rfl (hb hby own_d2_4) rfl rfl k_) ?_
  show own_Goes p e below (T3.setTop (mkF m 5 #[.val (.ref a1), .val (.long p2), .second] [(.ref a1)])) (G_own_liniM Z a1 p2 h0 n0 s)
  refine own_go (fun _ k_ => XS.lloadN X3.here hx rfl (hb hby own_d2_5) rfl k_) ?_
  show own_Goes p e below (T3.setTop (mkF m 6 #[.val (.ref a1), .val (.long p2), .second] [(.long p2), (.ref a1)])) (G_own_liniM Z a1 p2 h0 n0 s)
  obtain ⟨T4, h4, X4, e4, W4, st4⟩ := putF X3 hx hZ hown (host := "") (Or.inl (hw _ (List.mem_of_getElem? (i := 23) rfl))) Via.refl e3 F_f E_a1 (Or.inr ⟨(hw _ (List.mem_of_getElem? (i := 24) rfl)), rfl, hnm⟩) (hw _ (List.mem_of_getElem? (i := 9) rfl)) (ty := .long) (by decide) rfl rfl (g := (mkF m 6 #[.val (.ref a1), .val (.long p2), .second] [(.long p2), (.ref a1)])) rfl rfl (hb hby own_d2_6)
  have E_5 := E_a1.wr W4
  have F_6 := F_f.same W4
  have N4 := Fr.snoc X4 N3 g_a1
  have Z4 : n0 ≤ h4.size := by rw [W4.size]; exact Z0
  have K4 : Keep h0 h4 [a1] := K2.wr W4 (Or.inl (List.mem_of_getElem? (i := 0) rfl))
  refine own_go st4 ?_
  show own_Goes p e below (T4.setTop (mkF m 9 #[.val (.ref a1), .val (.long p2), .second] [])) (G_own_liniM Z a1 p2 h0 n0 s)
  obtain ⟨fs, hr, hrun, hended, hW, hsame⟩ := X4.leave (v := none) (fun _ => rfl) Bd.notSynchronized
  refine ⟨_, _, X4.returnOut hx Bd.returns (hb hby own_d2_9) hr, hrun, hended, _, _, rfl, ?_, ⟨_, rfl⟩, hW, hsame.mono (by decide) (by decide)⟩
  show Q_own_liniM Z a1 p2 h0 n0 _ T4.heap _
  rw [e4]
  exact ⟨rfl, N4, K4, F_6⟩
theorem own_pn6 : plainName "com/example/remnant/remnant/core/MultipleValues" = true := by first | (simp [plainName, overriddenIn]; done) | decide +kernel
theorem own_ef_own_miniM (m : MethodId) (a1 : Addr) (p2 : Addr) : entryFrame m #[(.ref a1), (.ref p2)] 2 = (mkF m 0 #[.val (.ref a1), .val (.ref p2)] []) := by first | (simp [entryFrame, mkF, argsToLocals, Value.category]; done) | rfl
def Q_own_miniM (Z : State) (a1 : Addr) (p2 : Addr) (h0 : Heap) (n0 : Nat) (v : Option Value) (h : Heap) (L : List Loc) : Prop := v = none ∧ Fr n0 L ∧ Keep h0 h [a1] ∧ Fld Z h a1 "com/example/remnant/remnant/core/MultipleValues" "values" "[Ljava/lang/Object;" (.ref p2)
def G_own_miniM (Z : State) (a1 : Addr) (p2 : Addr) (h0 : Heap) (n0 : Nat) (s : State) : Outcome → State → Prop := fun o U' => ∃ v L, o = .returned v ∧ Q_own_miniM Z a1 p2 h0 n0 v U'.heap L ∧ FrameEnd s o U' L ({ frames := 1, cells := 0, slots := 0, locals := 12 } : Room).cells ({ frames := 1, cells := 0, slots := 0, locals := 12 } : Room).slots
theorem own_d6_0 : decode prog_105_method_1_code 0 = .ok (.aload_n 0, 1) := by decide +kernel
theorem own_d6_1 : decode prog_105_method_1_code 1 = .ok (.invokespecial 1, 3) := by decide +kernel
theorem own_d6_4 : decode prog_105_method_1_code 4 = .ok (.aload_n 0, 1) := by decide +kernel
theorem own_d6_5 : decode prog_105_method_1_code 5 = .ok (.aload_n 1, 1) := by decide +kernel
theorem own_d6_6 : decode prog_105_method_1_code 6 = .ok (.putfield 7, 3) := by decide +kernel
theorem own_d6_9 : decode prog_105_method_1_code 9 = .ok (.return_, 1) := by decide +kernel
set_option maxRecDepth 65536 in
set_option maxHeartbeats 40000000 in
theorem own_miniM (l : Launch) (Z : State) (a0 : Array Value) (hw : ∀ d ∈ tables_1, d.before a0 Z = true) (ws : List Jvm.Cond) (a1 : Addr) (p2 : Addr) (h0 : Heap) (n0 : Nat) (Z0 : n0 ≤ h0.size) (E_a1 : Exa Z h0 a1 "com/example/remnant/remnant/core/MultipleValues") (g_a1 : n0 ≤ a1) (F_f : Fld Z h0 a1 "com/example/remnant/remnant/core/MultipleValues" "values" "[Ljava/lang/Object;" .null) :
    MetFree l (⟨"com/example/remnant/remnant/core/MultipleValues", "<init>", "([Ljava/lang/Object;)V"⟩ : MethodName) (head1 (Jvm.Cond.code (⟨"com/example/remnant/remnant/core/MultipleValues", "<init>", "([Ljava/lang/Object;)V"⟩ : MethodName) prog_105_method_1_code 2 none :: ws) ({ frames := 1, cells := 0, slots := 0, locals := 12 } : Room)) (fun a U => a = #[(.ref a1), (.ref p2)] ∧ Z.Warmed39 U.vm ∧ U.heap = h0) (fun _ _ _ _ _ => True) (fun _ U o U' => ∃ v L, o = .returned v ∧ Q_own_miniM Z a1 p2 h0 n0 v U'.heap L ∧ FrameEnd U o U' L ({ frames := 1, cells := 0, slots := 0, locals := 12 } : Room).cells ({ frames := 1, cells := 0, slots := 0, locals := 12 } : Room).slots) := by
  refine MetFree.of_bodySF (plainFor_of_name own_pn6) hisR ?_
  intro p e s m args below meth c s₁ Bd hml0 hP hK
  obtain ⟨rfl, hZ, hh⟩ := hP
  have hx := Bd.exec
  have hby := Bd.bytes
  have hml : c.maxLocals = 2 := hml0
  have hown : s.vm.findClass "com/example/remnant/remnant/core/MultipleValues" = some m.cls := findClass_of_methodNamed Bd.named
  have hnm := (name_of_methodNamed Bd.named Bd.method).1
  have X0 : Stand p l e ({ frames := 1, cells := 0, slots := 0, locals := 12 } : Room) s m #[(.ref a1), (.ref p2)] below meth c s₁ [] 0 0 := Stand.of_body Bd
  have e0 : s₁.heap = h0 := by rw [← hh, Bd.state]; rfl
  have N0 := Fr.nil n0
  refine own_go (S := s₁.setTop (entryFrame m #[(.ref a1), (.ref p2)] 2)) (Q := (G_own_miniM Z a1 p2 h0 n0 s)) (fun _ k_ => castTop (own_ef_own_miniM m a1 p2) k_) ?_
  show own_Goes p e below (s₁.setTop (mkF m 0 #[.val (.ref a1), .val (.ref p2)] [])) (G_own_miniM Z a1 p2 h0 n0 s)
  have K7 : Keep h0 h0 [a1] := Keep.refl h0 [a1]
  refine own_go (fun _ k_ => XS.aloadN X0.here hx rfl (hb hby own_d6_0) rfl rfl k_) ?_
  show own_Goes p e below (s₁.setTop (mkF m 1 #[.val (.ref a1), .val (.ref p2)] [(.ref a1)])) (G_own_miniM Z a1 p2 h0 n0 s)
  obtain ⟨T8, X8, e8, st8⟩ := initO X0 hx hZ hown (hw _ (List.mem_of_getElem? (i := 36) rfl)) (hw _ (List.mem_of_getElem? (i := 21) rfl)) (hw _ (List.mem_of_getElem? (i := 22) rfl)) e0 (g := (mkF m 1 #[.val (.ref a1), .val (.ref p2)] [(.ref a1)])) rfl (by rw [hml]; rfl) rfl (hb hby own_d6_1) (by decide) (W := 0) (by show 2 * 0 + _ ≤ _; exact Nat.le_of_eq rfl) (by decide)
  refine own_go st8 ?_
  show own_Goes p e below (T8.setTop (mkF m 4 #[.val (.ref a1), .val (.ref p2)] [])) (G_own_miniM Z a1 p2 h0 n0 s)
  refine own_go (fun _ k_ => XS.aloadN X8.here hx rfl (hb hby own_d6_4) rfl rfl k_) ?_
  show own_Goes p e below (T8.setTop (mkF m 5 #[.val (.ref a1), .val (.ref p2)] [(.ref a1)])) (G_own_miniM Z a1 p2 h0 n0 s)
  refine own_go (fun _ k_ => XS.aloadN X8.here hx rfl (hb hby own_d6_5) rfl rfl k_) ?_
  show own_Goes p e below (T8.setTop (mkF m 6 #[.val (.ref a1), .val (.ref p2)] [(.ref p2), (.ref a1)])) (G_own_miniM Z a1 p2 h0 n0 s)
  obtain ⟨T9, h9, X9, e9, W9, st9⟩ := putF X8 hx hZ hown (host := "") (Or.inl (hw _ (List.mem_of_getElem? (i := 37) rfl))) Via.refl e8 F_f E_a1 (Or.inr ⟨(hw _ (List.mem_of_getElem? (i := 38) rfl)), rfl, hnm⟩) (hw _ (List.mem_of_getElem? (i := 32) rfl)) (ty := (.array (.object "java/lang/Object"))) (by decide) rfl rfl (g := (mkF m 6 #[.val (.ref a1), .val (.ref p2)] [(.ref p2), (.ref a1)])) rfl rfl (hb hby own_d6_6)
  have E_10 := E_a1.wr W9
  have F_11 := F_f.same W9
  have N9 := Fr.snoc X9 N0 g_a1
  have Z9 : n0 ≤ h9.size := by rw [W9.size]; exact Z0
  have K9 : Keep h0 h9 [a1] := K7.wr W9 (Or.inl (List.mem_of_getElem? (i := 0) rfl))
  refine own_go st9 ?_
  show own_Goes p e below (T9.setTop (mkF m 9 #[.val (.ref a1), .val (.ref p2)] [])) (G_own_miniM Z a1 p2 h0 n0 s)
  obtain ⟨fs, hr, hrun, hended, hW, hsame⟩ := X9.leave (v := none) (fun _ => rfl) Bd.notSynchronized
  refine ⟨_, _, X9.returnOut hx Bd.returns (hb hby own_d6_9) hr, hrun, hended, _, _, rfl, ?_, ⟨_, rfl⟩, hW, hsame.mono (by decide) (by decide)⟩
  show Q_own_miniM Z a1 p2 h0 n0 _ T9.heap _
  rw [e9]
  exact ⟨rfl, N9, K9, F_11⟩
theorem own_pn1 : plainName "java/lang/Long" = true := by first | (simp [plainName, overriddenIn]; done) | decide +kernel
theorem own_ef_own_voM (m : MethodId) (p1 : Int64) : entryFrame m #[(.long p1)] 3 = (mkF m 0 #[.val (.long p1), .second, .unset] []) := by first | (simp [entryFrame, mkF, argsToLocals, Value.category]; done) | rfl
def Q_own_voM (Z : State) (p1 : Int64) (ac : Addr) (cl : Cell) (h0 : Heap) (n0 : Nat) (v : Option Value) (h : Heap) (L : List Loc) : Prop := (∃ a : Addr, v = some (.ref a) ∧ Exa Z h a "java/lang/Long") ∧ Fr n0 L ∧ Keep h0 h []
def G_own_voM (Z : State) (p1 : Int64) (ac : Addr) (cl : Cell) (h0 : Heap) (n0 : Nat) (s : State) : Outcome → State → Prop := fun o U' => ∃ v L, o = .returned v ∧ Q_own_voM Z p1 ac cl h0 n0 v U'.heap L ∧ FrameEnd s o U' L ({ frames := 3, cells := 1, slots := 1, locals := 39 } : Room).cells ({ frames := 3, cells := 1, slots := 1, locals := 39 } : Room).slots
theorem own_d1_0 : decode jdk_35_method_24_code 0 = .ok (.sipush 128, 3) := by decide +kernel
theorem own_d1_3 : decode jdk_35_method_24_code 3 = .ok (.istore_n 2, 1) := by decide +kernel
theorem own_d1_4 : decode jdk_35_method_24_code 4 = .ok (.lload_n 0, 1) := by decide +kernel
theorem own_d1_5 : decode jdk_35_method_24_code 5 = .ok (.ldc2_w 230, 3) := by decide +kernel
theorem own_d1_8 : decode jdk_35_method_24_code 8 = .ok (.lcmp, 1) := by decide +kernel
theorem own_d1_9 : decode jdk_35_method_24_code 9 = .ok (.ifCond .lt 22, 3) := by decide +kernel
theorem own_d1_31 : decode jdk_35_method_24_code 31 = .ok (.new 1, 3) := by decide +kernel
theorem own_d1_34 : decode jdk_35_method_24_code 34 = .ok (.dup, 1) := by decide +kernel
theorem own_d1_35 : decode jdk_35_method_24_code 35 = .ok (.lload_n 0, 1) := by decide +kernel
theorem own_d1_36 : decode jdk_35_method_24_code 36 = .ok (.invokespecial 240, 3) := by decide +kernel
theorem own_pd1 : parseMethodDescriptor "(J)V" = some ⟨[.long], none⟩ := by decide +kernel
theorem own_d1_39 : decode jdk_35_method_24_code 39 = .ok (.areturn, 1) := by decide +kernel
theorem own_d1_12 : decode jdk_35_method_24_code 12 = .ok (.lload_n 0, 1) := by decide +kernel
theorem own_d1_13 : decode jdk_35_method_24_code 13 = .ok (.ldc2_w 232, 3) := by decide +kernel
theorem own_d1_16 : decode jdk_35_method_24_code 16 = .ok (.lcmp, 1) := by decide +kernel
theorem own_d1_17 : decode jdk_35_method_24_code 17 = .ok (.ifCond .gt 14, 3) := by decide +kernel
theorem own_d1_20 : decode jdk_35_method_24_code 20 = .ok (.getstatic 234, 3) := by decide +kernel
theorem own_d1_23 : decode jdk_35_method_24_code 23 = .ok (.lload_n 0, 1) := by decide +kernel
theorem own_d1_24 : decode jdk_35_method_24_code 24 = .ok (.l2i, 1) := by decide +kernel
theorem own_d1_25 : decode jdk_35_method_24_code 25 = .ok (.sipush 128, 3) := by decide +kernel
theorem own_d1_28 : decode jdk_35_method_24_code 28 = .ok (.iadd, 1) := by decide +kernel
theorem own_d1_29 : decode jdk_35_method_24_code 29 = .ok (.aaload, 1) := by decide +kernel
theorem own_d1_30 : decode jdk_35_method_24_code 30 = .ok (.areturn, 1) := by decide +kernel
set_option maxRecDepth 65536 in
set_option maxHeartbeats 40000000 in
theorem own_voM (l : Launch) (Z : State) (a0 : Array Value) (hw : ∀ d ∈ tables_1, d.before a0 Z = true) (ws : List Jvm.Cond) (p1 : Int64) (ac : Addr) (cl : Cell) (h0 : Heap) (n0 : Nat) (Z0 : n0 ≤ h0.size) (O0 : Old Z n0 h0) (S0 : Sta Z Z.heap "java/lang/Long$LongCache" "cache" "[Ljava/lang/Long;" (.ref ac)) (A0 : Arr Z Z.heap ac cl (.object "java/lang/Long")) (hsz : cl.slots.size = 256) (hel : ∀ j, j < 256 → ∃ y, cl.slots[j]? = some (.ref y) ∧ Exa Z Z.heap y "java/lang/Long") :
    MetFree l (⟨"java/lang/Long", "valueOf", "(J)Ljava/lang/Long;"⟩ : MethodName) (head1 (Jvm.Cond.code (⟨"java/lang/Long", "valueOf", "(J)Ljava/lang/Long;"⟩ : MethodName) jdk_35_method_24_code 3 (some (.object "java/lang/Long")) :: ws) ({ frames := 3, cells := 1, slots := 1, locals := 39 } : Room)) (fun a U => a = #[(.long p1)] ∧ Z.Warmed39 U.vm ∧ U.heap = h0) (fun _ _ _ _ _ => True) (fun _ U o U' => ∃ v L, o = .returned v ∧ Q_own_voM Z p1 ac cl h0 n0 v U'.heap L ∧ FrameEnd U o U' L ({ frames := 3, cells := 1, slots := 1, locals := 39 } : Room).cells ({ frames := 3, cells := 1, slots := 1, locals := 39 } : Room).slots) := by
  refine MetFree.of_bodySF (plainFor_of_name own_pn1) hisR ?_
  intro p e s m args below meth c s₁ Bd hml0 hP hK
  obtain ⟨rfl, hZ, hh⟩ := hP
  have hx := Bd.exec
  have hby := Bd.bytes
  have hml : c.maxLocals = 3 := hml0
  have hown : s.vm.findClass "java/lang/Long" = some m.cls := findClass_of_methodNamed Bd.named
  have hnm := (name_of_methodNamed Bd.named Bd.method).1
  have X0 : Stand p l e ({ frames := 3, cells := 1, slots := 1, locals := 39 } : Room) s m #[(.long p1)] below meth c s₁ [] 0 0 := Stand.of_body Bd
  have e0 : s₁.heap = h0 := by rw [← hh, Bd.state]; rfl
  have N0 := Fr.nil n0
  refine own_go (S := s₁.setTop (entryFrame m #[(.long p1)] 3)) (Q := (G_own_voM Z p1 ac cl h0 n0 s)) (fun _ k_ => castTop (own_ef_own_voM m p1) k_) ?_
  show own_Goes p e below (s₁.setTop (mkF m 0 #[.val (.long p1), .second, .unset] [])) (G_own_voM Z p1 ac cl h0 n0 s)
  have K12 : Keep h0 h0 [] := Keep.refl h0 []
  refine own_go (fun _ k_ => XS.sipush X0.here hx rfl (hb hby own_d1_0) k_) ?_
  show own_Goes p e below (s₁.setTop (mkF m 3 #[.val (.long p1), .second, .unset] [(.int (128 : Int32))])) (G_own_voM Z p1 ac cl h0 n0 s)
  refine own_go (fun _ k_ => XS.istoreN X0.here hx rfl (hb hby own_d1_3) rfl (l' := #[.val (.long p1), .second, .val (.int (128 : Int32))]) rfl k_) ?_
  show own_Goes p e below (s₁.setTop (mkF m 4 #[.val (.long p1), .second, .val (.int (128 : Int32))] [])) (G_own_voM Z p1 ac cl h0 n0 s)
  refine own_go (fun _ k_ => XS.lloadN X0.here hx rfl (hb hby own_d1_4) rfl k_) ?_
  show own_Goes p e below (s₁.setTop (mkF m 5 #[.val (.long p1), .second, .val (.int (128 : Int32))] [(.long p1)])) (G_own_voM Z p1 ac cl h0 n0 s)
  refine own_go (fun _ k_ => Jvm.Stand.ldc2J (own := "java/lang/Long") (index := 230) (v := (-128 : Int64)) X0 hx hown (mvT hZ (hw _ (List.mem_of_getElem? (i := 4) rfl))) rfl (hb hby own_d1_5) k_) ?_
  show own_Goes p e below (s₁.setTop (mkF m 8 #[.val (.long p1), .second, .val (.int (128 : Int32))] [(.long (-128 : Int64)), (.long p1)])) (G_own_voM Z p1 ac cl h0 n0 s)
  refine own_go (fun _ k_ => XT.lcmp X0.here hx rfl (hb hby own_d1_8) rfl k_) ?_
  show own_Goes p e below (s₁.setTop (mkF m 9 #[.val (.long p1), .second, .val (.int (128 : Int32))] [(.int (XT.cmpL p1 (-128 : Int64)))])) (G_own_voM Z p1 ac cl h0 n0 s)
  by_cases hc9_13 : p1 < (-128 : Int64)
  · refine own_go (fun _ k_ => XS.ifYes X0.here hx rfl (pc0 := 9) (pc' := 31) rfl (hb hby own_d1_9) rfl (XT.ll_lt_t hc9_13) (by decide) (by decide) k_) ?_
    show own_Goes p e below (s₁.setTop (mkF m 31 #[.val (.long p1), .second, .val (.int (128 : Int32))] [])) (G_own_voM Z p1 ac cl h0 n0 s)
    obtain ⟨T14, h14, X14, e14, E14, A14, D14, -, st14⟩ := newO X0 hx hZ hown (hw _ (List.mem_of_getElem? (i := 8) rfl)) (hw _ (List.mem_of_getElem? (i := 9) rfl)) (hw _ (List.mem_of_getElem? (i := 2) rfl)) e0 (g := (mkF m 31 #[.val (.long p1), .second, .val (.int (128 : Int32))] [])) rfl (hb hby own_d1_31) (by decide) (by decide)
    obtain ⟨b14, g14⟩ : ∃ z, z = h0.size := ⟨_, rfl⟩
    rw [← g14] at A14 D14 st14
    have O0_16 := O0.ext E14
    have g_b14 : n0 ≤ b14 := by rw [g14]; exact Z0
    have sz_b14 : h0.size ≤ b14 := by rw [g14]; exact K12.1
    have K14 : Keep h0 h14 [] := K12.ext E14
    have Z14 : n0 ≤ h14.size := Nat.le_trans Z0 E14.1
    have F_17 : Fld Z h14 b14 "java/lang/Long" "value" "J" (.long (0 : Int64)) := D14 (Or.inr (hw _ (List.mem_of_getElem? (i := 24) rfl))) (ty := .long) (by decide)
    refine own_go st14 ?_
    show own_Goes p e below (T14.setTop (mkF m 34 #[.val (.long p1), .second, .val (.int (128 : Int32))] [(.ref b14)])) (G_own_voM Z p1 ac cl h0 n0 s)
    refine own_go (fun _ k_ => XS.dup X14.here hx rfl (hb hby own_d1_34) rfl rfl k_) ?_
    show own_Goes p e below (T14.setTop (mkF m 35 #[.val (.long p1), .second, .val (.int (128 : Int32))] [(.ref b14), (.ref b14)])) (G_own_voM Z p1 ac cl h0 n0 s)
    refine own_go (fun _ k_ => XS.lloadN X14.here hx rfl (hb hby own_d1_35) rfl k_) ?_
    show own_Goes p e below (T14.setTop (mkF m 36 #[.val (.long p1), .second, .val (.int (128 : Int32))] [(.long p1), (.ref b14), (.ref b14)])) (G_own_voM Z p1 ac cl h0 n0 s)
    obtain ⟨_, _, ⟨T18, L18, k18, n18⟩, -, X18, ⟨Lc18, hQ18, l18, y18, z18⟩, st18⟩ := X14.specialBack hx (y := (⟨"java/lang/Long", "<init>", "(J)V"⟩ : MethodName)) rfl hown (mvT hZ (hw _ (List.mem_of_getElem? (i := 10) rfl))) (mvT hZ (hw _ (List.mem_of_getElem? (i := 11) rfl))) (mvT hZ (hw _ (List.mem_of_getElem? (i := 13) rfl))) (by decide) (backOf (W := 1) (own_liniM l Z a0 hw [] b14 p1 h14 n0 Z14 A14 g_b14 F_17) hZ (hw _ (List.mem_of_getElem? (i := 13) rfl)) (hw _ (List.mem_of_getElem? (i := 2) rfl)) (by decide) (by decide)) (g := (mkF m 36 #[.val (.long p1), .second, .val (.int (128 : Int32))] [(.long p1), (.ref b14), (.ref b14)])) rfl (by rw [hml]; rfl) (Steps.refl _) (a := b14) (argsL := [(.long p1)]) (rest := [(.ref b14)]) (lenOf own_pd1 rfl) rfl (by show 2 * 0 + _ ≤ _; exact Nat.le_of_eq rfl) (hb hby own_d1_36) (fun _ _ => ⟨rfl, e14, (by decide : 1 + 0 ≤ _), (by decide : 1 + 0 ≤ _)⟩)
    dsimp only [Pt.U, Pt.locs, Pt.cells, Pt.slots] at X18 l18 y18 z18 st18 hQ18
    subst l18 y18 z18
    obtain ⟨rfl, N18q, Kq18, Fv18⟩ := hQ18
    have N18 := Fr.app N0 N18q
    have O0_19 := O0_16.keep Kq18 (allS g_b14 all0)
    have A14_20 := A14.keep Kq18
    have Z18 : n0 ≤ T18.heap.size := Nat.le_trans Z14 Kq18.1
    have K18 : Keep h0 T18.heap [] := K14.trans Kq18 (allS (Or.inr sz_b14) all0)
    refine own_go (fun _ k_ => st18.trans k_) ?_
    show own_Goes p e below (T18.setTop (mkF m 39 #[.val (.long p1), .second, .val (.int (128 : Int32))] [(.ref b14)])) (G_own_voM Z p1 ac cl h0 n0 s)
    obtain ⟨fs, hr, hrun, hended, hW, hsame⟩ := X18.leave (v := some (.ref b14)) (fun h => by rw [Bd.returns] at h; cases h) Bd.notSynchronized
    refine ⟨_, _, retOut X18 hx (t := (.object "java/lang/Long")) (i := .areturn) Bd.returns rfl (Or.inr (Or.inr (Or.inr (Or.inr ⟨rfl, rfl, rfl⟩)))) (hb hby own_d1_39) hr, hrun, hended, _, _, rfl, ?_, ⟨_, rfl⟩, hW, hsame.mono (by decide) (by decide)⟩
    show Q_own_voM Z p1 ac cl h0 n0 _ T18.heap _
    exact ⟨⟨_, rfl, A14_20⟩, N18, K18⟩
  · refine own_go (fun _ k_ => XS.ifNo X0.here hx rfl (hb hby own_d1_9) rfl (XT.ll_lt_f hc9_13) k_) ?_
    show own_Goes p e below (s₁.setTop (mkF m 12 #[.val (.long p1), .second, .val (.int (128 : Int32))] [])) (G_own_voM Z p1 ac cl h0 n0 s)
    refine own_go (fun _ k_ => XS.lloadN X0.here hx rfl (hb hby own_d1_12) rfl k_) ?_
    show own_Goes p e below (s₁.setTop (mkF m 13 #[.val (.long p1), .second, .val (.int (128 : Int32))] [(.long p1)])) (G_own_voM Z p1 ac cl h0 n0 s)
    refine own_go (fun _ k_ => Jvm.Stand.ldc2J (own := "java/lang/Long") (index := 232) (v := (127 : Int64)) X0 hx hown (mvT hZ (hw _ (List.mem_of_getElem? (i := 5) rfl))) rfl (hb hby own_d1_13) k_) ?_
    show own_Goes p e below (s₁.setTop (mkF m 16 #[.val (.long p1), .second, .val (.int (128 : Int32))] [(.long (127 : Int64)), (.long p1)])) (G_own_voM Z p1 ac cl h0 n0 s)
    refine own_go (fun _ k_ => XT.lcmp X0.here hx rfl (hb hby own_d1_16) rfl k_) ?_
    show own_Goes p e below (s₁.setTop (mkF m 17 #[.val (.long p1), .second, .val (.int (128 : Int32))] [(.int (XT.cmpL p1 (127 : Int64)))])) (G_own_voM Z p1 ac cl h0 n0 s)
    by_cases hc17_22 : (127 : Int64) < p1
    · refine own_go (fun _ k_ => XS.ifYes X0.here hx rfl (pc0 := 17) (pc' := 31) rfl (hb hby own_d1_17) rfl (XT.ll_gt_t hc17_22) (by decide) (by decide) k_) ?_
      show own_Goes p e below (s₁.setTop (mkF m 31 #[.val (.long p1), .second, .val (.int (128 : Int32))] [])) (G_own_voM Z p1 ac cl h0 n0 s)
      obtain ⟨T23, h23, X23, e23, E23, A23, D23, -, st23⟩ := newO X0 hx hZ hown (hw _ (List.mem_of_getElem? (i := 8) rfl)) (hw _ (List.mem_of_getElem? (i := 9) rfl)) (hw _ (List.mem_of_getElem? (i := 2) rfl)) e0 (g := (mkF m 31 #[.val (.long p1), .second, .val (.int (128 : Int32))] [])) rfl (hb hby own_d1_31) (by decide) (by decide)
      obtain ⟨b23, g23⟩ : ∃ z, z = h0.size := ⟨_, rfl⟩
      rw [← g23] at A23 D23 st23
      have O0_25 := O0.ext E23
      have g_b23 : n0 ≤ b23 := by rw [g23]; exact Z0
      have sz_b23 : h0.size ≤ b23 := by rw [g23]; exact K12.1
      have K23 : Keep h0 h23 [] := K12.ext E23
      have Z23 : n0 ≤ h23.size := Nat.le_trans Z0 E23.1
      have F_26 : Fld Z h23 b23 "java/lang/Long" "value" "J" (.long (0 : Int64)) := D23 (Or.inr (hw _ (List.mem_of_getElem? (i := 24) rfl))) (ty := .long) (by decide)
      refine own_go st23 ?_
      show own_Goes p e below (T23.setTop (mkF m 34 #[.val (.long p1), .second, .val (.int (128 : Int32))] [(.ref b23)])) (G_own_voM Z p1 ac cl h0 n0 s)
      refine own_go (fun _ k_ => XS.dup X23.here hx rfl (hb hby own_d1_34) rfl rfl k_) ?_
      show own_Goes p e below (T23.setTop (mkF m 35 #[.val (.long p1), .second, .val (.int (128 : Int32))] [(.ref b23), (.ref b23)])) (G_own_voM Z p1 ac cl h0 n0 s)
      refine own_go (fun _ k_ => XS.lloadN X23.here hx rfl (hb hby own_d1_35) rfl k_) ?_
      show own_Goes p e below (T23.setTop (mkF m 36 #[.val (.long p1), .second, .val (.int (128 : Int32))] [(.long p1), (.ref b23), (.ref b23)])) (G_own_voM Z p1 ac cl h0 n0 s)
      obtain ⟨_, _, ⟨T27, L27, k27, n27⟩, -, X27, ⟨Lc27, hQ27, l27, y27, z27⟩, st27⟩ := X23.specialBack hx (y := (⟨"java/lang/Long", "<init>", "(J)V"⟩ : MethodName)) rfl hown (mvT hZ (hw _ (List.mem_of_getElem? (i := 10) rfl))) (mvT hZ (hw _ (List.mem_of_getElem? (i := 11) rfl))) (mvT hZ (hw _ (List.mem_of_getElem? (i := 13) rfl))) (by decide) (backOf (W := 1) (own_liniM l Z a0 hw [] b23 p1 h23 n0 Z23 A23 g_b23 F_26) hZ (hw _ (List.mem_of_getElem? (i := 13) rfl)) (hw _ (List.mem_of_getElem? (i := 2) rfl)) (by decide) (by decide)) (g := (mkF m 36 #[.val (.long p1), .second, .val (.int (128 : Int32))] [(.long p1), (.ref b23), (.ref b23)])) rfl (by rw [hml]; rfl) (Steps.refl _) (a := b23) (argsL := [(.long p1)]) (rest := [(.ref b23)]) (lenOf own_pd1 rfl) rfl (by show 2 * 0 + _ ≤ _; exact Nat.le_of_eq rfl) (hb hby own_d1_36) (fun _ _ => ⟨rfl, e23, (by decide : 1 + 0 ≤ _), (by decide : 1 + 0 ≤ _)⟩)
      dsimp only [Pt.U, Pt.locs, Pt.cells, Pt.slots] at X27 l27 y27 z27 st27 hQ27
      subst l27 y27 z27
      obtain ⟨rfl, N27q, Kq27, Fv27⟩ := hQ27
      have N27 := Fr.app N0 N27q
      have O0_28 := O0_25.keep Kq27 (allS g_b23 all0)
      have A23_29 := A23.keep Kq27
      have Z27 : n0 ≤ T27.heap.size := Nat.le_trans Z23 Kq27.1
      have K27 : Keep h0 T27.heap [] := K23.trans Kq27 (allS (Or.inr sz_b23) all0)
      refine own_go (fun _ k_ => st27.trans k_) ?_
      show own_Goes p e below (T27.setTop (mkF m 39 #[.val (.long p1), .second, .val (.int (128 : Int32))] [(.ref b23)])) (G_own_voM Z p1 ac cl h0 n0 s)
      obtain ⟨fs, hr, hrun, hended, hW, hsame⟩ := X27.leave (v := some (.ref b23)) (fun h => by rw [Bd.returns] at h; cases h) Bd.notSynchronized
      refine ⟨_, _, retOut X27 hx (t := (.object "java/lang/Long")) (i := .areturn) Bd.returns rfl (Or.inr (Or.inr (Or.inr (Or.inr ⟨rfl, rfl, rfl⟩)))) (hb hby own_d1_39) hr, hrun, hended, _, _, rfl, ?_, ⟨_, rfl⟩, hW, hsame.mono (by decide) (by decide)⟩
      show Q_own_voM Z p1 ac cl h0 n0 _ T27.heap _
      exact ⟨⟨_, rfl, A23_29⟩, N27, K27⟩
    · refine own_go (fun _ k_ => XS.ifNo X0.here hx rfl (hb hby own_d1_17) rfl (XT.ll_gt_f hc17_22) k_) ?_
      show own_Goes p e below (s₁.setTop (mkF m 20 #[.val (.long p1), .second, .val (.int (128 : Int32))] [])) (G_own_voM Z p1 ac cl h0 n0 s)
      obtain ⟨T31, X31, e31, st31⟩ := getS2 X0 hx hZ hown (host := "") (Or.inl (hw _ (List.mem_of_getElem? (i := 6) rfl))) Via.refl e0 (S0.ext O0.2) (g := (mkF m 20 #[.val (.long p1), .second, .val (.int (128 : Int32))] [])) rfl (hb hby own_d1_20)
      refine own_go st31 ?_
      show own_Goes p e below (T31.setTop (mkF m 23 #[.val (.long p1), .second, .val (.int (128 : Int32))] [(.ref ac)])) (G_own_voM Z p1 ac cl h0 n0 s)
      refine own_go (fun _ k_ => XS.lloadN X31.here hx rfl (hb hby own_d1_23) rfl k_) ?_
      show own_Goes p e below (T31.setTop (mkF m 24 #[.val (.long p1), .second, .val (.int (128 : Int32))] [(.long p1), (.ref ac)])) (G_own_voM Z p1 ac cl h0 n0 s)
      refine own_go (fun _ k_ => XS.l2i X31.here hx rfl (hb hby own_d1_24) rfl k_) ?_
      show own_Goes p e below (T31.setTop (mkF m 25 #[.val (.long p1), .second, .val (.int (128 : Int32))] [(.int (p1.toInt32)), (.ref ac)])) (G_own_voM Z p1 ac cl h0 n0 s)
      refine own_go (fun _ k_ => XS.sipush X31.here hx rfl (hb hby own_d1_25) k_) ?_
      show own_Goes p e below (T31.setTop (mkF m 28 #[.val (.long p1), .second, .val (.int (128 : Int32))] [(.int (128 : Int32)), (.int (p1.toInt32)), (.ref ac)])) (G_own_voM Z p1 ac cl h0 n0 s)
      refine own_go (fun _ k_ => XS.iadd X31.here hx rfl (hb hby own_d1_28) rfl k_) ?_
      show own_Goes p e below (T31.setTop (mkF m 29 #[.val (.long p1), .second, .val (.int (128 : Int32))] [(.int ((p1.toInt32) + (128 : Int32))), (.ref ac)])) (G_own_voM Z p1 ac cl h0 n0 s)
      have hp := LongBox.place_okL p1 hc9_13 hc17_22
      obtain ⟨yb, ey, Ey⟩ := hel _ hp.2
      have hin : ¬ ((p1.toInt32 + (128 : Int32)) < 0 ∨ cl.slots.size ≤ (p1.toInt32 + (128 : Int32)).toNatClampNeg) := by rw [hsz]; exact hp.1
      have Ey2 := Ey.ext O0.2
      refine own_go (fun _ k_ => X31.aaload hx (j := ((p1.toInt32) + (128 : Int32))) (v := .ref yb) (by rw [e31]; exact (A0.ext O0.2).1) (State.isArrayOf_alike hZ.alike A0.2.1) rfl A0.2.2 hin ey (g := (mkF m 29 #[.val (.long p1), .second, .val (.int (128 : Int32))] [(.int ((p1.toInt32) + (128 : Int32))), (.ref ac)])) rfl rfl (hb hby own_d1_29) _ k_) ?_
      show own_Goes p e below (T31.setTop (mkF m 30 #[.val (.long p1), .second, .val (.int (128 : Int32))] [(.ref yb)])) (G_own_voM Z p1 ac cl h0 n0 s)
      obtain ⟨fs, hr, hrun, hended, hW, hsame⟩ := X31.leave (v := some (.ref yb)) (fun h => by rw [Bd.returns] at h; cases h) Bd.notSynchronized
      refine ⟨_, _, retOut X31 hx (t := (.object "java/lang/Long")) (i := .areturn) Bd.returns rfl (Or.inr (Or.inr (Or.inr (Or.inr ⟨rfl, rfl, rfl⟩)))) (hb hby own_d1_30) hr, hrun, hended, _, _, rfl, ?_, ⟨_, rfl⟩, hW, hsame.mono (by decide) (by decide)⟩
      show Q_own_voM Z p1 ac cl h0 n0 _ T31.heap _
      rw [e31]
      exact ⟨⟨_, rfl, Ey2⟩, N0, K12⟩
theorem own_pn5 : plainName "com/example/remnant/remnant/core/MultipleValues" = true := by first | (simp [plainName, overriddenIn]; done) | decide +kernel
theorem own_ef_own_ofNM (m : MethodId) (aa : Addr) : entryFrame m #[(.ref aa)] 1 = (mkF m 0 #[.val (.ref aa)] []) := by first | (simp [entryFrame, mkF, argsToLocals, Value.category]; done) | rfl
def Q_own_ofNM (Z : State) (aa : Addr) (ka : ClassId) (n : Int32) (vs : List Value) (h0 : Heap) (n0 : Nat) (v : Option Value) (h : Heap) (L : List Loc) : Prop := (∃ b : Addr, v = some (.ref b) ∧ Exa Z h b "com/example/remnant/remnant/core/MultipleValues" ∧ Fld Z h b "com/example/remnant/remnant/core/MultipleValues" "values" "[Ljava/lang/Object;" (.ref aa)) ∧ Fr n0 L ∧ Keep h0 h []
def G_own_ofNM (Z : State) (aa : Addr) (ka : ClassId) (n : Int32) (vs : List Value) (h0 : Heap) (n0 : Nat) (s : State) : Outcome → State → Prop := fun o U' => ∃ v L, o = .returned v ∧ Q_own_ofNM Z aa ka n vs h0 n0 v U'.heap L ∧ FrameEnd s o U' L ({ frames := 2, cells := 1, slots := 1, locals := 26 } : Room).cells ({ frames := 2, cells := 1, slots := 1, locals := 26 } : Room).slots
theorem own_d5_0 : decode prog_105_method_2_code 0 = .ok (.aload_n 0, 1) := by decide +kernel
theorem own_d5_1 : decode prog_105_method_2_code 1 = .ok (.arraylength, 1) := by decide +kernel
theorem own_d5_2 : decode prog_105_method_2_code 2 = .ok (.iconst 1, 1) := by decide +kernel
theorem own_d5_3 : decode prog_105_method_2_code 3 = .ok (.if_icmp .ne 9, 3) := by decide +kernel
theorem own_d5_12 : decode prog_105_method_2_code 12 = .ok (.new 8, 3) := by decide +kernel
theorem own_d5_15 : decode prog_105_method_2_code 15 = .ok (.dup, 1) := by decide +kernel
theorem own_d5_16 : decode prog_105_method_2_code 16 = .ok (.aload_n 0, 1) := by decide +kernel
theorem own_d5_17 : decode prog_105_method_2_code 17 = .ok (.invokespecial 13, 3) := by decide +kernel
theorem own_pd2 : parseMethodDescriptor "([Ljava/lang/Object;)V" = some ⟨[(.array (.object "java/lang/Object"))], none⟩ := by decide +kernel
theorem own_d5_20 : decode prog_105_method_2_code 20 = .ok (.areturn, 1) := by decide +kernel
set_option maxRecDepth 65536 in
set_option maxHeartbeats 40000000 in
theorem own_ofNM (l : Launch) (Z : State) (a0 : Array Value) (hw : ∀ d ∈ tables_1, d.before a0 Z = true) (ws : List Jvm.Cond) (aa : Addr) (ka : ClassId) (n : Int32) (vs : List Value) (h0 : Heap) (n0 : Nat) (Z0 : n0 ≤ h0.size) (A_a : Arv Z h0 aa ka (.object "java/lang/Object") n vs (.null)) (hn : ¬ n = 1) :
    MetFree l (⟨"com/example/remnant/remnant/core/MultipleValues", "of", "([Ljava/lang/Object;)Ljava/lang/Object;"⟩ : MethodName) (head1 (Jvm.Cond.code (⟨"com/example/remnant/remnant/core/MultipleValues", "of", "([Ljava/lang/Object;)Ljava/lang/Object;"⟩ : MethodName) prog_105_method_2_code 1 (some (.object "java/lang/Object")) :: ws) ({ frames := 2, cells := 1, slots := 1, locals := 26 } : Room)) (fun a U => a = #[(.ref aa)] ∧ Z.Warmed39 U.vm ∧ U.heap = h0) (fun _ _ _ _ _ => True) (fun _ U o U' => ∃ v L, o = .returned v ∧ Q_own_ofNM Z aa ka n vs h0 n0 v U'.heap L ∧ FrameEnd U o U' L ({ frames := 2, cells := 1, slots := 1, locals := 26 } : Room).cells ({ frames := 2, cells := 1, slots := 1, locals := 26 } : Room).slots) := by
  refine MetFree.of_bodySF (plainFor_of_name own_pn5) hisR ?_
  intro p e s m args below meth c s₁ Bd hml0 hP hK
  obtain ⟨rfl, hZ, hh⟩ := hP
  have hx := Bd.exec
  have hby := Bd.bytes
  have hml : c.maxLocals = 1 := hml0
  have hown : s.vm.findClass "com/example/remnant/remnant/core/MultipleValues" = some m.cls := findClass_of_methodNamed Bd.named
  have hnm := (name_of_methodNamed Bd.named Bd.method).1
  have X0 : Stand p l e ({ frames := 2, cells := 1, slots := 1, locals := 26 } : Room) s m #[(.ref aa)] below meth c s₁ [] 0 0 := Stand.of_body Bd
  have e0 : s₁.heap = h0 := by rw [← hh, Bd.state]; rfl
  have N0 := Fr.nil n0
  refine own_go (S := s₁.setTop (entryFrame m #[(.ref aa)] 1)) (Q := (G_own_ofNM Z aa ka n vs h0 n0 s)) (fun _ k_ => castTop (own_ef_own_ofNM m aa) k_) ?_
  show own_Goes p e below (s₁.setTop (mkF m 0 #[.val (.ref aa)] [])) (G_own_ofNM Z aa ka n vs h0 n0 s)
  have K32 : Keep h0 h0 [] := Keep.refl h0 []
  refine own_go (fun _ k_ => XS.aloadN X0.here hx rfl (hb hby own_d5_0) rfl rfl k_) ?_
  show own_Goes p e below (s₁.setTop (mkF m 1 #[.val (.ref aa)] [(.ref aa)])) (G_own_ofNM Z aa ka n vs h0 n0 s)
  obtain ⟨c33, Ar33, q33, s33, z33, H33, G33⟩ := id A_a
  refine own_go (fun _ k_ => X0.arraylength hx (by rw [e0]; exact Ar33.1) (State.isArrayOf_alike hZ.alike Ar33.2.1) (g := (mkF m 1 #[.val (.ref aa)] [(.ref aa)])) rfl rfl (hb hby own_d5_1) _ k_) ?_
  rw [len_of s33 z33]
  show own_Goes p e below (s₁.setTop (mkF m 2 #[.val (.ref aa)] [(.int n)])) (G_own_ofNM Z aa ka n vs h0 n0 s)
  refine own_go (fun _ k_ => XS.iconst X0.here hx rfl (hb hby own_d5_2) k_) ?_
  show own_Goes p e below (s₁.setTop (mkF m 3 #[.val (.ref aa)] [(.int (1 : Int32)), (.int n)])) (G_own_ofNM Z aa ka n vs h0 n0 s)
  refine own_go (fun _ k_ => XS.icmpYes X0.here hx rfl (pc0 := 3) (pc' := 12) rfl (hb hby own_d5_3) rfl (XT.ii_ne_t hn) (by decide) (by decide) k_) ?_
  show own_Goes p e below (s₁.setTop (mkF m 12 #[.val (.ref aa)] [])) (G_own_ofNM Z aa ka n vs h0 n0 s)
  obtain ⟨T34, h34, X34, e34, E34, A34, D34, -, st34⟩ := newO X0 hx hZ hown (hw _ (List.mem_of_getElem? (i := 31) rfl)) (hw _ (List.mem_of_getElem? (i := 32) rfl)) (hw _ (List.mem_of_getElem? (i := 29) rfl)) e0 (g := (mkF m 12 #[.val (.ref aa)] [])) rfl (hb hby own_d5_12) (by decide) (by decide)
  obtain ⟨b34, g34⟩ : ∃ z, z = h0.size := ⟨_, rfl⟩
  rw [← g34] at A34 D34 st34
  have ne_aa_b34 : aa ≠ b34 := by rw [g34]; exact Nat.ne_of_lt A_a.lt
  have A_36 := A_a.ext E34
  have g_b34 : n0 ≤ b34 := by rw [g34]; exact Z0
  have sz_b34 : h0.size ≤ b34 := by rw [g34]; exact K32.1
  have K34 : Keep h0 h34 [] := K32.ext E34
  have Z34 : n0 ≤ h34.size := Nat.le_trans Z0 E34.1
  have F_37 : Fld Z h34 b34 "com/example/remnant/remnant/core/MultipleValues" "values" "[Ljava/lang/Object;" .null := D34 (Or.inr (hw _ (List.mem_of_getElem? (i := 38) rfl))) (ty := (.array (.object "java/lang/Object"))) (by decide)
  refine own_go st34 ?_
  show own_Goes p e below (T34.setTop (mkF m 15 #[.val (.ref aa)] [(.ref b34)])) (G_own_ofNM Z aa ka n vs h0 n0 s)
  refine own_go (fun _ k_ => XS.dup X34.here hx rfl (hb hby own_d5_15) rfl rfl k_) ?_
  show own_Goes p e below (T34.setTop (mkF m 16 #[.val (.ref aa)] [(.ref b34), (.ref b34)])) (G_own_ofNM Z aa ka n vs h0 n0 s)
  refine own_go (fun _ k_ => XS.aloadN X34.here hx rfl (hb hby own_d5_16) rfl rfl k_) ?_
  show own_Goes p e below (T34.setTop (mkF m 17 #[.val (.ref aa)] [(.ref aa), (.ref b34), (.ref b34)])) (G_own_ofNM Z aa ka n vs h0 n0 s)
  obtain ⟨_, _, ⟨T38, L38, k38, n38⟩, -, X38, ⟨Lc38, hQ38, l38, y38, z38⟩, st38⟩ := X34.specialBack hx (y := (⟨"com/example/remnant/remnant/core/MultipleValues", "<init>", "([Ljava/lang/Object;)V"⟩ : MethodName)) rfl hown (mvT hZ (hw _ (List.mem_of_getElem? (i := 33) rfl))) (mvT hZ (hw _ (List.mem_of_getElem? (i := 34) rfl))) (mvT hZ (hw _ (List.mem_of_getElem? (i := 35) rfl))) (by decide) (backOf (W := 1) (own_miniM l Z a0 hw [] b34 aa h34 n0 Z34 A34 g_b34 F_37) hZ (hw _ (List.mem_of_getElem? (i := 35) rfl)) (hw _ (List.mem_of_getElem? (i := 29) rfl)) (by decide) (by decide)) (g := (mkF m 17 #[.val (.ref aa)] [(.ref aa), (.ref b34), (.ref b34)])) rfl (by rw [hml]; rfl) (Steps.refl _) (a := b34) (argsL := [(.ref aa)]) (rest := [(.ref b34)]) (lenOf own_pd2 rfl) rfl (by show 2 * 0 + _ ≤ _; exact Nat.le_of_eq rfl) (hb hby own_d5_17) (fun _ _ => ⟨rfl, e34, (by decide : 1 + 0 ≤ _), (by decide : 1 + 0 ≤ _)⟩)
  dsimp only [Pt.U, Pt.locs, Pt.cells, Pt.slots] at X38 l38 y38 z38 st38 hQ38
  subst l38 y38 z38
  obtain ⟨rfl, N38q, Kq38, Fv38⟩ := hQ38
  have N38 := Fr.app N0 N38q
  have A_39 := A_36.keep Kq38 (ninS ne_aa_b34 nin0)
  have A34_40 := A34.keep Kq38
  have Z38 : n0 ≤ T38.heap.size := Nat.le_trans Z34 Kq38.1
  have K38 : Keep h0 T38.heap [] := K34.trans Kq38 (allS (Or.inr sz_b34) all0)
  refine own_go (fun _ k_ => st38.trans k_) ?_
  show own_Goes p e below (T38.setTop (mkF m 20 #[.val (.ref aa)] [(.ref b34)])) (G_own_ofNM Z aa ka n vs h0 n0 s)
  obtain ⟨fs, hr, hrun, hended, hW, hsame⟩ := X38.leave (v := some (.ref b34)) (fun h => by rw [Bd.returns] at h; cases h) Bd.notSynchronized
  refine ⟨_, _, retOut X38 hx (t := (.object "java/lang/Object")) (i := .areturn) Bd.returns rfl (Or.inr (Or.inr (Or.inr (Or.inr ⟨rfl, rfl, rfl⟩)))) (hb hby own_d5_20) hr, hrun, hended, _, _, rfl, ?_, ⟨_, rfl⟩, hW, hsame.mono (by decide) (by decide)⟩
  show Q_own_ofNM Z aa ka n vs h0 n0 _ T38.heap _
  exact ⟨⟨_, rfl, A34_40, Fv38⟩, N38, K38⟩
theorem own_ef_own_of1NM (m : MethodId) (aa : Addr) : entryFrame m #[(.ref aa)] 1 = (mkF m 0 #[.val (.ref aa)] []) := by first | (simp [entryFrame, mkF, argsToLocals, Value.category]; done) | rfl
def Q_own_of1NM (Z : State) (aa : Addr) (ka : ClassId) (h0 : Heap) (n0 : Nat) (v : Option Value) (h : Heap) (L : List Loc) : Prop := v = some .null ∧ Fr n0 L ∧ h = h0
def G_own_of1NM (Z : State) (aa : Addr) (ka : ClassId) (h0 : Heap) (n0 : Nat) (s : State) : Outcome → State → Prop := fun o U' => ∃ v L, o = .returned v ∧ Q_own_of1NM Z aa ka h0 n0 v U'.heap L ∧ FrameEnd s o U' L ({ frames := 0, cells := 0, slots := 0, locals := 0 } : Room).cells ({ frames := 0, cells := 0, slots := 0, locals := 0 } : Room).slots
theorem own_d5_6 : decode prog_105_method_2_code 6 = .ok (.aload_n 0, 1) := by decide +kernel
theorem own_d5_7 : decode prog_105_method_2_code 7 = .ok (.iconst 0, 1) := by decide +kernel
theorem own_d5_8 : decode prog_105_method_2_code 8 = .ok (.aaload, 1) := by decide +kernel
theorem own_d5_9 : decode prog_105_method_2_code 9 = .ok (.goto 11, 3) := by decide +kernel
set_option maxRecDepth 65536 in
set_option maxHeartbeats 40000000 in
theorem own_of1NM (l : Launch) (Z : State) (a0 : Array Value) (hw : ∀ d ∈ tables_1, d.before a0 Z = true) (ws : List Jvm.Cond) (aa : Addr) (ka : ClassId) (h0 : Heap) (n0 : Nat) (Z0 : n0 ≤ h0.size) (A_a : Arv Z h0 aa ka (.object "java/lang/Object") (1 : Int32) [.null] (.null)) :
    MetFree l (⟨"com/example/remnant/remnant/core/MultipleValues", "of", "([Ljava/lang/Object;)Ljava/lang/Object;"⟩ : MethodName) (head1 (Jvm.Cond.code (⟨"com/example/remnant/remnant/core/MultipleValues", "of", "([Ljava/lang/Object;)Ljava/lang/Object;"⟩ : MethodName) prog_105_method_2_code 1 (some (.object "java/lang/Object")) :: ws) ({ frames := 0, cells := 0, slots := 0, locals := 0 } : Room)) (fun a U => a = #[(.ref aa)] ∧ Z.Warmed39 U.vm ∧ U.heap = h0) (fun _ _ _ _ _ => True) (fun _ U o U' => ∃ v L, o = .returned v ∧ Q_own_of1NM Z aa ka h0 n0 v U'.heap L ∧ FrameEnd U o U' L ({ frames := 0, cells := 0, slots := 0, locals := 0 } : Room).cells ({ frames := 0, cells := 0, slots := 0, locals := 0 } : Room).slots) := by
  refine MetFree.of_bodySF (plainFor_of_name own_pn5) hisR ?_
  intro p e s m args below meth c s₁ Bd hml0 hP hK
  obtain ⟨rfl, hZ, hh⟩ := hP
  have hx := Bd.exec
  have hby := Bd.bytes
  have hml : c.maxLocals = 1 := hml0
  have hown : s.vm.findClass "com/example/remnant/remnant/core/MultipleValues" = some m.cls := findClass_of_methodNamed Bd.named
  have hnm := (name_of_methodNamed Bd.named Bd.method).1
  have X0 : Stand p l e ({ frames := 0, cells := 0, slots := 0, locals := 0 } : Room) s m #[(.ref aa)] below meth c s₁ [] 0 0 := Stand.of_body Bd
  have e0 : s₁.heap = h0 := by rw [← hh, Bd.state]; rfl
  have N0 := Fr.nil n0
  refine own_go (S := s₁.setTop (entryFrame m #[(.ref aa)] 1)) (Q := (G_own_of1NM Z aa ka h0 n0 s)) (fun _ k_ => castTop (own_ef_own_of1NM m aa) k_) ?_
  show own_Goes p e below (s₁.setTop (mkF m 0 #[.val (.ref aa)] [])) (G_own_of1NM Z aa ka h0 n0 s)
  refine own_go (fun _ k_ => XS.aloadN X0.here hx rfl (hb hby own_d5_0) rfl rfl k_) ?_
  show own_Goes p e below (s₁.setTop (mkF m 1 #[.val (.ref aa)] [(.ref aa)])) (G_own_of1NM Z aa ka h0 n0 s)
  obtain ⟨c42, Ar42, q42, s42, z42, H42, G42⟩ := id A_a
  refine own_go (fun _ k_ => X0.arraylength hx (by rw [e0]; exact Ar42.1) (State.isArrayOf_alike hZ.alike Ar42.2.1) (g := (mkF m 1 #[.val (.ref aa)] [(.ref aa)])) rfl rfl (hb hby own_d5_1) _ k_) ?_
  rw [len_of s42 z42]
  show own_Goes p e below (s₁.setTop (mkF m 2 #[.val (.ref aa)] [(.int (1 : Int32))])) (G_own_of1NM Z aa ka h0 n0 s)
  refine own_go (fun _ k_ => XS.iconst X0.here hx rfl (hb hby own_d5_2) k_) ?_
  show own_Goes p e below (s₁.setTop (mkF m 3 #[.val (.ref aa)] [(.int (1 : Int32)), (.int (1 : Int32))])) (G_own_of1NM Z aa ka h0 n0 s)
  refine own_go (fun _ k_ => XS.icmpNo X0.here hx rfl (hb hby own_d5_3) rfl (XT.ii_ne_f (rfl : (1 : Int32) = (1 : Int32))) k_) ?_
  show own_Goes p e below (s₁.setTop (mkF m 6 #[.val (.ref aa)] [])) (G_own_of1NM Z aa ka h0 n0 s)
  refine own_go (fun _ k_ => XS.aloadN X0.here hx rfl (hb hby own_d5_6) rfl rfl k_) ?_
  show own_Goes p e below (s₁.setTop (mkF m 7 #[.val (.ref aa)] [(.ref aa)])) (G_own_of1NM Z aa ka h0 n0 s)
  refine own_go (fun _ k_ => XS.iconst X0.here hx rfl (hb hby own_d5_7) k_) ?_
  show own_Goes p e below (s₁.setTop (mkF m 8 #[.val (.ref aa)] [(.int (0 : Int32)), (.ref aa)])) (G_own_of1NM Z aa ka h0 n0 s)
  obtain ⟨c43, Ar43, q43, s43, z43, H43, G43⟩ := id A_a
  have hin43 := inb_of s43 (j := (0 : Int32)) (by decide)
  have hat43 := H43.at hin43 (v := .null) rfl
  refine own_go (fun _ k_ => X0.aaload hx (j := (0 : Int32)) (v := .null) (by rw [e0]; exact Ar43.1) (State.isArrayOf_alike hZ.alike Ar43.2.1) rfl Ar43.2.2 hin43 hat43 (g := (mkF m 8 #[.val (.ref aa)] [(.int (0 : Int32)), (.ref aa)])) rfl rfl (hb hby own_d5_8) _ k_) ?_
  show own_Goes p e below (s₁.setTop (mkF m 9 #[.val (.ref aa)] [.null])) (G_own_of1NM Z aa ka h0 n0 s)
  refine own_go (fun _ k_ => XS.goto X0.here hx rfl (pc0 := 9) (pc' := 20) rfl (hb hby own_d5_9) (by decide) (by decide) k_) ?_
  show own_Goes p e below (s₁.setTop (mkF m 20 #[.val (.ref aa)] [.null])) (G_own_of1NM Z aa ka h0 n0 s)
  obtain ⟨fs, hr, hrun, hended, hW, hsame⟩ := X0.leave (v := some .null) (fun h => by rw [Bd.returns] at h; cases h) Bd.notSynchronized
  refine ⟨_, _, retOut X0 hx (t := (.object "java/lang/Object")) (i := .areturn) Bd.returns rfl (Or.inr (Or.inr (Or.inr (Or.inr ⟨rfl, rfl, rfl⟩)))) (hb hby own_d5_20) hr, hrun, hended, _, _, rfl, ?_, ⟨_, rfl⟩, hW, hsame.mono (by decide) (by decide)⟩
  show Q_own_of1NM Z aa ka h0 n0 _ s₁.heap _
  rw [e0]
  exact ⟨rfl, N0, rfl⟩
theorem own_pn7 : plainName "com/example/remnant/remnant/core/MultipleValues" = true := by first | (simp [plainName, overriddenIn]; done) | decide +kernel
theorem own_ef_own_spNM (m : MethodId)  : entryFrame m #[.null] 2 = (mkF m 0 #[.val .null, .unset] []) := by first | (simp [entryFrame, mkF, argsToLocals, Value.category]; done) | rfl
def Q_own_spNM (Z : State)  (h0 : Heap) (n0 : Nat) (v : Option Value) (h : Heap) (L : List Loc) : Prop := (∃ (b : Addr) (kb : ClassId), v = some (.ref b) ∧ Arv Z h b kb (.object "java/lang/Object") (1 : Int32) [.null] (.null)) ∧ Fr n0 L ∧ Keep h0 h []
def G_own_spNM (Z : State)  (h0 : Heap) (n0 : Nat) (s : State) : Outcome → State → Prop := fun o U' => ∃ v L, o = .returned v ∧ Q_own_spNM Z  h0 n0 v U'.heap L ∧ FrameEnd s o U' L ({ frames := 0, cells := 1, slots := 1, locals := 0 } : Room).cells ({ frames := 0, cells := 1, slots := 1, locals := 0 } : Room).slots
theorem own_d7_0 : decode prog_105_method_3_code 0 = .ok (.aload_n 0, 1) := by decide +kernel
theorem own_d7_1 : decode prog_105_method_3_code 1 = .ok (.instanceof 8, 3) := by decide +kernel
theorem own_d7_4 : decode prog_105_method_3_code 4 = .ok (.ifCond .eq 15, 3) := by decide +kernel
theorem own_d7_19 : decode prog_105_method_3_code 19 = .ok (.iconst 1, 1) := by decide +kernel
theorem own_d7_20 : decode prog_105_method_3_code 20 = .ok (.anewarray 2, 3) := by decide +kernel
theorem own_d7_23 : decode prog_105_method_3_code 23 = .ok (.dup, 1) := by decide +kernel
theorem own_d7_24 : decode prog_105_method_3_code 24 = .ok (.iconst 0, 1) := by decide +kernel
theorem own_d7_25 : decode prog_105_method_3_code 25 = .ok (.aload_n 0, 1) := by decide +kernel
theorem own_d7_26 : decode prog_105_method_3_code 26 = .ok (.aastore, 1) := by decide +kernel
theorem own_d7_27 : decode prog_105_method_3_code 27 = .ok (.areturn, 1) := by decide +kernel
set_option maxRecDepth 65536 in
set_option maxHeartbeats 40000000 in
theorem own_spNM (l : Launch) (Z : State) (a0 : Array Value) (hw : ∀ d ∈ tables_1, d.before a0 Z = true) (ws : List Jvm.Cond)  (h0 : Heap) (n0 : Nat) (Z0 : n0 ≤ h0.size)  :
    MetFree l (⟨"com/example/remnant/remnant/core/MultipleValues", "spread", "(Ljava/lang/Object;)[Ljava/lang/Object;"⟩ : MethodName) (head1 (Jvm.Cond.code (⟨"com/example/remnant/remnant/core/MultipleValues", "spread", "(Ljava/lang/Object;)[Ljava/lang/Object;"⟩ : MethodName) prog_105_method_3_code 2 (some (.array (.object "java/lang/Object"))) :: ws) ({ frames := 0, cells := 1, slots := 1, locals := 0 } : Room)) (fun a U => a = #[.null] ∧ Z.Warmed39 U.vm ∧ U.heap = h0) (fun _ _ _ _ _ => True) (fun _ U o U' => ∃ v L, o = .returned v ∧ Q_own_spNM Z  h0 n0 v U'.heap L ∧ FrameEnd U o U' L ({ frames := 0, cells := 1, slots := 1, locals := 0 } : Room).cells ({ frames := 0, cells := 1, slots := 1, locals := 0 } : Room).slots) := by
  refine MetFree.of_bodySF (plainFor_of_name own_pn7) hisR ?_
  intro p e s m args below meth c s₁ Bd hml0 hP hK
  obtain ⟨rfl, hZ, hh⟩ := hP
  have hx := Bd.exec
  have hby := Bd.bytes
  have hml : c.maxLocals = 2 := hml0
  have hown : s.vm.findClass "com/example/remnant/remnant/core/MultipleValues" = some m.cls := findClass_of_methodNamed Bd.named
  have hnm := (name_of_methodNamed Bd.named Bd.method).1
  have X0 : Stand p l e ({ frames := 0, cells := 1, slots := 1, locals := 0 } : Room) s m #[.null] below meth c s₁ [] 0 0 := Stand.of_body Bd
  have e0 : s₁.heap = h0 := by rw [← hh, Bd.state]; rfl
  have N0 := Fr.nil n0
  refine own_go (S := s₁.setTop (entryFrame m #[.null] 2)) (Q := (G_own_spNM Z  h0 n0 s)) (fun _ k_ => castTop (own_ef_own_spNM m ) k_) ?_
  show own_Goes p e below (s₁.setTop (mkF m 0 #[.val .null, .unset] [])) (G_own_spNM Z  h0 n0 s)
  have K44 : Keep h0 h0 [] := Keep.refl h0 []
  refine own_go (fun _ k_ => XS.aloadN X0.here hx rfl (hb hby own_d7_0) rfl rfl k_) ?_
  show own_Goes p e below (s₁.setTop (mkF m 1 #[.val .null, .unset] [.null])) (G_own_spNM Z  h0 n0 s)
  refine own_go (fun _ k_ => X0.instanceofNull hx (g := (mkF m 1 #[.val .null, .unset] [.null])) rfl rfl (hb hby own_d7_1) _ k_) ?_
  show own_Goes p e below (s₁.setTop (mkF m 4 #[.val .null, .unset] [(.int (0 : Int32))])) (G_own_spNM Z  h0 n0 s)
  refine own_go (fun _ k_ => XS.ifYes X0.here hx rfl (pc0 := 4) (pc' := 19) rfl (hb hby own_d7_4) rfl (XT.i0_eq_t (rfl : (0 : Int32) = (0 : Int32))) (by decide) (by decide) k_) ?_
  show own_Goes p e below (s₁.setTop (mkF m 19 #[.val .null, .unset] [])) (G_own_spNM Z  h0 n0 s)
  refine own_go (fun _ k_ => XS.iconst X0.here hx rfl (hb hby own_d7_19) k_) ?_
  show own_Goes p e below (s₁.setTop (mkF m 20 #[.val .null, .unset] [(.int (1 : Int32))])) (G_own_spNM Z  h0 n0 s)
  obtain ⟨T46, h46, cA46, X46, e46, E46, A46, O46, st46⟩ := newR X0 hx hZ hown (hw _ (List.mem_of_getElem? (i := 44) rfl)) (hw _ (List.mem_of_getElem? (i := 26) rfl)) e0 (g := (mkF m 20 #[.val .null, .unset] [(.int (1 : Int32))])) rfl (hb hby own_d7_20) rfl (by decide) (cap := 1) (by decide) (by decide) (by decide) (by decide)
  obtain ⟨b46, g46⟩ : ∃ z, z = h0.size := ⟨_, rfl⟩
  rw [← g46] at A46 st46
  have g_b46 : n0 ≤ b46 := by rw [g46]; exact Z0
  have sz_b46 : h0.size ≤ b46 := by rw [g46]; exact K44.1
  have K46 : Keep h0 h46 [] := K44.ext E46
  have Z46 : n0 ≤ h46.size := Nat.le_trans Z0 E46.1
  have Av46 : Arv Z h46 b46 cA46 (.object "java/lang/Object") (1 : Int32) [] .null := Arv.new A46 (by decide)
  have Aw46 : Arv Z h46 b46 cA46 (.object "java/lang/Object") (1 : Int32) [.null] (.null) := Av46.pad (pad_rep [] _ 1)
  refine own_go st46 ?_
  show own_Goes p e below (T46.setTop (mkF m 23 #[.val .null, .unset] [(.ref b46)])) (G_own_spNM Z  h0 n0 s)
  refine own_go (fun _ k_ => XS.dup X46.here hx rfl (hb hby own_d7_23) rfl rfl k_) ?_
  show own_Goes p e below (T46.setTop (mkF m 24 #[.val .null, .unset] [(.ref b46), (.ref b46)])) (G_own_spNM Z  h0 n0 s)
  refine own_go (fun _ k_ => XS.iconst X46.here hx rfl (hb hby own_d7_24) k_) ?_
  show own_Goes p e below (T46.setTop (mkF m 25 #[.val .null, .unset] [(.int (0 : Int32)), (.ref b46), (.ref b46)])) (G_own_spNM Z  h0 n0 s)
  refine own_go (fun _ k_ => XS.aloadN X46.here hx rfl (hb hby own_d7_25) rfl rfl k_) ?_
  show own_Goes p e below (T46.setTop (mkF m 26 #[.val .null, .unset] [.null, (.int (0 : Int32)), (.ref b46), (.ref b46)])) (G_own_spNM Z  h0 n0 s)
  obtain ⟨c48, Ar48, q48, s48, z48, H48, G48⟩ := id Aw46
  have hin48 := inb_of s48 (j := (0 : Int32)) (by decide)
  obtain ⟨T48, h48, X48, e48, W48, st48⟩ := stR X46 hx hZ e46 Ar48 hin48 rfl (Or.inl rfl) (g := (mkF m 26 #[.val .null, .unset] [.null, (.int (0 : Int32)), (.ref b46), (.ref b46)])) rfl rfl (hb hby own_d7_26)
  have Av48 : Arv Z h48 b46 cA46 (.object "java/lang/Object") (1 : Int32) [.null] (.null) := Arv.set Ar48 q48 s48 z48 H48 G48 (v := .null) rfl W48 0 rfl (by first | decide | simp)
  have N48 := Fr.snoc X48 N0 g_b46
  have Z48 : n0 ≤ h48.size := by rw [W48.size]; exact Z46
  have K48 : Keep h0 h48 [] := K46.wr W48 (Or.inr sz_b46)
  refine own_go st48 ?_
  show own_Goes p e below (T48.setTop (mkF m 27 #[.val .null, .unset] [(.ref b46)])) (G_own_spNM Z  h0 n0 s)
  obtain ⟨fs, hr, hrun, hended, hW, hsame⟩ := X48.leave (v := some (.ref b46)) (fun h => by rw [Bd.returns] at h; cases h) Bd.notSynchronized
  refine ⟨_, _, retOut X48 hx (t := (.array (.object "java/lang/Object"))) (i := .areturn) Bd.returns rfl (Or.inr (Or.inr (Or.inr (Or.inr ⟨rfl, rfl, rfl⟩)))) (hb hby own_d7_27) hr, hrun, hended, _, _, rfl, ?_, ⟨_, rfl⟩, hW, hsame.mono (by decide) (by decide)⟩
  show Q_own_spNM Z  h0 n0 _ T48.heap _
  rw [e48]
  exact ⟨⟨_, _, rfl, Av48⟩, N48, K48⟩
theorem own_ef_own_of1RM (m : MethodId) (aa : Addr) : entryFrame m #[(.ref aa)] 1 = (mkF m 0 #[.val (.ref aa)] []) := by first | (simp [entryFrame, mkF, argsToLocals, Value.category]; done) | rfl
def Q_own_of1RM (Z : State) (aa : Addr) (ka : ClassId) (av : Addr) (h0 : Heap) (n0 : Nat) (v : Option Value) (h : Heap) (L : List Loc) : Prop := v = some (.ref av) ∧ Fr n0 L ∧ h = h0
def G_own_of1RM (Z : State) (aa : Addr) (ka : ClassId) (av : Addr) (h0 : Heap) (n0 : Nat) (s : State) : Outcome → State → Prop := fun o U' => ∃ v L, o = .returned v ∧ Q_own_of1RM Z aa ka av h0 n0 v U'.heap L ∧ FrameEnd s o U' L ({ frames := 0, cells := 0, slots := 0, locals := 0 } : Room).cells ({ frames := 0, cells := 0, slots := 0, locals := 0 } : Room).slots
set_option maxRecDepth 65536 in
set_option maxHeartbeats 40000000 in
theorem own_of1RM (l : Launch) (Z : State) (a0 : Array Value) (hw : ∀ d ∈ tables_1, d.before a0 Z = true) (ws : List Jvm.Cond) (aa : Addr) (ka : ClassId) (av : Addr) (h0 : Heap) (n0 : Nat) (Z0 : n0 ≤ h0.size) (A_a : Arv Z h0 aa ka (.object "java/lang/Object") (1 : Int32) [(.ref av)] (.null)) :
    MetFree l (⟨"com/example/remnant/remnant/core/MultipleValues", "of", "([Ljava/lang/Object;)Ljava/lang/Object;"⟩ : MethodName) (head1 (Jvm.Cond.code (⟨"com/example/remnant/remnant/core/MultipleValues", "of", "([Ljava/lang/Object;)Ljava/lang/Object;"⟩ : MethodName) prog_105_method_2_code 1 (some (.object "java/lang/Object")) :: ws) ({ frames := 0, cells := 0, slots := 0, locals := 0 } : Room)) (fun a U => a = #[(.ref aa)] ∧ Z.Warmed39 U.vm ∧ U.heap = h0) (fun _ _ _ _ _ => True) (fun _ U o U' => ∃ v L, o = .returned v ∧ Q_own_of1RM Z aa ka av h0 n0 v U'.heap L ∧ FrameEnd U o U' L ({ frames := 0, cells := 0, slots := 0, locals := 0 } : Room).cells ({ frames := 0, cells := 0, slots := 0, locals := 0 } : Room).slots) := by
  refine MetFree.of_bodySF (plainFor_of_name own_pn5) hisR ?_
  intro p e s m args below meth c s₁ Bd hml0 hP hK
  obtain ⟨rfl, hZ, hh⟩ := hP
  have hx := Bd.exec
  have hby := Bd.bytes
  have hml : c.maxLocals = 1 := hml0
  have hown : s.vm.findClass "com/example/remnant/remnant/core/MultipleValues" = some m.cls := findClass_of_methodNamed Bd.named
  have hnm := (name_of_methodNamed Bd.named Bd.method).1
  have X0 : Stand p l e ({ frames := 0, cells := 0, slots := 0, locals := 0 } : Room) s m #[(.ref aa)] below meth c s₁ [] 0 0 := Stand.of_body Bd
  have e0 : s₁.heap = h0 := by rw [← hh, Bd.state]; rfl
  have N0 := Fr.nil n0
  refine own_go (S := s₁.setTop (entryFrame m #[(.ref aa)] 1)) (Q := (G_own_of1RM Z aa ka av h0 n0 s)) (fun _ k_ => castTop (own_ef_own_of1RM m aa) k_) ?_
  show own_Goes p e below (s₁.setTop (mkF m 0 #[.val (.ref aa)] [])) (G_own_of1RM Z aa ka av h0 n0 s)
  refine own_go (fun _ k_ => XS.aloadN X0.here hx rfl (hb hby own_d5_0) rfl rfl k_) ?_
  show own_Goes p e below (s₁.setTop (mkF m 1 #[.val (.ref aa)] [(.ref aa)])) (G_own_of1RM Z aa ka av h0 n0 s)
  obtain ⟨c49, Ar49, q49, s49, z49, H49, G49⟩ := id A_a
  refine own_go (fun _ k_ => X0.arraylength hx (by rw [e0]; exact Ar49.1) (State.isArrayOf_alike hZ.alike Ar49.2.1) (g := (mkF m 1 #[.val (.ref aa)] [(.ref aa)])) rfl rfl (hb hby own_d5_1) _ k_) ?_
  rw [len_of s49 z49]
  show own_Goes p e below (s₁.setTop (mkF m 2 #[.val (.ref aa)] [(.int (1 : Int32))])) (G_own_of1RM Z aa ka av h0 n0 s)
  refine own_go (fun _ k_ => XS.iconst X0.here hx rfl (hb hby own_d5_2) k_) ?_
  show own_Goes p e below (s₁.setTop (mkF m 3 #[.val (.ref aa)] [(.int (1 : Int32)), (.int (1 : Int32))])) (G_own_of1RM Z aa ka av h0 n0 s)
  refine own_go (fun _ k_ => XS.icmpNo X0.here hx rfl (hb hby own_d5_3) rfl (XT.ii_ne_f (rfl : (1 : Int32) = (1 : Int32))) k_) ?_
  show own_Goes p e below (s₁.setTop (mkF m 6 #[.val (.ref aa)] [])) (G_own_of1RM Z aa ka av h0 n0 s)
  refine own_go (fun _ k_ => XS.aloadN X0.here hx rfl (hb hby own_d5_6) rfl rfl k_) ?_
  show own_Goes p e below (s₁.setTop (mkF m 7 #[.val (.ref aa)] [(.ref aa)])) (G_own_of1RM Z aa ka av h0 n0 s)
  refine own_go (fun _ k_ => XS.iconst X0.here hx rfl (hb hby own_d5_7) k_) ?_
  show own_Goes p e below (s₁.setTop (mkF m 8 #[.val (.ref aa)] [(.int (0 : Int32)), (.ref aa)])) (G_own_of1RM Z aa ka av h0 n0 s)
  obtain ⟨c50, Ar50, q50, s50, z50, H50, G50⟩ := id A_a
  have hin50 := inb_of s50 (j := (0 : Int32)) (by decide)
  have hat50 := H50.at hin50 (v := (.ref av)) rfl
  refine own_go (fun _ k_ => X0.aaload hx (j := (0 : Int32)) (v := (.ref av)) (by rw [e0]; exact Ar50.1) (State.isArrayOf_alike hZ.alike Ar50.2.1) rfl Ar50.2.2 hin50 hat50 (g := (mkF m 8 #[.val (.ref aa)] [(.int (0 : Int32)), (.ref aa)])) rfl rfl (hb hby own_d5_8) _ k_) ?_
  show own_Goes p e below (s₁.setTop (mkF m 9 #[.val (.ref aa)] [(.ref av)])) (G_own_of1RM Z aa ka av h0 n0 s)
  refine own_go (fun _ k_ => XS.goto X0.here hx rfl (pc0 := 9) (pc' := 20) rfl (hb hby own_d5_9) (by decide) (by decide) k_) ?_
  show own_Goes p e below (s₁.setTop (mkF m 20 #[.val (.ref aa)] [(.ref av)])) (G_own_of1RM Z aa ka av h0 n0 s)
  obtain ⟨fs, hr, hrun, hended, hW, hsame⟩ := X0.leave (v := some (.ref av)) (fun h => by rw [Bd.returns] at h; cases h) Bd.notSynchronized
  refine ⟨_, _, retOut X0 hx (t := (.object "java/lang/Object")) (i := .areturn) Bd.returns rfl (Or.inr (Or.inr (Or.inr (Or.inr ⟨rfl, rfl, rfl⟩)))) (hb hby own_d5_20) hr, hrun, hended, _, _, rfl, ?_, ⟨_, rfl⟩, hW, hsame.mono (by decide) (by decide)⟩
  show Q_own_of1RM Z aa ka av h0 n0 _ s₁.heap _
  rw [e0]
  exact ⟨rfl, N0, rfl⟩
theorem own_ef_own_spRM (m : MethodId) (av : Addr) : entryFrame m #[(.ref av)] 2 = (mkF m 0 #[.val (.ref av), .unset] []) := by first | (simp [entryFrame, mkF, argsToLocals, Value.category]; done) | rfl
def Q_own_spRM (Z : State) (av : Addr) (h0 : Heap) (n0 : Nat) (v : Option Value) (h : Heap) (L : List Loc) : Prop := (∃ (b : Addr) (kb : ClassId), v = some (.ref b) ∧ Arv Z h b kb (.object "java/lang/Object") (1 : Int32) [(.ref av)] (.null)) ∧ Fr n0 L ∧ Keep h0 h []
def G_own_spRM (Z : State) (av : Addr) (h0 : Heap) (n0 : Nat) (s : State) : Outcome → State → Prop := fun o U' => ∃ v L, o = .returned v ∧ Q_own_spRM Z av h0 n0 v U'.heap L ∧ FrameEnd s o U' L ({ frames := 0, cells := 1, slots := 1, locals := 0 } : Room).cells ({ frames := 0, cells := 1, slots := 1, locals := 0 } : Room).slots
set_option maxRecDepth 65536 in
set_option maxHeartbeats 40000000 in
theorem own_spRM (l : Launch) (Z : State) (a0 : Array Value) (hw : ∀ d ∈ tables_1, d.before a0 Z = true) (ws : List Jvm.Cond) (av : Addr) (h0 : Heap) (n0 : Nat) (Z0 : n0 ≤ h0.size) (E_av : Exa Z h0 av "java/lang/Long") :
    MetFree l (⟨"com/example/remnant/remnant/core/MultipleValues", "spread", "(Ljava/lang/Object;)[Ljava/lang/Object;"⟩ : MethodName) (head1 (Jvm.Cond.code (⟨"com/example/remnant/remnant/core/MultipleValues", "spread", "(Ljava/lang/Object;)[Ljava/lang/Object;"⟩ : MethodName) prog_105_method_3_code 2 (some (.array (.object "java/lang/Object"))) :: ws) ({ frames := 0, cells := 1, slots := 1, locals := 0 } : Room)) (fun a U => a = #[(.ref av)] ∧ Z.Warmed39 U.vm ∧ U.heap = h0) (fun _ _ _ _ _ => True) (fun _ U o U' => ∃ v L, o = .returned v ∧ Q_own_spRM Z av h0 n0 v U'.heap L ∧ FrameEnd U o U' L ({ frames := 0, cells := 1, slots := 1, locals := 0 } : Room).cells ({ frames := 0, cells := 1, slots := 1, locals := 0 } : Room).slots) := by
  refine MetFree.of_bodySF (plainFor_of_name own_pn7) hisR ?_
  intro p e s m args below meth c s₁ Bd hml0 hP hK
  obtain ⟨rfl, hZ, hh⟩ := hP
  have hx := Bd.exec
  have hby := Bd.bytes
  have hml : c.maxLocals = 2 := hml0
  have hown : s.vm.findClass "com/example/remnant/remnant/core/MultipleValues" = some m.cls := findClass_of_methodNamed Bd.named
  have hnm := (name_of_methodNamed Bd.named Bd.method).1
  have X0 : Stand p l e ({ frames := 0, cells := 1, slots := 1, locals := 0 } : Room) s m #[(.ref av)] below meth c s₁ [] 0 0 := Stand.of_body Bd
  have e0 : s₁.heap = h0 := by rw [← hh, Bd.state]; rfl
  have N0 := Fr.nil n0
  refine own_go (S := s₁.setTop (entryFrame m #[(.ref av)] 2)) (Q := (G_own_spRM Z av h0 n0 s)) (fun _ k_ => castTop (own_ef_own_spRM m av) k_) ?_
  show own_Goes p e below (s₁.setTop (mkF m 0 #[.val (.ref av), .unset] [])) (G_own_spRM Z av h0 n0 s)
  have K51 : Keep h0 h0 [] := Keep.refl h0 []
  refine own_go (fun _ k_ => XS.aloadN X0.here hx rfl (hb hby own_d7_0) rfl rfl k_) ?_
  show own_Goes p e below (s₁.setTop (mkF m 1 #[.val (.ref av), .unset] [(.ref av)])) (G_own_spRM Z av h0 n0 s)
  obtain ⟨T52, X52, e52, st52⟩ := instNo X0 hx hZ hown (hw _ (List.mem_of_getElem? (i := 31) rfl)) e0 E_av (own_notmv hw) (g := (mkF m 1 #[.val (.ref av), .unset] [(.ref av)])) rfl rfl (hb hby own_d7_1)
  refine own_go st52 ?_
  show own_Goes p e below (T52.setTop (mkF m 4 #[.val (.ref av), .unset] [(.int (0 : Int32))])) (G_own_spRM Z av h0 n0 s)
  refine own_go (fun _ k_ => XS.ifYes X52.here hx rfl (pc0 := 4) (pc' := 19) rfl (hb hby own_d7_4) rfl (XT.i0_eq_t (rfl : (0 : Int32) = (0 : Int32))) (by decide) (by decide) k_) ?_
  show own_Goes p e below (T52.setTop (mkF m 19 #[.val (.ref av), .unset] [])) (G_own_spRM Z av h0 n0 s)
  refine own_go (fun _ k_ => XS.iconst X52.here hx rfl (hb hby own_d7_19) k_) ?_
  show own_Goes p e below (T52.setTop (mkF m 20 #[.val (.ref av), .unset] [(.int (1 : Int32))])) (G_own_spRM Z av h0 n0 s)
  obtain ⟨T53, h53, cA53, X53, e53, E53, A53, O53, st53⟩ := newR X52 hx hZ hown (hw _ (List.mem_of_getElem? (i := 44) rfl)) (hw _ (List.mem_of_getElem? (i := 26) rfl)) e52 (g := (mkF m 20 #[.val (.ref av), .unset] [(.int (1 : Int32))])) rfl (hb hby own_d7_20) rfl (by decide) (cap := 1) (by decide) (by decide) (by decide) (by decide)
  obtain ⟨b53, g53⟩ : ∃ z, z = h0.size := ⟨_, rfl⟩
  rw [← g53] at A53 st53
  have ne_av_b53 : av ≠ b53 := by rw [g53]; exact Nat.ne_of_lt E_av.lt
  have E_55 := E_av.ext E53
  have g_b53 : n0 ≤ b53 := by rw [g53]; exact Z0
  have sz_b53 : h0.size ≤ b53 := by rw [g53]; exact K51.1
  have K53 : Keep h0 h53 [] := K51.ext E53
  have Z53 : n0 ≤ h53.size := Nat.le_trans Z0 E53.1
  have Av53 : Arv Z h53 b53 cA53 (.object "java/lang/Object") (1 : Int32) [] .null := Arv.new A53 (by decide)
  have Aw53 : Arv Z h53 b53 cA53 (.object "java/lang/Object") (1 : Int32) [.null] (.null) := Av53.pad (pad_rep [] _ 1)
  refine own_go st53 ?_
  show own_Goes p e below (T53.setTop (mkF m 23 #[.val (.ref av), .unset] [(.ref b53)])) (G_own_spRM Z av h0 n0 s)
  refine own_go (fun _ k_ => XS.dup X53.here hx rfl (hb hby own_d7_23) rfl rfl k_) ?_
  show own_Goes p e below (T53.setTop (mkF m 24 #[.val (.ref av), .unset] [(.ref b53), (.ref b53)])) (G_own_spRM Z av h0 n0 s)
  refine own_go (fun _ k_ => XS.iconst X53.here hx rfl (hb hby own_d7_24) k_) ?_
  show own_Goes p e below (T53.setTop (mkF m 25 #[.val (.ref av), .unset] [(.int (0 : Int32)), (.ref b53), (.ref b53)])) (G_own_spRM Z av h0 n0 s)
  refine own_go (fun _ k_ => XS.aloadN X53.here hx rfl (hb hby own_d7_25) rfl rfl k_) ?_
  show own_Goes p e below (T53.setTop (mkF m 26 #[.val (.ref av), .unset] [(.ref av), (.int (0 : Int32)), (.ref b53), (.ref b53)])) (G_own_spRM Z av h0 n0 s)
  obtain ⟨c56, Ar56, q56, s56, z56, H56, G56⟩ := id Aw53
  have hin56 := inb_of s56 (j := (0 : Int32)) (by decide)
  obtain ⟨T56, h56, X56, e56, W56, st56⟩ := stR X53 hx hZ e53 Ar56 hin56 rfl (Sto.ofV Ar56 q56 O53 (Ins.of_exa E_55 (hw _ (List.mem_of_getElem? (i := 43) rfl)))) (g := (mkF m 26 #[.val (.ref av), .unset] [(.ref av), (.int (0 : Int32)), (.ref b53), (.ref b53)])) rfl rfl (hb hby own_d7_26)
  have E_57 := E_55.wr W56
  have Av56 : Arv Z h56 b53 cA53 (.object "java/lang/Object") (1 : Int32) [(.ref av)] (.null) := Arv.set Ar56 q56 s56 z56 H56 G56 (v := (.ref av)) rfl W56 0 rfl (by first | decide | simp)
  have N56 := Fr.snoc X56 N0 g_b53
  have Z56 : n0 ≤ h56.size := by rw [W56.size]; exact Z53
  have K56 : Keep h0 h56 [] := K53.wr W56 (Or.inr sz_b53)
  refine own_go st56 ?_
  show own_Goes p e below (T56.setTop (mkF m 27 #[.val (.ref av), .unset] [(.ref b53)])) (G_own_spRM Z av h0 n0 s)
  obtain ⟨fs, hr, hrun, hended, hW, hsame⟩ := X56.leave (v := some (.ref b53)) (fun h => by rw [Bd.returns] at h; cases h) Bd.notSynchronized
  refine ⟨_, _, retOut X56 hx (t := (.array (.object "java/lang/Object"))) (i := .areturn) Bd.returns rfl (Or.inr (Or.inr (Or.inr (Or.inr ⟨rfl, rfl, rfl⟩)))) (hb hby own_d7_27) hr, hrun, hended, _, _, rfl, ?_, ⟨_, rfl⟩, hW, hsame.mono (by decide) (by decide)⟩
  show Q_own_spRM Z av h0 n0 _ T56.heap _
  rw [e56]
  exact ⟨⟨_, _, rfl, Av56⟩, N56, K56⟩
theorem own_ef_own_spMVM (m : MethodId) (ab : Addr) : entryFrame m #[(.ref ab)] 2 = (mkF m 0 #[.val (.ref ab), .unset] []) := by first | (simp [entryFrame, mkF, argsToLocals, Value.category]; done) | rfl
def Q_own_spMVM (Z : State) (ab : Addr) (aa : Addr) (h0 : Heap) (n0 : Nat) (v : Option Value) (h : Heap) (L : List Loc) : Prop := v = some (.ref aa) ∧ Fr n0 L ∧ h = h0
def G_own_spMVM (Z : State) (ab : Addr) (aa : Addr) (h0 : Heap) (n0 : Nat) (s : State) : Outcome → State → Prop := fun o U' => ∃ v L, o = .returned v ∧ Q_own_spMVM Z ab aa h0 n0 v U'.heap L ∧ FrameEnd s o U' L ({ frames := 0, cells := 0, slots := 0, locals := 0 } : Room).cells ({ frames := 0, cells := 0, slots := 0, locals := 0 } : Room).slots
theorem own_d7_7 : decode prog_105_method_3_code 7 = .ok (.aload_n 0, 1) := by decide +kernel
theorem own_d7_8 : decode prog_105_method_3_code 8 = .ok (.checkcast 8, 3) := by decide +kernel
theorem own_d7_11 : decode prog_105_method_3_code 11 = .ok (.astore_n 1, 1) := by decide +kernel
theorem own_d7_12 : decode prog_105_method_3_code 12 = .ok (.aload_n 1, 1) := by decide +kernel
theorem own_d7_13 : decode prog_105_method_3_code 13 = .ok (.getfield 7, 3) := by decide +kernel
theorem own_d7_16 : decode prog_105_method_3_code 16 = .ok (.goto 11, 3) := by decide +kernel
set_option maxRecDepth 65536 in
set_option maxHeartbeats 40000000 in
theorem own_spMVM (l : Launch) (Z : State) (a0 : Array Value) (hw : ∀ d ∈ tables_1, d.before a0 Z = true) (ws : List Jvm.Cond) (ab : Addr) (aa : Addr) (h0 : Heap) (n0 : Nat) (Z0 : n0 ≤ h0.size) (E_ab : Exa Z h0 ab "com/example/remnant/remnant/core/MultipleValues") (F_ab : Fld Z h0 ab "com/example/remnant/remnant/core/MultipleValues" "values" "[Ljava/lang/Object;" (.ref aa)) :
    MetFree l (⟨"com/example/remnant/remnant/core/MultipleValues", "spread", "(Ljava/lang/Object;)[Ljava/lang/Object;"⟩ : MethodName) (head1 (Jvm.Cond.code (⟨"com/example/remnant/remnant/core/MultipleValues", "spread", "(Ljava/lang/Object;)[Ljava/lang/Object;"⟩ : MethodName) prog_105_method_3_code 2 (some (.array (.object "java/lang/Object"))) :: ws) ({ frames := 0, cells := 0, slots := 0, locals := 0 } : Room)) (fun a U => a = #[(.ref ab)] ∧ Z.Warmed39 U.vm ∧ U.heap = h0) (fun _ _ _ _ _ => True) (fun _ U o U' => ∃ v L, o = .returned v ∧ Q_own_spMVM Z ab aa h0 n0 v U'.heap L ∧ FrameEnd U o U' L ({ frames := 0, cells := 0, slots := 0, locals := 0 } : Room).cells ({ frames := 0, cells := 0, slots := 0, locals := 0 } : Room).slots) := by
  refine MetFree.of_bodySF (plainFor_of_name own_pn7) hisR ?_
  intro p e s m args below meth c s₁ Bd hml0 hP hK
  obtain ⟨rfl, hZ, hh⟩ := hP
  have hx := Bd.exec
  have hby := Bd.bytes
  have hml : c.maxLocals = 2 := hml0
  have hown : s.vm.findClass "com/example/remnant/remnant/core/MultipleValues" = some m.cls := findClass_of_methodNamed Bd.named
  have hnm := (name_of_methodNamed Bd.named Bd.method).1
  have X0 : Stand p l e ({ frames := 0, cells := 0, slots := 0, locals := 0 } : Room) s m #[(.ref ab)] below meth c s₁ [] 0 0 := Stand.of_body Bd
  have e0 : s₁.heap = h0 := by rw [← hh, Bd.state]; rfl
  have N0 := Fr.nil n0
  refine own_go (S := s₁.setTop (entryFrame m #[(.ref ab)] 2)) (Q := (G_own_spMVM Z ab aa h0 n0 s)) (fun _ k_ => castTop (own_ef_own_spMVM m ab) k_) ?_
  show own_Goes p e below (s₁.setTop (mkF m 0 #[.val (.ref ab), .unset] [])) (G_own_spMVM Z ab aa h0 n0 s)
  refine own_go (fun _ k_ => XS.aloadN X0.here hx rfl (hb hby own_d7_0) rfl rfl k_) ?_
  show own_Goes p e below (s₁.setTop (mkF m 1 #[.val (.ref ab), .unset] [(.ref ab)])) (G_own_spMVM Z ab aa h0 n0 s)
  obtain ⟨T58, X58, e58, st58⟩ := instY X0 hx hZ hown (hw _ (List.mem_of_getElem? (i := 31) rfl)) e0 (Ins.self E_ab) (g := (mkF m 1 #[.val (.ref ab), .unset] [(.ref ab)])) rfl rfl (hb hby own_d7_1)
  refine own_go st58 ?_
  show own_Goes p e below (T58.setTop (mkF m 4 #[.val (.ref ab), .unset] [(.int (1 : Int32))])) (G_own_spMVM Z ab aa h0 n0 s)
  refine own_go (fun _ k_ => XS.ifNo X58.here hx rfl (hb hby own_d7_4) rfl (XT.i0_eq_f (by decide)) k_) ?_
  show own_Goes p e below (T58.setTop (mkF m 7 #[.val (.ref ab), .unset] [])) (G_own_spMVM Z ab aa h0 n0 s)
  refine own_go (fun _ k_ => XS.aloadN X58.here hx rfl (hb hby own_d7_7) rfl rfl k_) ?_
  show own_Goes p e below (T58.setTop (mkF m 8 #[.val (.ref ab), .unset] [(.ref ab)])) (G_own_spMVM Z ab aa h0 n0 s)
  obtain ⟨T59, X59, e59, st59⟩ := castY X58 hx hZ hown (hw _ (List.mem_of_getElem? (i := 31) rfl)) e58 (Ins.self E_ab) (g := (mkF m 8 #[.val (.ref ab), .unset] [(.ref ab)])) rfl rfl (hb hby own_d7_8)
  refine own_go st59 ?_
  show own_Goes p e below (T59.setTop (mkF m 11 #[.val (.ref ab), .unset] [(.ref ab)])) (G_own_spMVM Z ab aa h0 n0 s)
  refine own_go (fun _ k_ => XS.astoreN X59.here hx rfl (hb hby own_d7_11) rfl rfl (l' := #[.val (.ref ab), .val (.ref ab)]) rfl k_) ?_
  show own_Goes p e below (T59.setTop (mkF m 12 #[.val (.ref ab), .val (.ref ab)] [])) (G_own_spMVM Z ab aa h0 n0 s)
  refine own_go (fun _ k_ => XS.aloadN X59.here hx rfl (hb hby own_d7_12) rfl rfl k_) ?_
  show own_Goes p e below (T59.setTop (mkF m 13 #[.val (.ref ab), .val (.ref ab)] [(.ref ab)])) (G_own_spMVM Z ab aa h0 n0 s)
  obtain ⟨T60, X60, e60, st60⟩ := getF X59 hx hZ hown (host := "") (Or.inl (hw _ (List.mem_of_getElem? (i := 37) rfl))) Via.refl e59 F_ab (g := (mkF m 13 #[.val (.ref ab), .val (.ref ab)] [(.ref ab)])) rfl rfl (hb hby own_d7_13)
  refine own_go st60 ?_
  show own_Goes p e below (T60.setTop (mkF m 16 #[.val (.ref ab), .val (.ref ab)] [(.ref aa)])) (G_own_spMVM Z ab aa h0 n0 s)
  refine own_go (fun _ k_ => XS.goto X60.here hx rfl (pc0 := 16) (pc' := 27) rfl (hb hby own_d7_16) (by decide) (by decide) k_) ?_
  show own_Goes p e below (T60.setTop (mkF m 27 #[.val (.ref ab), .val (.ref ab)] [(.ref aa)])) (G_own_spMVM Z ab aa h0 n0 s)
  obtain ⟨fs, hr, hrun, hended, hW, hsame⟩ := X60.leave (v := some (.ref aa)) (fun h => by rw [Bd.returns] at h; cases h) Bd.notSynchronized
  refine ⟨_, _, retOut X60 hx (t := (.array (.object "java/lang/Object"))) (i := .areturn) Bd.returns rfl (Or.inr (Or.inr (Or.inr (Or.inr ⟨rfl, rfl, rfl⟩)))) (hb hby own_d7_27) hr, hrun, hended, _, _, rfl, ?_, ⟨_, rfl⟩, hW, hsame.mono (by decide) (by decide)⟩
  show Q_own_spMVM Z ab aa h0 n0 _ T60.heap _
  rw [e60]
  exact ⟨rfl, N0, rfl⟩
theorem own_pn0 : plainName "com/example/remnant/remnant/core/MultipleValuesSpreadPinLaw" = true := by first | (simp [plainName, overriddenIn]; done) | decide +kernel
theorem own_ef_own_law (m : MethodId) (k : Int32) (p1 : Int64) (p2 : Int64) (p3 : Int64) : entryFrame m #[(.int k), (.long p1), (.long p2), (.long p3)] maxLocals = (mkF m 0 #[.val (.int k), .val (.long p1), .second, .val (.long p2), .second, .val (.long p3), .second, .unset, .unset, .unset, .unset, .unset, .unset, .unset, .unset] []) := by first | (simp [entryFrame, mkF, argsToLocals, Value.category, maxLocals]; done) | rfl
def Q_own_law (Z : State) (k : Int32) (p1 : Int64) (p2 : Int64) (p3 : Int64) (ac : Addr) (cl : Cell) (h0 : Heap) (n0 : Nat) (v : Option Value) (h : Heap) (L : List Loc) : Prop := v = some (.int 1) ∧ Fr n0 L
def G_own_law (Z : State) (k : Int32) (p1 : Int64) (p2 : Int64) (p3 : Int64) (ac : Addr) (cl : Cell) (h0 : Heap) (n0 : Nat) (s : State) : Outcome → State → Prop := fun o U' => ∃ v L, o = .returned v ∧ Q_own_law Z k p1 p2 p3 ac cl h0 n0 v U'.heap L ∧ FrameEnd s o U' L room_1.cells room_1.slots
theorem own_pd3 : parseMethodDescriptor "(J)Ljava/lang/Long;" = some ⟨[.long], some (.object "java/lang/Long")⟩ := by decide +kernel
theorem own_pd4 : parseMethodDescriptor "([Ljava/lang/Object;)Ljava/lang/Object;" = some ⟨[(.array (.object "java/lang/Object"))], some (.object "java/lang/Object")⟩ := by decide +kernel
theorem own_pd5 : parseMethodDescriptor "(Ljava/lang/Object;)[Ljava/lang/Object;" = some ⟨[(.object "java/lang/Object")], some (.array (.object "java/lang/Object"))⟩ := by decide +kernel
set_option maxRecDepth 65536 in
set_option maxHeartbeats 40000000 in
theorem own_law (l : Launch) (Z : State) (a0 : Array Value) (hw : ∀ d ∈ tables_1, d.before a0 Z = true) (ws : List Jvm.Cond) (k : Int32) (p1 : Int64) (p2 : Int64) (p3 : Int64) (ac : Addr) (cl : Cell) (h0 : Heap) (n0 : Nat) (Z0 : n0 ≤ h0.size) (O0 : Old Z n0 h0) (S0 : Sta Z Z.heap "java/lang/Long$LongCache" "cache" "[Ljava/lang/Long;" (.ref ac)) (A0 : Arr Z Z.heap ac cl (.object "java/lang/Long")) (hsz : cl.slots.size = 256) (hel : ∀ j, j < 256 → ∃ y, cl.slots[j]? = some (.ref y) ∧ Exa Z Z.heap y "java/lang/Long") :
    MetFree l x (head1 (Jvm.Cond.code x code maxLocals ret :: ws) room_1) (fun a U => a = #[(.int k), (.long p1), (.long p2), (.long p3)] ∧ Z.Warmed39 U.vm ∧ U.heap = h0) (fun _ _ _ _ _ => True) (fun _ U o U' => ∃ v L, o = .returned v ∧ Q_own_law Z k p1 p2 p3 ac cl h0 n0 v U'.heap L ∧ FrameEnd U o U' L room_1.cells room_1.slots) := by
  refine MetFree.of_bodySF (plainFor_of_name own_pn0) hisR ?_
  intro p e s m args below meth c s₁ Bd hml0 hP hK
  obtain ⟨rfl, hZ, hh⟩ := hP
  have hx := Bd.exec
  have hby := Bd.bytes
  have hml : c.maxLocals = 15 := hml0
  have hown : s.vm.findClass "com/example/remnant/remnant/core/MultipleValuesSpreadPinLaw" = some m.cls := findClass_of_methodNamed Bd.named
  have hnm := (name_of_methodNamed Bd.named Bd.method).1
  have X0 : Stand p l e room_1 s m #[(.int k), (.long p1), (.long p2), (.long p3)] below meth c s₁ [] 0 0 := Stand.of_body Bd
  have e0 : s₁.heap = h0 := by rw [← hh, Bd.state]; rfl
  have N0 := Fr.nil n0
  refine own_go (S := s₁.setTop (entryFrame m #[(.int k), (.long p1), (.long p2), (.long p3)] maxLocals)) (Q := (G_own_law Z k p1 p2 p3 ac cl h0 n0 s)) (fun _ k_ => castTop (own_ef_own_law m k p1 p2 p3) k_) ?_
  show own_Goes p e below (s₁.setTop (mkF m 0 #[.val (.int k), .val (.long p1), .second, .val (.long p2), .second, .val (.long p3), .second, .unset, .unset, .unset, .unset, .unset, .unset, .unset, .unset] [])) (G_own_law Z k p1 p2 p3 ac cl h0 n0 s)
  refine own_go (fun _ k_ => XS.iloadN X0.here hx rfl (hb hby at_0) rfl k_) ?_
  show own_Goes p e below (s₁.setTop (mkF m 1 #[.val (.int k), .val (.long p1), .second, .val (.long p2), .second, .val (.long p3), .second, .unset, .unset, .unset, .unset, .unset, .unset, .unset, .unset] [(.int k)])) (G_own_law Z k p1 p2 p3 ac cl h0 n0 s)
  refine own_go (fun _ k_ => XS.iconst X0.here hx rfl (hb hby at_1) k_) ?_
  show own_Goes p e below (s₁.setTop (mkF m 2 #[.val (.int k), .val (.long p1), .second, .val (.long p2), .second, .val (.long p3), .second, .unset, .unset, .unset, .unset, .unset, .unset, .unset, .unset] [(.int (3 : Int32)), (.int k)])) (G_own_law Z k p1 p2 p3 ac cl h0 n0 s)
  refine own_go (fun _ k_ => XS.iand X0.here hx rfl (hb hby at_2) rfl k_) ?_
  show own_Goes p e below (s₁.setTop (mkF m 3 #[.val (.int k), .val (.long p1), .second, .val (.long p2), .second, .val (.long p3), .second, .unset, .unset, .unset, .unset, .unset, .unset, .unset, .unset] [(.int (k &&& (3 : Int32)))])) (G_own_law Z k p1 p2 p3 ac cl h0 n0 s)
  refine own_go (fun _ k_ => XS.istore X0.here hx rfl (hb hby at_3) rfl (l' := #[.val (.int k), .val (.long p1), .second, .val (.long p2), .second, .val (.long p3), .second, .val (.int (k &&& (3 : Int32))), .unset, .unset, .unset, .unset, .unset, .unset, .unset]) rfl k_) ?_
  show own_Goes p e below (s₁.setTop (mkF m 5 #[.val (.int k), .val (.long p1), .second, .val (.long p2), .second, .val (.long p3), .second, .val (.int (k &&& (3 : Int32))), .unset, .unset, .unset, .unset, .unset, .unset, .unset] [])) (G_own_law Z k p1 p2 p3 ac cl h0 n0 s)
  obtain ⟨nn, h_nn⟩ : ∃ z : Int32, z = (k &&& (3 : Int32)) := ⟨_, rfl⟩
  rw [← h_nn]
  show own_Goes p e below (s₁.setTop (mkF m 5 #[.val (.int k), .val (.long p1), .second, .val (.long p2), .second, .val (.long p3), .second, .val (.int nn), .unset, .unset, .unset, .unset, .unset, .unset, .unset] [])) (G_own_law Z k p1 p2 p3 ac cl h0 n0 s)
  have hnn := own_n k
  rw [← h_nn] at hnn
  clear h_nn
  rcases hnn with rfl | rfl | rfl | rfl
  · show own_Goes p e below (s₁.setTop (mkF m 5 #[.val (.int k), .val (.long p1), .second, .val (.long p2), .second, .val (.long p3), .second, .val (.int (0 : Int32)), .unset, .unset, .unset, .unset, .unset, .unset, .unset] [])) (G_own_law Z k p1 p2 p3 ac cl h0 n0 s)
    refine own_go (fun _ k_ => XS.iloadN X0.here hx rfl (hb hby at_5) rfl k_) ?_
    show own_Goes p e below (s₁.setTop (mkF m 6 #[.val (.int k), .val (.long p1), .second, .val (.long p2), .second, .val (.long p3), .second, .val (.int (0 : Int32)), .unset, .unset, .unset, .unset, .unset, .unset, .unset] [(.int k)])) (G_own_law Z k p1 p2 p3 ac cl h0 n0 s)
    refine own_go (fun _ k_ => XS.iconst X0.here hx rfl (hb hby at_6) k_) ?_
    show own_Goes p e below (s₁.setTop (mkF m 7 #[.val (.int k), .val (.long p1), .second, .val (.long p2), .second, .val (.long p3), .second, .val (.int (0 : Int32)), .unset, .unset, .unset, .unset, .unset, .unset, .unset] [(.int (2 : Int32)), (.int k)])) (G_own_law Z k p1 p2 p3 ac cl h0 n0 s)
    refine own_go (fun _ k_ => XS.ishr X0.here hx rfl (hb hby at_7) rfl k_) ?_
    show own_Goes p e below (s₁.setTop (mkF m 8 #[.val (.int k), .val (.long p1), .second, .val (.long p2), .second, .val (.long p3), .second, .val (.int (0 : Int32)), .unset, .unset, .unset, .unset, .unset, .unset, .unset] [(.int (k >>> ((2 : Int32) &&& 31)))])) (G_own_law Z k p1 p2 p3 ac cl h0 n0 s)
    refine own_go (fun _ k_ => XS.iconst X0.here hx rfl (hb hby at_8) k_) ?_
    show own_Goes p e below (s₁.setTop (mkF m 9 #[.val (.int k), .val (.long p1), .second, .val (.long p2), .second, .val (.long p3), .second, .val (.int (0 : Int32)), .unset, .unset, .unset, .unset, .unset, .unset, .unset] [(.int (1 : Int32)), (.int (k >>> ((2 : Int32) &&& 31)))])) (G_own_law Z k p1 p2 p3 ac cl h0 n0 s)
    refine own_go (fun _ k_ => XS.iand X0.here hx rfl (hb hby at_9) rfl k_) ?_
    show own_Goes p e below (s₁.setTop (mkF m 10 #[.val (.int k), .val (.long p1), .second, .val (.long p2), .second, .val (.long p3), .second, .val (.int (0 : Int32)), .unset, .unset, .unset, .unset, .unset, .unset, .unset] [(.int ((k >>> ((2 : Int32) &&& 31)) &&& (1 : Int32)))])) (G_own_law Z k p1 p2 p3 ac cl h0 n0 s)
    by_cases hc10_61 : ((k >>> ((2 : Int32) &&& 31)) &&& (1 : Int32)) = (0 : Int32)
    · refine own_go (fun _ k_ => XS.ifYes X0.here hx rfl (pc0 := 10) (pc' := 17) rfl (hb hby at_10) rfl (XT.i0_eq_t hc10_61) (by decide) (by decide) k_) ?_
      show own_Goes p e below (s₁.setTop (mkF m 17 #[.val (.int k), .val (.long p1), .second, .val (.long p2), .second, .val (.long p3), .second, .val (.int (0 : Int32)), .unset, .unset, .unset, .unset, .unset, .unset, .unset] [])) (G_own_law Z k p1 p2 p3 ac cl h0 n0 s)
      refine own_go (fun _ k_ => XS.iconst X0.here hx rfl (hb hby at_17) k_) ?_
      show own_Goes p e below (s₁.setTop (mkF m 18 #[.val (.int k), .val (.long p1), .second, .val (.long p2), .second, .val (.long p3), .second, .val (.int (0 : Int32)), .unset, .unset, .unset, .unset, .unset, .unset, .unset] [(.int (0 : Int32))])) (G_own_law Z k p1 p2 p3 ac cl h0 n0 s)
      refine own_go (fun _ k_ => XS.istore X0.here hx rfl (hb hby at_18) rfl (l' := #[.val (.int k), .val (.long p1), .second, .val (.long p2), .second, .val (.long p3), .second, .val (.int (0 : Int32)), .val (.int (0 : Int32)), .unset, .unset, .unset, .unset, .unset, .unset]) rfl k_) ?_
      show own_Goes p e below (s₁.setTop (mkF m 20 #[.val (.int k), .val (.long p1), .second, .val (.long p2), .second, .val (.long p3), .second, .val (.int (0 : Int32)), .val (.int (0 : Int32)), .unset, .unset, .unset, .unset, .unset, .unset] [])) (G_own_law Z k p1 p2 p3 ac cl h0 n0 s)
      refine own_go (fun _ k_ => XS.iload X0.here hx rfl (hb hby at_20) rfl k_) ?_
      show own_Goes p e below (s₁.setTop (mkF m 22 #[.val (.int k), .val (.long p1), .second, .val (.long p2), .second, .val (.long p3), .second, .val (.int (0 : Int32)), .val (.int (0 : Int32)), .unset, .unset, .unset, .unset, .unset, .unset] [(.int (0 : Int32))])) (G_own_law Z k p1 p2 p3 ac cl h0 n0 s)
      refine own_go (fun _ k_ => XS.ifYes X0.here hx rfl (pc0 := 22) (pc' := 29) rfl (hb hby at_22) rfl (XT.i0_eq_t (rfl : (0 : Int32) = (0 : Int32))) (by decide) (by decide) k_) ?_
      show own_Goes p e below (s₁.setTop (mkF m 29 #[.val (.int k), .val (.long p1), .second, .val (.long p2), .second, .val (.long p3), .second, .val (.int (0 : Int32)), .val (.int (0 : Int32)), .unset, .unset, .unset, .unset, .unset, .unset] [])) (G_own_law Z k p1 p2 p3 ac cl h0 n0 s)
      refine own_go (fun _ k_ => XS.lloadN X0.here hx rfl (hb hby at_29) rfl k_) ?_
      show own_Goes p e below (s₁.setTop (mkF m 30 #[.val (.int k), .val (.long p1), .second, .val (.long p2), .second, .val (.long p3), .second, .val (.int (0 : Int32)), .val (.int (0 : Int32)), .unset, .unset, .unset, .unset, .unset, .unset] [(.long p1)])) (G_own_law Z k p1 p2 p3 ac cl h0 n0 s)
      obtain ⟨_, _, ⟨T62, L62, k62, n62⟩, -, X62, ⟨Lc62, hQ62, l62, y62, z62⟩, st62⟩ := Jvm.LawKit.callS X0 hx (y := (⟨"java/lang/Long", "valueOf", "(J)Ljava/lang/Long;"⟩ : MethodName)) hown (mvT hZ (hw _ (List.mem_of_getElem? (i := 0) rfl))) (mvT hZ (hw _ (List.mem_of_getElem? (i := 1) rfl))) (mvT hZ (hw _ (List.mem_of_getElem? (i := 2) rfl))) (mvT hZ (hw _ (List.mem_of_getElem? (i := 3) rfl))) (by decide) (backOf (W := 0) (own_voM l Z a0 hw [] p1 ac cl h0 n0 Z0 O0 S0 A0 hsz hel) hZ (hw _ (List.mem_of_getElem? (i := 3) rfl)) (hw _ (List.mem_of_getElem? (i := 2) rfl)) (by decide) (by decide)) (g := (mkF m 30 #[.val (.int k), .val (.long p1), .second, .val (.long p2), .second, .val (.long p3), .second, .val (.int (0 : Int32)), .val (.int (0 : Int32)), .unset, .unset, .unset, .unset, .unset, .unset] [(.long p1)])) rfl (by rw [hml]; rfl) (argsL := [(.long p1)]) (rest := []) (lenOf own_pd3 rfl) rfl (by show 2 * 0 + _ ≤ _; exact Nat.le_of_eq rfl) (hb hby at_30) (fun _ _ => ⟨rfl, e0, (by decide : 0 + 1 ≤ _), (by decide : 0 + 1 ≤ _)⟩)
      dsimp only [Pt.U, Pt.locs, Pt.cells, Pt.slots] at X62 l62 y62 z62 st62 hQ62
      subst l62 y62 z62
      obtain ⟨⟨av62, rfl, Ev62⟩, N62q, Kq62⟩ := hQ62
      have N62 := Fr.app N0 N62q
      have O0_63 := O0.keep Kq62 all0
      have Z62 : n0 ≤ T62.heap.size := Nat.le_trans Z0 Kq62.1
      refine own_go st62 ?_
      show own_Goes p e below (T62.setTop (mkF m 33 #[.val (.int k), .val (.long p1), .second, .val (.long p2), .second, .val (.long p3), .second, .val (.int (0 : Int32)), .val (.int (0 : Int32)), .unset, .unset, .unset, .unset, .unset, .unset] [(.ref av62)])) (G_own_law Z k p1 p2 p3 ac cl h0 n0 s)
      refine own_go (fun _ k_ => XS.astore X62.here hx rfl (hb hby at_33) rfl rfl (l' := #[.val (.int k), .val (.long p1), .second, .val (.long p2), .second, .val (.long p3), .second, .val (.int (0 : Int32)), .val (.int (0 : Int32)), .val (.ref av62), .unset, .unset, .unset, .unset, .unset]) rfl k_) ?_
      show own_Goes p e below (T62.setTop (mkF m 35 #[.val (.int k), .val (.long p1), .second, .val (.long p2), .second, .val (.long p3), .second, .val (.int (0 : Int32)), .val (.int (0 : Int32)), .val (.ref av62), .unset, .unset, .unset, .unset, .unset] [])) (G_own_law Z k p1 p2 p3 ac cl h0 n0 s)
      refine own_go (fun _ k_ => XS.lloadN X62.here hx rfl (hb hby at_35) rfl k_) ?_
      show own_Goes p e below (T62.setTop (mkF m 36 #[.val (.int k), .val (.long p1), .second, .val (.long p2), .second, .val (.long p3), .second, .val (.int (0 : Int32)), .val (.int (0 : Int32)), .val (.ref av62), .unset, .unset, .unset, .unset, .unset] [(.long p2)])) (G_own_law Z k p1 p2 p3 ac cl h0 n0 s)
      obtain ⟨_, _, ⟨T64, L64, k64, n64⟩, -, X64, ⟨Lc64, hQ64, l64, y64, z64⟩, st64⟩ := Jvm.LawKit.callS X62 hx (y := (⟨"java/lang/Long", "valueOf", "(J)Ljava/lang/Long;"⟩ : MethodName)) hown (mvT hZ (hw _ (List.mem_of_getElem? (i := 0) rfl))) (mvT hZ (hw _ (List.mem_of_getElem? (i := 1) rfl))) (mvT hZ (hw _ (List.mem_of_getElem? (i := 2) rfl))) (mvT hZ (hw _ (List.mem_of_getElem? (i := 3) rfl))) (by decide) (backOf (W := 0) (own_voM l Z a0 hw [] p2 ac cl T62.heap n0 Z62 O0_63 S0 A0 hsz hel) hZ (hw _ (List.mem_of_getElem? (i := 3) rfl)) (hw _ (List.mem_of_getElem? (i := 2) rfl)) (by decide) (by decide)) (g := (mkF m 36 #[.val (.int k), .val (.long p1), .second, .val (.long p2), .second, .val (.long p3), .second, .val (.int (0 : Int32)), .val (.int (0 : Int32)), .val (.ref av62), .unset, .unset, .unset, .unset, .unset] [(.long p2)])) rfl (by rw [hml]; rfl) (argsL := [(.long p2)]) (rest := []) (lenOf own_pd3 rfl) rfl (by show 2 * 0 + _ ≤ _; exact Nat.le_of_eq rfl) (hb hby at_36) (fun _ _ => ⟨rfl, rfl, (by decide : 1 + 1 ≤ _), (by decide : 1 + 1 ≤ _)⟩)
      dsimp only [Pt.U, Pt.locs, Pt.cells, Pt.slots] at X64 l64 y64 z64 st64 hQ64
      subst l64 y64 z64
      obtain ⟨⟨av64, rfl, Ev64⟩, N64q, Kq64⟩ := hQ64
      have N64 := Fr.app N62 N64q
      have O0_65 := O0_63.keep Kq64 all0
      have Ev62_66 := Ev62.keep Kq64
      have Z64 : n0 ≤ T64.heap.size := Nat.le_trans Z62 Kq64.1
      refine own_go st64 ?_
      show own_Goes p e below (T64.setTop (mkF m 39 #[.val (.int k), .val (.long p1), .second, .val (.long p2), .second, .val (.long p3), .second, .val (.int (0 : Int32)), .val (.int (0 : Int32)), .val (.ref av62), .unset, .unset, .unset, .unset, .unset] [(.ref av64)])) (G_own_law Z k p1 p2 p3 ac cl h0 n0 s)
      refine own_go (fun _ k_ => XS.astore X64.here hx rfl (hb hby at_39) rfl rfl (l' := #[.val (.int k), .val (.long p1), .second, .val (.long p2), .second, .val (.long p3), .second, .val (.int (0 : Int32)), .val (.int (0 : Int32)), .val (.ref av62), .val (.ref av64), .unset, .unset, .unset, .unset]) rfl k_) ?_
      show own_Goes p e below (T64.setTop (mkF m 41 #[.val (.int k), .val (.long p1), .second, .val (.long p2), .second, .val (.long p3), .second, .val (.int (0 : Int32)), .val (.int (0 : Int32)), .val (.ref av62), .val (.ref av64), .unset, .unset, .unset, .unset] [])) (G_own_law Z k p1 p2 p3 ac cl h0 n0 s)
      refine own_go (fun _ k_ => XS.lload X64.here hx rfl (hb hby at_41) rfl k_) ?_
      show own_Goes p e below (T64.setTop (mkF m 43 #[.val (.int k), .val (.long p1), .second, .val (.long p2), .second, .val (.long p3), .second, .val (.int (0 : Int32)), .val (.int (0 : Int32)), .val (.ref av62), .val (.ref av64), .unset, .unset, .unset, .unset] [(.long p3)])) (G_own_law Z k p1 p2 p3 ac cl h0 n0 s)
      obtain ⟨_, _, ⟨T67, L67, k67, n67⟩, -, X67, ⟨Lc67, hQ67, l67, y67, z67⟩, st67⟩ := Jvm.LawKit.callS X64 hx (y := (⟨"java/lang/Long", "valueOf", "(J)Ljava/lang/Long;"⟩ : MethodName)) hown (mvT hZ (hw _ (List.mem_of_getElem? (i := 0) rfl))) (mvT hZ (hw _ (List.mem_of_getElem? (i := 1) rfl))) (mvT hZ (hw _ (List.mem_of_getElem? (i := 2) rfl))) (mvT hZ (hw _ (List.mem_of_getElem? (i := 3) rfl))) (by decide) (backOf (W := 0) (own_voM l Z a0 hw [] p3 ac cl T64.heap n0 Z64 O0_65 S0 A0 hsz hel) hZ (hw _ (List.mem_of_getElem? (i := 3) rfl)) (hw _ (List.mem_of_getElem? (i := 2) rfl)) (by decide) (by decide)) (g := (mkF m 43 #[.val (.int k), .val (.long p1), .second, .val (.long p2), .second, .val (.long p3), .second, .val (.int (0 : Int32)), .val (.int (0 : Int32)), .val (.ref av62), .val (.ref av64), .unset, .unset, .unset, .unset] [(.long p3)])) rfl (by rw [hml]; rfl) (argsL := [(.long p3)]) (rest := []) (lenOf own_pd3 rfl) rfl (by show 2 * 0 + _ ≤ _; exact Nat.le_of_eq rfl) (hb hby at_43) (fun _ _ => ⟨rfl, rfl, (by decide : 2 + 1 ≤ _), (by decide : 2 + 1 ≤ _)⟩)
      dsimp only [Pt.U, Pt.locs, Pt.cells, Pt.slots] at X67 l67 y67 z67 st67 hQ67
      subst l67 y67 z67
      obtain ⟨⟨av67, rfl, Ev67⟩, N67q, Kq67⟩ := hQ67
      have N67 := Fr.app N64 N67q
      have O0_68 := O0_65.keep Kq67 all0
      have Ev62_69 := Ev62_66.keep Kq67
      have Ev64_70 := Ev64.keep Kq67
      have Z67 : n0 ≤ T67.heap.size := Nat.le_trans Z64 Kq67.1
      refine own_go st67 ?_
      show own_Goes p e below (T67.setTop (mkF m 46 #[.val (.int k), .val (.long p1), .second, .val (.long p2), .second, .val (.long p3), .second, .val (.int (0 : Int32)), .val (.int (0 : Int32)), .val (.ref av62), .val (.ref av64), .unset, .unset, .unset, .unset] [(.ref av67)])) (G_own_law Z k p1 p2 p3 ac cl h0 n0 s)
      refine own_go (fun _ k_ => XS.astore X67.here hx rfl (hb hby at_46) rfl rfl (l' := #[.val (.int k), .val (.long p1), .second, .val (.long p2), .second, .val (.long p3), .second, .val (.int (0 : Int32)), .val (.int (0 : Int32)), .val (.ref av62), .val (.ref av64), .val (.ref av67), .unset, .unset, .unset]) rfl k_) ?_
      show own_Goes p e below (T67.setTop (mkF m 48 #[.val (.int k), .val (.long p1), .second, .val (.long p2), .second, .val (.long p3), .second, .val (.int (0 : Int32)), .val (.int (0 : Int32)), .val (.ref av62), .val (.ref av64), .val (.ref av67), .unset, .unset, .unset] [])) (G_own_law Z k p1 p2 p3 ac cl h0 n0 s)
      refine own_go (fun _ k_ => XS.iload X67.here hx rfl (hb hby at_48) rfl k_) ?_
      show own_Goes p e below (T67.setTop (mkF m 50 #[.val (.int k), .val (.long p1), .second, .val (.long p2), .second, .val (.long p3), .second, .val (.int (0 : Int32)), .val (.int (0 : Int32)), .val (.ref av62), .val (.ref av64), .val (.ref av67), .unset, .unset, .unset] [(.int (0 : Int32))])) (G_own_law Z k p1 p2 p3 ac cl h0 n0 s)
      obtain ⟨T71, h71, cA71, X71, e71, E71, A71, O71, st71⟩ := newR X67 hx hZ hown (hw _ (List.mem_of_getElem? (i := 25) rfl)) (hw _ (List.mem_of_getElem? (i := 26) rfl)) rfl (g := (mkF m 50 #[.val (.int k), .val (.long p1), .second, .val (.long p2), .second, .val (.long p3), .second, .val (.int (0 : Int32)), .val (.int (0 : Int32)), .val (.ref av62), .val (.ref av64), .val (.ref av67), .unset, .unset, .unset] [(.int (0 : Int32))])) rfl (hb hby at_50) rfl (by decide) (cap := 0) (by decide) (by decide) (by decide) (by decide)
      obtain ⟨b71, g71⟩ : ∃ z, z = T67.heap.size := ⟨_, rfl⟩
      rw [← g71] at A71 st71
      have ne_av62_b71 : av62 ≠ b71 := by rw [g71]; exact Nat.ne_of_lt Ev62_69.lt
      have ne_av64_b71 : av64 ≠ b71 := by rw [g71]; exact Nat.ne_of_lt Ev64_70.lt
      have ne_av67_b71 : av67 ≠ b71 := by rw [g71]; exact Nat.ne_of_lt Ev67.lt
      have O0_73 := O0_68.ext E71
      have Ev62_74 := Ev62_69.ext E71
      have Ev64_75 := Ev64_70.ext E71
      have Ev67_76 := Ev67.ext E71
      have g_b71 : n0 ≤ b71 := by rw [g71]; exact Z67
      have Z71 : n0 ≤ h71.size := Nat.le_trans Z67 E71.1
      have Av71 : Arv Z h71 b71 cA71 (.object "java/lang/Object") (0 : Int32) [] .null := Arv.new A71 (by decide)
      have Aw71 : Arv Z h71 b71 cA71 (.object "java/lang/Object") (0 : Int32) [] (.null) := Av71.pad (pad_rep [] _ 0)
      refine own_go st71 ?_
      show own_Goes p e below (T71.setTop (mkF m 53 #[.val (.int k), .val (.long p1), .second, .val (.long p2), .second, .val (.long p3), .second, .val (.int (0 : Int32)), .val (.int (0 : Int32)), .val (.ref av62), .val (.ref av64), .val (.ref av67), .unset, .unset, .unset] [(.ref b71)])) (G_own_law Z k p1 p2 p3 ac cl h0 n0 s)
      refine own_go (fun _ k_ => XS.astore X71.here hx rfl (hb hby at_53) rfl rfl (l' := #[.val (.int k), .val (.long p1), .second, .val (.long p2), .second, .val (.long p3), .second, .val (.int (0 : Int32)), .val (.int (0 : Int32)), .val (.ref av62), .val (.ref av64), .val (.ref av67), .val (.ref b71), .unset, .unset]) rfl k_) ?_
      show own_Goes p e below (T71.setTop (mkF m 55 #[.val (.int k), .val (.long p1), .second, .val (.long p2), .second, .val (.long p3), .second, .val (.int (0 : Int32)), .val (.int (0 : Int32)), .val (.ref av62), .val (.ref av64), .val (.ref av67), .val (.ref b71), .unset, .unset] [])) (G_own_law Z k p1 p2 p3 ac cl h0 n0 s)
      refine own_go (fun _ k_ => XS.iload X71.here hx rfl (hb hby at_55) rfl k_) ?_
      show own_Goes p e below (T71.setTop (mkF m 57 #[.val (.int k), .val (.long p1), .second, .val (.long p2), .second, .val (.long p3), .second, .val (.int (0 : Int32)), .val (.int (0 : Int32)), .val (.ref av62), .val (.ref av64), .val (.ref av67), .val (.ref b71), .unset, .unset] [(.int (0 : Int32))])) (G_own_law Z k p1 p2 p3 ac cl h0 n0 s)
      refine own_go (fun _ k_ => XS.ifYes X71.here hx rfl (pc0 := 57) (pc' := 66) rfl (hb hby at_57) rfl (XT.i0_le_t Int32.lt_irrefl) (by decide) (by decide) k_) ?_
      show own_Goes p e below (T71.setTop (mkF m 66 #[.val (.int k), .val (.long p1), .second, .val (.long p2), .second, .val (.long p3), .second, .val (.int (0 : Int32)), .val (.int (0 : Int32)), .val (.ref av62), .val (.ref av64), .val (.ref av67), .val (.ref b71), .unset, .unset] [])) (G_own_law Z k p1 p2 p3 ac cl h0 n0 s)
      refine own_go (fun _ k_ => XS.iload X71.here hx rfl (hb hby at_66) rfl k_) ?_
      show own_Goes p e below (T71.setTop (mkF m 68 #[.val (.int k), .val (.long p1), .second, .val (.long p2), .second, .val (.long p3), .second, .val (.int (0 : Int32)), .val (.int (0 : Int32)), .val (.ref av62), .val (.ref av64), .val (.ref av67), .val (.ref b71), .unset, .unset] [(.int (0 : Int32))])) (G_own_law Z k p1 p2 p3 ac cl h0 n0 s)
      refine own_go (fun _ k_ => XS.iconst X71.here hx rfl (hb hby at_68) k_) ?_
      show own_Goes p e below (T71.setTop (mkF m 69 #[.val (.int k), .val (.long p1), .second, .val (.long p2), .second, .val (.long p3), .second, .val (.int (0 : Int32)), .val (.int (0 : Int32)), .val (.ref av62), .val (.ref av64), .val (.ref av67), .val (.ref b71), .unset, .unset] [(.int (1 : Int32)), (.int (0 : Int32))])) (G_own_law Z k p1 p2 p3 ac cl h0 n0 s)
      refine own_go (fun _ k_ => XS.icmpYes X71.here hx rfl (pc0 := 69) (pc' := 78) rfl (hb hby at_69) rfl (XT.ii_le_t (by decide)) (by decide) (by decide) k_) ?_
      show own_Goes p e below (T71.setTop (mkF m 78 #[.val (.int k), .val (.long p1), .second, .val (.long p2), .second, .val (.long p3), .second, .val (.int (0 : Int32)), .val (.int (0 : Int32)), .val (.ref av62), .val (.ref av64), .val (.ref av67), .val (.ref b71), .unset, .unset] [])) (G_own_law Z k p1 p2 p3 ac cl h0 n0 s)
      refine own_go (fun _ k_ => XS.iload X71.here hx rfl (hb hby at_78) rfl k_) ?_
      show own_Goes p e below (T71.setTop (mkF m 80 #[.val (.int k), .val (.long p1), .second, .val (.long p2), .second, .val (.long p3), .second, .val (.int (0 : Int32)), .val (.int (0 : Int32)), .val (.ref av62), .val (.ref av64), .val (.ref av67), .val (.ref b71), .unset, .unset] [(.int (0 : Int32))])) (G_own_law Z k p1 p2 p3 ac cl h0 n0 s)
      refine own_go (fun _ k_ => XS.iconst X71.here hx rfl (hb hby at_80) k_) ?_
      show own_Goes p e below (T71.setTop (mkF m 81 #[.val (.int k), .val (.long p1), .second, .val (.long p2), .second, .val (.long p3), .second, .val (.int (0 : Int32)), .val (.int (0 : Int32)), .val (.ref av62), .val (.ref av64), .val (.ref av67), .val (.ref b71), .unset, .unset] [(.int (2 : Int32)), (.int (0 : Int32))])) (G_own_law Z k p1 p2 p3 ac cl h0 n0 s)
      refine own_go (fun _ k_ => XS.icmpYes X71.here hx rfl (pc0 := 81) (pc' := 90) rfl (hb hby at_81) rfl (XT.ii_le_t (by decide)) (by decide) (by decide) k_) ?_
      show own_Goes p e below (T71.setTop (mkF m 90 #[.val (.int k), .val (.long p1), .second, .val (.long p2), .second, .val (.long p3), .second, .val (.int (0 : Int32)), .val (.int (0 : Int32)), .val (.ref av62), .val (.ref av64), .val (.ref av67), .val (.ref b71), .unset, .unset] [])) (G_own_law Z k p1 p2 p3 ac cl h0 n0 s)
      refine own_go (fun _ k_ => XS.aload X71.here hx rfl (hb hby at_90) rfl rfl k_) ?_
      show own_Goes p e below (T71.setTop (mkF m 92 #[.val (.int k), .val (.long p1), .second, .val (.long p2), .second, .val (.long p3), .second, .val (.int (0 : Int32)), .val (.int (0 : Int32)), .val (.ref av62), .val (.ref av64), .val (.ref av67), .val (.ref b71), .unset, .unset] [(.ref b71)])) (G_own_law Z k p1 p2 p3 ac cl h0 n0 s)
      obtain ⟨_, _, ⟨T77, L77, k77, n77⟩, -, X77, ⟨Lc77, hQ77, l77, y77, z77⟩, st77⟩ := Jvm.LawKit.callS X71 hx (y := (⟨"com/example/remnant/remnant/core/MultipleValues", "of", "([Ljava/lang/Object;)Ljava/lang/Object;"⟩ : MethodName)) hown (mvT hZ (hw _ (List.mem_of_getElem? (i := 27) rfl))) (mvT hZ (hw _ (List.mem_of_getElem? (i := 28) rfl))) (mvT hZ (hw _ (List.mem_of_getElem? (i := 29) rfl))) (mvT hZ (hw _ (List.mem_of_getElem? (i := 30) rfl))) (by decide) (backOf (W := 0) (own_ofNM l Z a0 hw [] b71 cA71 (0 : Int32) [] h71 n0 Z71 Aw71 (by decide)) hZ (hw _ (List.mem_of_getElem? (i := 30) rfl)) (hw _ (List.mem_of_getElem? (i := 29) rfl)) (by decide) (by decide)) (g := (mkF m 92 #[.val (.int k), .val (.long p1), .second, .val (.long p2), .second, .val (.long p3), .second, .val (.int (0 : Int32)), .val (.int (0 : Int32)), .val (.ref av62), .val (.ref av64), .val (.ref av67), .val (.ref b71), .unset, .unset] [(.ref b71)])) rfl (by rw [hml]; rfl) (argsL := [(.ref b71)]) (rest := []) (lenOf own_pd4 rfl) rfl (by show 2 * 0 + _ ≤ _; exact Nat.le_of_eq rfl) (hb hby at_92) (fun _ _ => ⟨rfl, e71, (by decide : 4 + 1 ≤ _), (by decide : 3 + 1 ≤ _)⟩)
      dsimp only [Pt.U, Pt.locs, Pt.cells, Pt.slots] at X77 l77 y77 z77 st77 hQ77
      subst l77 y77 z77
      obtain ⟨⟨mv77, rfl, Em77, Fm77⟩, N77q, Kq77⟩ := hQ77
      have N77 := Fr.app N67 N77q
      have O0_78 := O0_73.keep Kq77 all0
      have Ev62_79 := Ev62_74.keep Kq77
      have Ev64_80 := Ev64_75.keep Kq77
      have Ev67_81 := Ev67_76.keep Kq77
      have Aw71_82 := Aw71.keep Kq77 nin0
      have Z77 : n0 ≤ T77.heap.size := Nat.le_trans Z71 Kq77.1
      refine own_go st77 ?_
      show own_Goes p e below (T77.setTop (mkF m 95 #[.val (.int k), .val (.long p1), .second, .val (.long p2), .second, .val (.long p3), .second, .val (.int (0 : Int32)), .val (.int (0 : Int32)), .val (.ref av62), .val (.ref av64), .val (.ref av67), .val (.ref b71), .unset, .unset] [(.ref mv77)])) (G_own_law Z k p1 p2 p3 ac cl h0 n0 s)
      refine own_go (fun _ k_ => XS.astore X77.here hx rfl (hb hby at_95) rfl rfl (l' := #[.val (.int k), .val (.long p1), .second, .val (.long p2), .second, .val (.long p3), .second, .val (.int (0 : Int32)), .val (.int (0 : Int32)), .val (.ref av62), .val (.ref av64), .val (.ref av67), .val (.ref b71), .val (.ref mv77), .unset]) rfl k_) ?_
      show own_Goes p e below (T77.setTop (mkF m 97 #[.val (.int k), .val (.long p1), .second, .val (.long p2), .second, .val (.long p3), .second, .val (.int (0 : Int32)), .val (.int (0 : Int32)), .val (.ref av62), .val (.ref av64), .val (.ref av67), .val (.ref b71), .val (.ref mv77), .unset] [])) (G_own_law Z k p1 p2 p3 ac cl h0 n0 s)
      refine own_go (fun _ k_ => XS.aload X77.here hx rfl (hb hby at_97) rfl rfl k_) ?_
      show own_Goes p e below (T77.setTop (mkF m 99 #[.val (.int k), .val (.long p1), .second, .val (.long p2), .second, .val (.long p3), .second, .val (.int (0 : Int32)), .val (.int (0 : Int32)), .val (.ref av62), .val (.ref av64), .val (.ref av67), .val (.ref b71), .val (.ref mv77), .unset] [(.ref mv77)])) (G_own_law Z k p1 p2 p3 ac cl h0 n0 s)
      obtain ⟨_, _, ⟨T83, L83, k83, n83⟩, -, X83, ⟨Lc83, hQ83, l83, y83, z83⟩, st83⟩ := Jvm.LawKit.callS X77 hx (y := (⟨"com/example/remnant/remnant/core/MultipleValues", "spread", "(Ljava/lang/Object;)[Ljava/lang/Object;"⟩ : MethodName)) hown (mvT hZ (hw _ (List.mem_of_getElem? (i := 39) rfl))) (mvT hZ (hw _ (List.mem_of_getElem? (i := 40) rfl))) (mvT hZ (hw _ (List.mem_of_getElem? (i := 29) rfl))) (mvT hZ (hw _ (List.mem_of_getElem? (i := 41) rfl))) (by decide) (backOf (W := 0) (own_spMVM l Z a0 hw [] mv77 b71 T77.heap n0 Z77 Em77 Fm77) hZ (hw _ (List.mem_of_getElem? (i := 41) rfl)) (hw _ (List.mem_of_getElem? (i := 29) rfl)) (by decide) (by decide)) (g := (mkF m 99 #[.val (.int k), .val (.long p1), .second, .val (.long p2), .second, .val (.long p3), .second, .val (.int (0 : Int32)), .val (.int (0 : Int32)), .val (.ref av62), .val (.ref av64), .val (.ref av67), .val (.ref b71), .val (.ref mv77), .unset] [(.ref mv77)])) rfl (by rw [hml]; rfl) (argsL := [(.ref mv77)]) (rest := []) (lenOf own_pd5 rfl) rfl (by show 2 * 0 + _ ≤ _; exact Nat.le_of_eq rfl) (hb hby at_99) (fun _ _ => ⟨rfl, rfl, (by decide : 5 + 0 ≤ _), (by decide : 4 + 0 ≤ _)⟩)
      dsimp only [Pt.U, Pt.locs, Pt.cells, Pt.slots] at X83 l83 y83 z83 st83 hQ83
      subst l83 y83 z83
      obtain ⟨rfl, N83q, e83⟩ := hQ83
      have N83 := Fr.app N77 N83q
      refine own_go st83 ?_
      show own_Goes p e below (T83.setTop (mkF m 102 #[.val (.int k), .val (.long p1), .second, .val (.long p2), .second, .val (.long p3), .second, .val (.int (0 : Int32)), .val (.int (0 : Int32)), .val (.ref av62), .val (.ref av64), .val (.ref av67), .val (.ref b71), .val (.ref mv77), .unset] [(.ref b71)])) (G_own_law Z k p1 p2 p3 ac cl h0 n0 s)
      refine own_go (fun _ k_ => XS.astore X83.here hx rfl (hb hby at_102) rfl rfl (l' := #[.val (.int k), .val (.long p1), .second, .val (.long p2), .second, .val (.long p3), .second, .val (.int (0 : Int32)), .val (.int (0 : Int32)), .val (.ref av62), .val (.ref av64), .val (.ref av67), .val (.ref b71), .val (.ref mv77), .val (.ref b71)]) rfl k_) ?_
      show own_Goes p e below (T83.setTop (mkF m 104 #[.val (.int k), .val (.long p1), .second, .val (.long p2), .second, .val (.long p3), .second, .val (.int (0 : Int32)), .val (.int (0 : Int32)), .val (.ref av62), .val (.ref av64), .val (.ref av67), .val (.ref b71), .val (.ref mv77), .val (.ref b71)] [])) (G_own_law Z k p1 p2 p3 ac cl h0 n0 s)
      refine own_go (fun _ k_ => XS.aload X83.here hx rfl (hb hby at_104) rfl rfl k_) ?_
      show own_Goes p e below (T83.setTop (mkF m 106 #[.val (.int k), .val (.long p1), .second, .val (.long p2), .second, .val (.long p3), .second, .val (.int (0 : Int32)), .val (.int (0 : Int32)), .val (.ref av62), .val (.ref av64), .val (.ref av67), .val (.ref b71), .val (.ref mv77), .val (.ref b71)] [(.ref b71)])) (G_own_law Z k p1 p2 p3 ac cl h0 n0 s)
      refine own_go (fun _ k_ => XS.ifnullNo X83.here hx rfl (hb hby at_106) rfl k_) ?_
      show own_Goes p e below (T83.setTop (mkF m 109 #[.val (.int k), .val (.long p1), .second, .val (.long p2), .second, .val (.long p3), .second, .val (.int (0 : Int32)), .val (.int (0 : Int32)), .val (.ref av62), .val (.ref av64), .val (.ref av67), .val (.ref b71), .val (.ref mv77), .val (.ref b71)] [])) (G_own_law Z k p1 p2 p3 ac cl h0 n0 s)
      refine own_go (fun _ k_ => XS.aload X83.here hx rfl (hb hby at_109) rfl rfl k_) ?_
      show own_Goes p e below (T83.setTop (mkF m 111 #[.val (.int k), .val (.long p1), .second, .val (.long p2), .second, .val (.long p3), .second, .val (.int (0 : Int32)), .val (.int (0 : Int32)), .val (.ref av62), .val (.ref av64), .val (.ref av67), .val (.ref b71), .val (.ref mv77), .val (.ref b71)] [(.ref b71)])) (G_own_law Z k p1 p2 p3 ac cl h0 n0 s)
      obtain ⟨c84, Ar84, q84, s84, z84, H84, G84⟩ := id Aw71_82
      refine own_go (fun _ k_ => X83.arraylength hx (by rw [e83]; exact Ar84.1) (State.isArrayOf_alike hZ.alike Ar84.2.1) (g := (mkF m 111 #[.val (.int k), .val (.long p1), .second, .val (.long p2), .second, .val (.long p3), .second, .val (.int (0 : Int32)), .val (.int (0 : Int32)), .val (.ref av62), .val (.ref av64), .val (.ref av67), .val (.ref b71), .val (.ref mv77), .val (.ref b71)] [(.ref b71)])) rfl rfl (hb hby at_111) _ k_) ?_
      rw [len_of s84 z84]
      show own_Goes p e below (T83.setTop (mkF m 112 #[.val (.int k), .val (.long p1), .second, .val (.long p2), .second, .val (.long p3), .second, .val (.int (0 : Int32)), .val (.int (0 : Int32)), .val (.ref av62), .val (.ref av64), .val (.ref av67), .val (.ref b71), .val (.ref mv77), .val (.ref b71)] [(.int (0 : Int32))])) (G_own_law Z k p1 p2 p3 ac cl h0 n0 s)
      refine own_go (fun _ k_ => XS.iload X83.here hx rfl (hb hby at_112) rfl k_) ?_
      show own_Goes p e below (T83.setTop (mkF m 114 #[.val (.int k), .val (.long p1), .second, .val (.long p2), .second, .val (.long p3), .second, .val (.int (0 : Int32)), .val (.int (0 : Int32)), .val (.ref av62), .val (.ref av64), .val (.ref av67), .val (.ref b71), .val (.ref mv77), .val (.ref b71)] [(.int (0 : Int32)), (.int (0 : Int32))])) (G_own_law Z k p1 p2 p3 ac cl h0 n0 s)
      refine own_go (fun _ k_ => XS.icmpYes X83.here hx rfl (pc0 := 114) (pc' := 119) rfl (hb hby at_114) rfl (XT.ii_eq_t (rfl : (0 : Int32) = (0 : Int32))) (by decide) (by decide) k_) ?_
      show own_Goes p e below (T83.setTop (mkF m 119 #[.val (.int k), .val (.long p1), .second, .val (.long p2), .second, .val (.long p3), .second, .val (.int (0 : Int32)), .val (.int (0 : Int32)), .val (.ref av62), .val (.ref av64), .val (.ref av67), .val (.ref b71), .val (.ref mv77), .val (.ref b71)] [])) (G_own_law Z k p1 p2 p3 ac cl h0 n0 s)
      refine own_go (fun _ k_ => XS.iload X83.here hx rfl (hb hby at_119) rfl k_) ?_
      show own_Goes p e below (T83.setTop (mkF m 121 #[.val (.int k), .val (.long p1), .second, .val (.long p2), .second, .val (.long p3), .second, .val (.int (0 : Int32)), .val (.int (0 : Int32)), .val (.ref av62), .val (.ref av64), .val (.ref av67), .val (.ref b71), .val (.ref mv77), .val (.ref b71)] [(.int (0 : Int32))])) (G_own_law Z k p1 p2 p3 ac cl h0 n0 s)
      refine own_go (fun _ k_ => XS.iconst X83.here hx rfl (hb hby at_121) k_) ?_
      show own_Goes p e below (T83.setTop (mkF m 122 #[.val (.int k), .val (.long p1), .second, .val (.long p2), .second, .val (.long p3), .second, .val (.int (0 : Int32)), .val (.int (0 : Int32)), .val (.ref av62), .val (.ref av64), .val (.ref av67), .val (.ref b71), .val (.ref mv77), .val (.ref b71)] [(.int (1 : Int32)), (.int (0 : Int32))])) (G_own_law Z k p1 p2 p3 ac cl h0 n0 s)
      refine own_go (fun _ k_ => XS.icmpNo X83.here hx rfl (hb hby at_122) rfl (XT.ii_eq_f (by decide)) k_) ?_
      show own_Goes p e below (T83.setTop (mkF m 125 #[.val (.int k), .val (.long p1), .second, .val (.long p2), .second, .val (.long p3), .second, .val (.int (0 : Int32)), .val (.int (0 : Int32)), .val (.ref av62), .val (.ref av64), .val (.ref av67), .val (.ref b71), .val (.ref mv77), .val (.ref b71)] [])) (G_own_law Z k p1 p2 p3 ac cl h0 n0 s)
      refine own_go (fun _ k_ => XS.aload X83.here hx rfl (hb hby at_125) rfl rfl k_) ?_
      show own_Goes p e below (T83.setTop (mkF m 127 #[.val (.int k), .val (.long p1), .second, .val (.long p2), .second, .val (.long p3), .second, .val (.int (0 : Int32)), .val (.int (0 : Int32)), .val (.ref av62), .val (.ref av64), .val (.ref av67), .val (.ref b71), .val (.ref mv77), .val (.ref b71)] [(.ref b71)])) (G_own_law Z k p1 p2 p3 ac cl h0 n0 s)
      refine own_go (fun _ k_ => XS.aload X83.here hx rfl (hb hby at_127) rfl rfl k_) ?_
      show own_Goes p e below (T83.setTop (mkF m 129 #[.val (.int k), .val (.long p1), .second, .val (.long p2), .second, .val (.long p3), .second, .val (.int (0 : Int32)), .val (.int (0 : Int32)), .val (.ref av62), .val (.ref av64), .val (.ref av67), .val (.ref b71), .val (.ref mv77), .val (.ref b71)] [(.ref b71), (.ref b71)])) (G_own_law Z k p1 p2 p3 ac cl h0 n0 s)
      refine own_go (fun _ k_ => Jvm.RoadKit.acmp (g := (mkF m 129 #[.val (.int k), .val (.long p1), .second, .val (.long p2), .second, .val (.long p3), .second, .val (.int (0 : Int32)), .val (.int (0 : Int32)), .val (.ref av62), .val (.ref av64), .val (.ref av67), .val (.ref b71), .val (.ref mv77), .val (.ref b71)] [(.ref b71), (.ref b71)])) X83 hx rfl rfl rfl (pc0 := 129) (pc' := 134) (same := true) rfl (hb hby at_129) rfl (decide_eq_true rfl) (by decide) (by decide) k_) ?_
      show own_Goes p e below (T83.setTop (mkF m 134 #[.val (.int k), .val (.long p1), .second, .val (.long p2), .second, .val (.long p3), .second, .val (.int (0 : Int32)), .val (.int (0 : Int32)), .val (.ref av62), .val (.ref av64), .val (.ref av67), .val (.ref b71), .val (.ref mv77), .val (.ref b71)] [])) (G_own_law Z k p1 p2 p3 ac cl h0 n0 s)
      refine own_go (fun _ k_ => XS.iload X83.here hx rfl (hb hby at_134) rfl k_) ?_
      show own_Goes p e below (T83.setTop (mkF m 136 #[.val (.int k), .val (.long p1), .second, .val (.long p2), .second, .val (.long p3), .second, .val (.int (0 : Int32)), .val (.int (0 : Int32)), .val (.ref av62), .val (.ref av64), .val (.ref av67), .val (.ref b71), .val (.ref mv77), .val (.ref b71)] [(.int (0 : Int32))])) (G_own_law Z k p1 p2 p3 ac cl h0 n0 s)
      refine own_go (fun _ k_ => XS.ifYes X83.here hx rfl (pc0 := 136) (pc' := 159) rfl (hb hby at_136) rfl (XT.i0_le_t Int32.lt_irrefl) (by decide) (by decide) k_) ?_
      show own_Goes p e below (T83.setTop (mkF m 159 #[.val (.int k), .val (.long p1), .second, .val (.long p2), .second, .val (.long p3), .second, .val (.int (0 : Int32)), .val (.int (0 : Int32)), .val (.ref av62), .val (.ref av64), .val (.ref av67), .val (.ref b71), .val (.ref mv77), .val (.ref b71)] [])) (G_own_law Z k p1 p2 p3 ac cl h0 n0 s)
      refine own_go (fun _ k_ => XS.iload X83.here hx rfl (hb hby at_159) rfl k_) ?_
      show own_Goes p e below (T83.setTop (mkF m 161 #[.val (.int k), .val (.long p1), .second, .val (.long p2), .second, .val (.long p3), .second, .val (.int (0 : Int32)), .val (.int (0 : Int32)), .val (.ref av62), .val (.ref av64), .val (.ref av67), .val (.ref b71), .val (.ref mv77), .val (.ref b71)] [(.int (0 : Int32))])) (G_own_law Z k p1 p2 p3 ac cl h0 n0 s)
      refine own_go (fun _ k_ => XS.iconst X83.here hx rfl (hb hby at_161) k_) ?_
      show own_Goes p e below (T83.setTop (mkF m 162 #[.val (.int k), .val (.long p1), .second, .val (.long p2), .second, .val (.long p3), .second, .val (.int (0 : Int32)), .val (.int (0 : Int32)), .val (.ref av62), .val (.ref av64), .val (.ref av67), .val (.ref b71), .val (.ref mv77), .val (.ref b71)] [(.int (1 : Int32)), (.int (0 : Int32))])) (G_own_law Z k p1 p2 p3 ac cl h0 n0 s)
      refine own_go (fun _ k_ => XS.icmpYes X83.here hx rfl (pc0 := 162) (pc' := 185) rfl (hb hby at_162) rfl (XT.ii_le_t (by decide)) (by decide) (by decide) k_) ?_
      show own_Goes p e below (T83.setTop (mkF m 185 #[.val (.int k), .val (.long p1), .second, .val (.long p2), .second, .val (.long p3), .second, .val (.int (0 : Int32)), .val (.int (0 : Int32)), .val (.ref av62), .val (.ref av64), .val (.ref av67), .val (.ref b71), .val (.ref mv77), .val (.ref b71)] [])) (G_own_law Z k p1 p2 p3 ac cl h0 n0 s)
      refine own_go (fun _ k_ => XS.iload X83.here hx rfl (hb hby at_185) rfl k_) ?_
      show own_Goes p e below (T83.setTop (mkF m 187 #[.val (.int k), .val (.long p1), .second, .val (.long p2), .second, .val (.long p3), .second, .val (.int (0 : Int32)), .val (.int (0 : Int32)), .val (.ref av62), .val (.ref av64), .val (.ref av67), .val (.ref b71), .val (.ref mv77), .val (.ref b71)] [(.int (0 : Int32))])) (G_own_law Z k p1 p2 p3 ac cl h0 n0 s)
      refine own_go (fun _ k_ => XS.iconst X83.here hx rfl (hb hby at_187) k_) ?_
      show own_Goes p e below (T83.setTop (mkF m 188 #[.val (.int k), .val (.long p1), .second, .val (.long p2), .second, .val (.long p3), .second, .val (.int (0 : Int32)), .val (.int (0 : Int32)), .val (.ref av62), .val (.ref av64), .val (.ref av67), .val (.ref b71), .val (.ref mv77), .val (.ref b71)] [(.int (2 : Int32)), (.int (0 : Int32))])) (G_own_law Z k p1 p2 p3 ac cl h0 n0 s)
      refine own_go (fun _ k_ => XS.icmpYes X83.here hx rfl (pc0 := 188) (pc' := 211) rfl (hb hby at_188) rfl (XT.ii_le_t (by decide)) (by decide) (by decide) k_) ?_
      show own_Goes p e below (T83.setTop (mkF m 211 #[.val (.int k), .val (.long p1), .second, .val (.long p2), .second, .val (.long p3), .second, .val (.int (0 : Int32)), .val (.int (0 : Int32)), .val (.ref av62), .val (.ref av64), .val (.ref av67), .val (.ref b71), .val (.ref mv77), .val (.ref b71)] [])) (G_own_law Z k p1 p2 p3 ac cl h0 n0 s)
      refine own_go (fun _ k_ => XS.iconst X83.here hx rfl (hb hby at_211) k_) ?_
      show own_Goes p e below (T83.setTop (mkF m 212 #[.val (.int k), .val (.long p1), .second, .val (.long p2), .second, .val (.long p3), .second, .val (.int (0 : Int32)), .val (.int (0 : Int32)), .val (.ref av62), .val (.ref av64), .val (.ref av67), .val (.ref b71), .val (.ref mv77), .val (.ref b71)] [(.int (1 : Int32))])) (G_own_law Z k p1 p2 p3 ac cl h0 n0 s)
      obtain ⟨fs, hr, hrun, hended, hW, hsame⟩ := X83.leave (v := some (.int (1 : Int32))) (fun h => by rw [Bd.returns] at h; cases h) Bd.notSynchronized
      refine ⟨_, _, retN X83 hx (t := .boolean) Bd.returns (by simp) (hb hby at_212) hr, hrun, hended, _, _, rfl, ?_, ⟨_, rfl⟩, hW, hsame.mono (by decide) (by decide)⟩
      show Q_own_law Z k p1 p2 p3 ac cl h0 n0 _ T83.heap _
      rw [e83]
      exact ⟨rfl, N83⟩
    · refine own_go (fun _ k_ => XS.ifNo X0.here hx rfl (hb hby at_10) rfl (XT.i0_eq_f hc10_61) k_) ?_
      show own_Goes p e below (s₁.setTop (mkF m 13 #[.val (.int k), .val (.long p1), .second, .val (.long p2), .second, .val (.long p3), .second, .val (.int (0 : Int32)), .unset, .unset, .unset, .unset, .unset, .unset, .unset] [])) (G_own_law Z k p1 p2 p3 ac cl h0 n0 s)
      refine own_go (fun _ k_ => XS.iconst X0.here hx rfl (hb hby at_13) k_) ?_
      show own_Goes p e below (s₁.setTop (mkF m 14 #[.val (.int k), .val (.long p1), .second, .val (.long p2), .second, .val (.long p3), .second, .val (.int (0 : Int32)), .unset, .unset, .unset, .unset, .unset, .unset, .unset] [(.int (1 : Int32))])) (G_own_law Z k p1 p2 p3 ac cl h0 n0 s)
      refine own_go (fun _ k_ => XS.goto X0.here hx rfl (pc0 := 14) (pc' := 18) rfl (hb hby at_14) (by decide) (by decide) k_) ?_
      show own_Goes p e below (s₁.setTop (mkF m 18 #[.val (.int k), .val (.long p1), .second, .val (.long p2), .second, .val (.long p3), .second, .val (.int (0 : Int32)), .unset, .unset, .unset, .unset, .unset, .unset, .unset] [(.int (1 : Int32))])) (G_own_law Z k p1 p2 p3 ac cl h0 n0 s)
      refine own_go (fun _ k_ => XS.istore X0.here hx rfl (hb hby at_18) rfl (l' := #[.val (.int k), .val (.long p1), .second, .val (.long p2), .second, .val (.long p3), .second, .val (.int (0 : Int32)), .val (.int (1 : Int32)), .unset, .unset, .unset, .unset, .unset, .unset]) rfl k_) ?_
      show own_Goes p e below (s₁.setTop (mkF m 20 #[.val (.int k), .val (.long p1), .second, .val (.long p2), .second, .val (.long p3), .second, .val (.int (0 : Int32)), .val (.int (1 : Int32)), .unset, .unset, .unset, .unset, .unset, .unset] [])) (G_own_law Z k p1 p2 p3 ac cl h0 n0 s)
      refine own_go (fun _ k_ => XS.iload X0.here hx rfl (hb hby at_20) rfl k_) ?_
      show own_Goes p e below (s₁.setTop (mkF m 22 #[.val (.int k), .val (.long p1), .second, .val (.long p2), .second, .val (.long p3), .second, .val (.int (0 : Int32)), .val (.int (1 : Int32)), .unset, .unset, .unset, .unset, .unset, .unset] [(.int (1 : Int32))])) (G_own_law Z k p1 p2 p3 ac cl h0 n0 s)
      refine own_go (fun _ k_ => XS.ifNo X0.here hx rfl (hb hby at_22) rfl (XT.i0_eq_f (by decide)) k_) ?_
      show own_Goes p e below (s₁.setTop (mkF m 25 #[.val (.int k), .val (.long p1), .second, .val (.long p2), .second, .val (.long p3), .second, .val (.int (0 : Int32)), .val (.int (1 : Int32)), .unset, .unset, .unset, .unset, .unset, .unset] [])) (G_own_law Z k p1 p2 p3 ac cl h0 n0 s)
      refine own_go (fun _ k_ => XS.aconstNull X0.here hx rfl (hb hby at_25) k_) ?_
      show own_Goes p e below (s₁.setTop (mkF m 26 #[.val (.int k), .val (.long p1), .second, .val (.long p2), .second, .val (.long p3), .second, .val (.int (0 : Int32)), .val (.int (1 : Int32)), .unset, .unset, .unset, .unset, .unset, .unset] [.null])) (G_own_law Z k p1 p2 p3 ac cl h0 n0 s)
      refine own_go (fun _ k_ => XS.goto X0.here hx rfl (pc0 := 26) (pc' := 33) rfl (hb hby at_26) (by decide) (by decide) k_) ?_
      show own_Goes p e below (s₁.setTop (mkF m 33 #[.val (.int k), .val (.long p1), .second, .val (.long p2), .second, .val (.long p3), .second, .val (.int (0 : Int32)), .val (.int (1 : Int32)), .unset, .unset, .unset, .unset, .unset, .unset] [.null])) (G_own_law Z k p1 p2 p3 ac cl h0 n0 s)
      refine own_go (fun _ k_ => XS.astore X0.here hx rfl (hb hby at_33) rfl rfl (l' := #[.val (.int k), .val (.long p1), .second, .val (.long p2), .second, .val (.long p3), .second, .val (.int (0 : Int32)), .val (.int (1 : Int32)), .val .null, .unset, .unset, .unset, .unset, .unset]) rfl k_) ?_
      show own_Goes p e below (s₁.setTop (mkF m 35 #[.val (.int k), .val (.long p1), .second, .val (.long p2), .second, .val (.long p3), .second, .val (.int (0 : Int32)), .val (.int (1 : Int32)), .val .null, .unset, .unset, .unset, .unset, .unset] [])) (G_own_law Z k p1 p2 p3 ac cl h0 n0 s)
      refine own_go (fun _ k_ => XS.lloadN X0.here hx rfl (hb hby at_35) rfl k_) ?_
      show own_Goes p e below (s₁.setTop (mkF m 36 #[.val (.int k), .val (.long p1), .second, .val (.long p2), .second, .val (.long p3), .second, .val (.int (0 : Int32)), .val (.int (1 : Int32)), .val .null, .unset, .unset, .unset, .unset, .unset] [(.long p2)])) (G_own_law Z k p1 p2 p3 ac cl h0 n0 s)
      obtain ⟨_, _, ⟨T85, L85, k85, n85⟩, -, X85, ⟨Lc85, hQ85, l85, y85, z85⟩, st85⟩ := Jvm.LawKit.callS X0 hx (y := (⟨"java/lang/Long", "valueOf", "(J)Ljava/lang/Long;"⟩ : MethodName)) hown (mvT hZ (hw _ (List.mem_of_getElem? (i := 0) rfl))) (mvT hZ (hw _ (List.mem_of_getElem? (i := 1) rfl))) (mvT hZ (hw _ (List.mem_of_getElem? (i := 2) rfl))) (mvT hZ (hw _ (List.mem_of_getElem? (i := 3) rfl))) (by decide) (backOf (W := 0) (own_voM l Z a0 hw [] p2 ac cl h0 n0 Z0 O0 S0 A0 hsz hel) hZ (hw _ (List.mem_of_getElem? (i := 3) rfl)) (hw _ (List.mem_of_getElem? (i := 2) rfl)) (by decide) (by decide)) (g := (mkF m 36 #[.val (.int k), .val (.long p1), .second, .val (.long p2), .second, .val (.long p3), .second, .val (.int (0 : Int32)), .val (.int (1 : Int32)), .val .null, .unset, .unset, .unset, .unset, .unset] [(.long p2)])) rfl (by rw [hml]; rfl) (argsL := [(.long p2)]) (rest := []) (lenOf own_pd3 rfl) rfl (by show 2 * 0 + _ ≤ _; exact Nat.le_of_eq rfl) (hb hby at_36) (fun _ _ => ⟨rfl, e0, (by decide : 0 + 1 ≤ _), (by decide : 0 + 1 ≤ _)⟩)
      dsimp only [Pt.U, Pt.locs, Pt.cells, Pt.slots] at X85 l85 y85 z85 st85 hQ85
      subst l85 y85 z85
      obtain ⟨⟨av85, rfl, Ev85⟩, N85q, Kq85⟩ := hQ85
      have N85 := Fr.app N0 N85q
      have O0_86 := O0.keep Kq85 all0
      have Z85 : n0 ≤ T85.heap.size := Nat.le_trans Z0 Kq85.1
      refine own_go st85 ?_
      show own_Goes p e below (T85.setTop (mkF m 39 #[.val (.int k), .val (.long p1), .second, .val (.long p2), .second, .val (.long p3), .second, .val (.int (0 : Int32)), .val (.int (1 : Int32)), .val .null, .unset, .unset, .unset, .unset, .unset] [(.ref av85)])) (G_own_law Z k p1 p2 p3 ac cl h0 n0 s)
      refine own_go (fun _ k_ => XS.astore X85.here hx rfl (hb hby at_39) rfl rfl (l' := #[.val (.int k), .val (.long p1), .second, .val (.long p2), .second, .val (.long p3), .second, .val (.int (0 : Int32)), .val (.int (1 : Int32)), .val .null, .val (.ref av85), .unset, .unset, .unset, .unset]) rfl k_) ?_
      show own_Goes p e below (T85.setTop (mkF m 41 #[.val (.int k), .val (.long p1), .second, .val (.long p2), .second, .val (.long p3), .second, .val (.int (0 : Int32)), .val (.int (1 : Int32)), .val .null, .val (.ref av85), .unset, .unset, .unset, .unset] [])) (G_own_law Z k p1 p2 p3 ac cl h0 n0 s)
      refine own_go (fun _ k_ => XS.lload X85.here hx rfl (hb hby at_41) rfl k_) ?_
      show own_Goes p e below (T85.setTop (mkF m 43 #[.val (.int k), .val (.long p1), .second, .val (.long p2), .second, .val (.long p3), .second, .val (.int (0 : Int32)), .val (.int (1 : Int32)), .val .null, .val (.ref av85), .unset, .unset, .unset, .unset] [(.long p3)])) (G_own_law Z k p1 p2 p3 ac cl h0 n0 s)
      obtain ⟨_, _, ⟨T87, L87, k87, n87⟩, -, X87, ⟨Lc87, hQ87, l87, y87, z87⟩, st87⟩ := Jvm.LawKit.callS X85 hx (y := (⟨"java/lang/Long", "valueOf", "(J)Ljava/lang/Long;"⟩ : MethodName)) hown (mvT hZ (hw _ (List.mem_of_getElem? (i := 0) rfl))) (mvT hZ (hw _ (List.mem_of_getElem? (i := 1) rfl))) (mvT hZ (hw _ (List.mem_of_getElem? (i := 2) rfl))) (mvT hZ (hw _ (List.mem_of_getElem? (i := 3) rfl))) (by decide) (backOf (W := 0) (own_voM l Z a0 hw [] p3 ac cl T85.heap n0 Z85 O0_86 S0 A0 hsz hel) hZ (hw _ (List.mem_of_getElem? (i := 3) rfl)) (hw _ (List.mem_of_getElem? (i := 2) rfl)) (by decide) (by decide)) (g := (mkF m 43 #[.val (.int k), .val (.long p1), .second, .val (.long p2), .second, .val (.long p3), .second, .val (.int (0 : Int32)), .val (.int (1 : Int32)), .val .null, .val (.ref av85), .unset, .unset, .unset, .unset] [(.long p3)])) rfl (by rw [hml]; rfl) (argsL := [(.long p3)]) (rest := []) (lenOf own_pd3 rfl) rfl (by show 2 * 0 + _ ≤ _; exact Nat.le_of_eq rfl) (hb hby at_43) (fun _ _ => ⟨rfl, rfl, (by decide : 1 + 1 ≤ _), (by decide : 1 + 1 ≤ _)⟩)
      dsimp only [Pt.U, Pt.locs, Pt.cells, Pt.slots] at X87 l87 y87 z87 st87 hQ87
      subst l87 y87 z87
      obtain ⟨⟨av87, rfl, Ev87⟩, N87q, Kq87⟩ := hQ87
      have N87 := Fr.app N85 N87q
      have O0_88 := O0_86.keep Kq87 all0
      have Ev85_89 := Ev85.keep Kq87
      have Z87 : n0 ≤ T87.heap.size := Nat.le_trans Z85 Kq87.1
      refine own_go st87 ?_
      show own_Goes p e below (T87.setTop (mkF m 46 #[.val (.int k), .val (.long p1), .second, .val (.long p2), .second, .val (.long p3), .second, .val (.int (0 : Int32)), .val (.int (1 : Int32)), .val .null, .val (.ref av85), .unset, .unset, .unset, .unset] [(.ref av87)])) (G_own_law Z k p1 p2 p3 ac cl h0 n0 s)
      refine own_go (fun _ k_ => XS.astore X87.here hx rfl (hb hby at_46) rfl rfl (l' := #[.val (.int k), .val (.long p1), .second, .val (.long p2), .second, .val (.long p3), .second, .val (.int (0 : Int32)), .val (.int (1 : Int32)), .val .null, .val (.ref av85), .val (.ref av87), .unset, .unset, .unset]) rfl k_) ?_
      show own_Goes p e below (T87.setTop (mkF m 48 #[.val (.int k), .val (.long p1), .second, .val (.long p2), .second, .val (.long p3), .second, .val (.int (0 : Int32)), .val (.int (1 : Int32)), .val .null, .val (.ref av85), .val (.ref av87), .unset, .unset, .unset] [])) (G_own_law Z k p1 p2 p3 ac cl h0 n0 s)
      refine own_go (fun _ k_ => XS.iload X87.here hx rfl (hb hby at_48) rfl k_) ?_
      show own_Goes p e below (T87.setTop (mkF m 50 #[.val (.int k), .val (.long p1), .second, .val (.long p2), .second, .val (.long p3), .second, .val (.int (0 : Int32)), .val (.int (1 : Int32)), .val .null, .val (.ref av85), .val (.ref av87), .unset, .unset, .unset] [(.int (0 : Int32))])) (G_own_law Z k p1 p2 p3 ac cl h0 n0 s)
      obtain ⟨T90, h90, cA90, X90, e90, E90, A90, O90, st90⟩ := newR X87 hx hZ hown (hw _ (List.mem_of_getElem? (i := 25) rfl)) (hw _ (List.mem_of_getElem? (i := 26) rfl)) rfl (g := (mkF m 50 #[.val (.int k), .val (.long p1), .second, .val (.long p2), .second, .val (.long p3), .second, .val (.int (0 : Int32)), .val (.int (1 : Int32)), .val .null, .val (.ref av85), .val (.ref av87), .unset, .unset, .unset] [(.int (0 : Int32))])) rfl (hb hby at_50) rfl (by decide) (cap := 0) (by decide) (by decide) (by decide) (by decide)
      obtain ⟨b90, g90⟩ : ∃ z, z = T87.heap.size := ⟨_, rfl⟩
      rw [← g90] at A90 st90
      have ne_av85_b90 : av85 ≠ b90 := by rw [g90]; exact Nat.ne_of_lt Ev85_89.lt
      have ne_av87_b90 : av87 ≠ b90 := by rw [g90]; exact Nat.ne_of_lt Ev87.lt
      have O0_92 := O0_88.ext E90
      have Ev85_93 := Ev85_89.ext E90
      have Ev87_94 := Ev87.ext E90
      have g_b90 : n0 ≤ b90 := by rw [g90]; exact Z87
      have Z90 : n0 ≤ h90.size := Nat.le_trans Z87 E90.1
      have Av90 : Arv Z h90 b90 cA90 (.object "java/lang/Object") (0 : Int32) [] .null := Arv.new A90 (by decide)
      have Aw90 : Arv Z h90 b90 cA90 (.object "java/lang/Object") (0 : Int32) [] (.null) := Av90.pad (pad_rep [] _ 0)
      refine own_go st90 ?_
      show own_Goes p e below (T90.setTop (mkF m 53 #[.val (.int k), .val (.long p1), .second, .val (.long p2), .second, .val (.long p3), .second, .val (.int (0 : Int32)), .val (.int (1 : Int32)), .val .null, .val (.ref av85), .val (.ref av87), .unset, .unset, .unset] [(.ref b90)])) (G_own_law Z k p1 p2 p3 ac cl h0 n0 s)
      refine own_go (fun _ k_ => XS.astore X90.here hx rfl (hb hby at_53) rfl rfl (l' := #[.val (.int k), .val (.long p1), .second, .val (.long p2), .second, .val (.long p3), .second, .val (.int (0 : Int32)), .val (.int (1 : Int32)), .val .null, .val (.ref av85), .val (.ref av87), .val (.ref b90), .unset, .unset]) rfl k_) ?_
      show own_Goes p e below (T90.setTop (mkF m 55 #[.val (.int k), .val (.long p1), .second, .val (.long p2), .second, .val (.long p3), .second, .val (.int (0 : Int32)), .val (.int (1 : Int32)), .val .null, .val (.ref av85), .val (.ref av87), .val (.ref b90), .unset, .unset] [])) (G_own_law Z k p1 p2 p3 ac cl h0 n0 s)
      refine own_go (fun _ k_ => XS.iload X90.here hx rfl (hb hby at_55) rfl k_) ?_
      show own_Goes p e below (T90.setTop (mkF m 57 #[.val (.int k), .val (.long p1), .second, .val (.long p2), .second, .val (.long p3), .second, .val (.int (0 : Int32)), .val (.int (1 : Int32)), .val .null, .val (.ref av85), .val (.ref av87), .val (.ref b90), .unset, .unset] [(.int (0 : Int32))])) (G_own_law Z k p1 p2 p3 ac cl h0 n0 s)
      refine own_go (fun _ k_ => XS.ifYes X90.here hx rfl (pc0 := 57) (pc' := 66) rfl (hb hby at_57) rfl (XT.i0_le_t Int32.lt_irrefl) (by decide) (by decide) k_) ?_
      show own_Goes p e below (T90.setTop (mkF m 66 #[.val (.int k), .val (.long p1), .second, .val (.long p2), .second, .val (.long p3), .second, .val (.int (0 : Int32)), .val (.int (1 : Int32)), .val .null, .val (.ref av85), .val (.ref av87), .val (.ref b90), .unset, .unset] [])) (G_own_law Z k p1 p2 p3 ac cl h0 n0 s)
      refine own_go (fun _ k_ => XS.iload X90.here hx rfl (hb hby at_66) rfl k_) ?_
      show own_Goes p e below (T90.setTop (mkF m 68 #[.val (.int k), .val (.long p1), .second, .val (.long p2), .second, .val (.long p3), .second, .val (.int (0 : Int32)), .val (.int (1 : Int32)), .val .null, .val (.ref av85), .val (.ref av87), .val (.ref b90), .unset, .unset] [(.int (0 : Int32))])) (G_own_law Z k p1 p2 p3 ac cl h0 n0 s)
      refine own_go (fun _ k_ => XS.iconst X90.here hx rfl (hb hby at_68) k_) ?_
      show own_Goes p e below (T90.setTop (mkF m 69 #[.val (.int k), .val (.long p1), .second, .val (.long p2), .second, .val (.long p3), .second, .val (.int (0 : Int32)), .val (.int (1 : Int32)), .val .null, .val (.ref av85), .val (.ref av87), .val (.ref b90), .unset, .unset] [(.int (1 : Int32)), (.int (0 : Int32))])) (G_own_law Z k p1 p2 p3 ac cl h0 n0 s)
      refine own_go (fun _ k_ => XS.icmpYes X90.here hx rfl (pc0 := 69) (pc' := 78) rfl (hb hby at_69) rfl (XT.ii_le_t (by decide)) (by decide) (by decide) k_) ?_
      show own_Goes p e below (T90.setTop (mkF m 78 #[.val (.int k), .val (.long p1), .second, .val (.long p2), .second, .val (.long p3), .second, .val (.int (0 : Int32)), .val (.int (1 : Int32)), .val .null, .val (.ref av85), .val (.ref av87), .val (.ref b90), .unset, .unset] [])) (G_own_law Z k p1 p2 p3 ac cl h0 n0 s)
      refine own_go (fun _ k_ => XS.iload X90.here hx rfl (hb hby at_78) rfl k_) ?_
      show own_Goes p e below (T90.setTop (mkF m 80 #[.val (.int k), .val (.long p1), .second, .val (.long p2), .second, .val (.long p3), .second, .val (.int (0 : Int32)), .val (.int (1 : Int32)), .val .null, .val (.ref av85), .val (.ref av87), .val (.ref b90), .unset, .unset] [(.int (0 : Int32))])) (G_own_law Z k p1 p2 p3 ac cl h0 n0 s)
      refine own_go (fun _ k_ => XS.iconst X90.here hx rfl (hb hby at_80) k_) ?_
      show own_Goes p e below (T90.setTop (mkF m 81 #[.val (.int k), .val (.long p1), .second, .val (.long p2), .second, .val (.long p3), .second, .val (.int (0 : Int32)), .val (.int (1 : Int32)), .val .null, .val (.ref av85), .val (.ref av87), .val (.ref b90), .unset, .unset] [(.int (2 : Int32)), (.int (0 : Int32))])) (G_own_law Z k p1 p2 p3 ac cl h0 n0 s)
      refine own_go (fun _ k_ => XS.icmpYes X90.here hx rfl (pc0 := 81) (pc' := 90) rfl (hb hby at_81) rfl (XT.ii_le_t (by decide)) (by decide) (by decide) k_) ?_
      show own_Goes p e below (T90.setTop (mkF m 90 #[.val (.int k), .val (.long p1), .second, .val (.long p2), .second, .val (.long p3), .second, .val (.int (0 : Int32)), .val (.int (1 : Int32)), .val .null, .val (.ref av85), .val (.ref av87), .val (.ref b90), .unset, .unset] [])) (G_own_law Z k p1 p2 p3 ac cl h0 n0 s)
      refine own_go (fun _ k_ => XS.aload X90.here hx rfl (hb hby at_90) rfl rfl k_) ?_
      show own_Goes p e below (T90.setTop (mkF m 92 #[.val (.int k), .val (.long p1), .second, .val (.long p2), .second, .val (.long p3), .second, .val (.int (0 : Int32)), .val (.int (1 : Int32)), .val .null, .val (.ref av85), .val (.ref av87), .val (.ref b90), .unset, .unset] [(.ref b90)])) (G_own_law Z k p1 p2 p3 ac cl h0 n0 s)
      obtain ⟨_, _, ⟨T95, L95, k95, n95⟩, -, X95, ⟨Lc95, hQ95, l95, y95, z95⟩, st95⟩ := Jvm.LawKit.callS X90 hx (y := (⟨"com/example/remnant/remnant/core/MultipleValues", "of", "([Ljava/lang/Object;)Ljava/lang/Object;"⟩ : MethodName)) hown (mvT hZ (hw _ (List.mem_of_getElem? (i := 27) rfl))) (mvT hZ (hw _ (List.mem_of_getElem? (i := 28) rfl))) (mvT hZ (hw _ (List.mem_of_getElem? (i := 29) rfl))) (mvT hZ (hw _ (List.mem_of_getElem? (i := 30) rfl))) (by decide) (backOf (W := 0) (own_ofNM l Z a0 hw [] b90 cA90 (0 : Int32) [] h90 n0 Z90 Aw90 (by decide)) hZ (hw _ (List.mem_of_getElem? (i := 30) rfl)) (hw _ (List.mem_of_getElem? (i := 29) rfl)) (by decide) (by decide)) (g := (mkF m 92 #[.val (.int k), .val (.long p1), .second, .val (.long p2), .second, .val (.long p3), .second, .val (.int (0 : Int32)), .val (.int (1 : Int32)), .val .null, .val (.ref av85), .val (.ref av87), .val (.ref b90), .unset, .unset] [(.ref b90)])) rfl (by rw [hml]; rfl) (argsL := [(.ref b90)]) (rest := []) (lenOf own_pd4 rfl) rfl (by show 2 * 0 + _ ≤ _; exact Nat.le_of_eq rfl) (hb hby at_92) (fun _ _ => ⟨rfl, e90, (by decide : 3 + 1 ≤ _), (by decide : 2 + 1 ≤ _)⟩)
      dsimp only [Pt.U, Pt.locs, Pt.cells, Pt.slots] at X95 l95 y95 z95 st95 hQ95
      subst l95 y95 z95
      obtain ⟨⟨mv95, rfl, Em95, Fm95⟩, N95q, Kq95⟩ := hQ95
      have N95 := Fr.app N87 N95q
      have O0_96 := O0_92.keep Kq95 all0
      have Ev85_97 := Ev85_93.keep Kq95
      have Ev87_98 := Ev87_94.keep Kq95
      have Aw90_99 := Aw90.keep Kq95 nin0
      have Z95 : n0 ≤ T95.heap.size := Nat.le_trans Z90 Kq95.1
      refine own_go st95 ?_
      show own_Goes p e below (T95.setTop (mkF m 95 #[.val (.int k), .val (.long p1), .second, .val (.long p2), .second, .val (.long p3), .second, .val (.int (0 : Int32)), .val (.int (1 : Int32)), .val .null, .val (.ref av85), .val (.ref av87), .val (.ref b90), .unset, .unset] [(.ref mv95)])) (G_own_law Z k p1 p2 p3 ac cl h0 n0 s)
      refine own_go (fun _ k_ => XS.astore X95.here hx rfl (hb hby at_95) rfl rfl (l' := #[.val (.int k), .val (.long p1), .second, .val (.long p2), .second, .val (.long p3), .second, .val (.int (0 : Int32)), .val (.int (1 : Int32)), .val .null, .val (.ref av85), .val (.ref av87), .val (.ref b90), .val (.ref mv95), .unset]) rfl k_) ?_
      show own_Goes p e below (T95.setTop (mkF m 97 #[.val (.int k), .val (.long p1), .second, .val (.long p2), .second, .val (.long p3), .second, .val (.int (0 : Int32)), .val (.int (1 : Int32)), .val .null, .val (.ref av85), .val (.ref av87), .val (.ref b90), .val (.ref mv95), .unset] [])) (G_own_law Z k p1 p2 p3 ac cl h0 n0 s)
      refine own_go (fun _ k_ => XS.aload X95.here hx rfl (hb hby at_97) rfl rfl k_) ?_
      show own_Goes p e below (T95.setTop (mkF m 99 #[.val (.int k), .val (.long p1), .second, .val (.long p2), .second, .val (.long p3), .second, .val (.int (0 : Int32)), .val (.int (1 : Int32)), .val .null, .val (.ref av85), .val (.ref av87), .val (.ref b90), .val (.ref mv95), .unset] [(.ref mv95)])) (G_own_law Z k p1 p2 p3 ac cl h0 n0 s)
      obtain ⟨_, _, ⟨T100, L100, k100, n100⟩, -, X100, ⟨Lc100, hQ100, l100, y100, z100⟩, st100⟩ := Jvm.LawKit.callS X95 hx (y := (⟨"com/example/remnant/remnant/core/MultipleValues", "spread", "(Ljava/lang/Object;)[Ljava/lang/Object;"⟩ : MethodName)) hown (mvT hZ (hw _ (List.mem_of_getElem? (i := 39) rfl))) (mvT hZ (hw _ (List.mem_of_getElem? (i := 40) rfl))) (mvT hZ (hw _ (List.mem_of_getElem? (i := 29) rfl))) (mvT hZ (hw _ (List.mem_of_getElem? (i := 41) rfl))) (by decide) (backOf (W := 0) (own_spMVM l Z a0 hw [] mv95 b90 T95.heap n0 Z95 Em95 Fm95) hZ (hw _ (List.mem_of_getElem? (i := 41) rfl)) (hw _ (List.mem_of_getElem? (i := 29) rfl)) (by decide) (by decide)) (g := (mkF m 99 #[.val (.int k), .val (.long p1), .second, .val (.long p2), .second, .val (.long p3), .second, .val (.int (0 : Int32)), .val (.int (1 : Int32)), .val .null, .val (.ref av85), .val (.ref av87), .val (.ref b90), .val (.ref mv95), .unset] [(.ref mv95)])) rfl (by rw [hml]; rfl) (argsL := [(.ref mv95)]) (rest := []) (lenOf own_pd5 rfl) rfl (by show 2 * 0 + _ ≤ _; exact Nat.le_of_eq rfl) (hb hby at_99) (fun _ _ => ⟨rfl, rfl, (by decide : 4 + 0 ≤ _), (by decide : 3 + 0 ≤ _)⟩)
      dsimp only [Pt.U, Pt.locs, Pt.cells, Pt.slots] at X100 l100 y100 z100 st100 hQ100
      subst l100 y100 z100
      obtain ⟨rfl, N100q, e100⟩ := hQ100
      have N100 := Fr.app N95 N100q
      refine own_go st100 ?_
      show own_Goes p e below (T100.setTop (mkF m 102 #[.val (.int k), .val (.long p1), .second, .val (.long p2), .second, .val (.long p3), .second, .val (.int (0 : Int32)), .val (.int (1 : Int32)), .val .null, .val (.ref av85), .val (.ref av87), .val (.ref b90), .val (.ref mv95), .unset] [(.ref b90)])) (G_own_law Z k p1 p2 p3 ac cl h0 n0 s)
      refine own_go (fun _ k_ => XS.astore X100.here hx rfl (hb hby at_102) rfl rfl (l' := #[.val (.int k), .val (.long p1), .second, .val (.long p2), .second, .val (.long p3), .second, .val (.int (0 : Int32)), .val (.int (1 : Int32)), .val .null, .val (.ref av85), .val (.ref av87), .val (.ref b90), .val (.ref mv95), .val (.ref b90)]) rfl k_) ?_
      show own_Goes p e below (T100.setTop (mkF m 104 #[.val (.int k), .val (.long p1), .second, .val (.long p2), .second, .val (.long p3), .second, .val (.int (0 : Int32)), .val (.int (1 : Int32)), .val .null, .val (.ref av85), .val (.ref av87), .val (.ref b90), .val (.ref mv95), .val (.ref b90)] [])) (G_own_law Z k p1 p2 p3 ac cl h0 n0 s)
      refine own_go (fun _ k_ => XS.aload X100.here hx rfl (hb hby at_104) rfl rfl k_) ?_
      show own_Goes p e below (T100.setTop (mkF m 106 #[.val (.int k), .val (.long p1), .second, .val (.long p2), .second, .val (.long p3), .second, .val (.int (0 : Int32)), .val (.int (1 : Int32)), .val .null, .val (.ref av85), .val (.ref av87), .val (.ref b90), .val (.ref mv95), .val (.ref b90)] [(.ref b90)])) (G_own_law Z k p1 p2 p3 ac cl h0 n0 s)
      refine own_go (fun _ k_ => XS.ifnullNo X100.here hx rfl (hb hby at_106) rfl k_) ?_
      show own_Goes p e below (T100.setTop (mkF m 109 #[.val (.int k), .val (.long p1), .second, .val (.long p2), .second, .val (.long p3), .second, .val (.int (0 : Int32)), .val (.int (1 : Int32)), .val .null, .val (.ref av85), .val (.ref av87), .val (.ref b90), .val (.ref mv95), .val (.ref b90)] [])) (G_own_law Z k p1 p2 p3 ac cl h0 n0 s)
      refine own_go (fun _ k_ => XS.aload X100.here hx rfl (hb hby at_109) rfl rfl k_) ?_
      show own_Goes p e below (T100.setTop (mkF m 111 #[.val (.int k), .val (.long p1), .second, .val (.long p2), .second, .val (.long p3), .second, .val (.int (0 : Int32)), .val (.int (1 : Int32)), .val .null, .val (.ref av85), .val (.ref av87), .val (.ref b90), .val (.ref mv95), .val (.ref b90)] [(.ref b90)])) (G_own_law Z k p1 p2 p3 ac cl h0 n0 s)
      obtain ⟨c101, Ar101, q101, s101, z101, H101, G101⟩ := id Aw90_99
      refine own_go (fun _ k_ => X100.arraylength hx (by rw [e100]; exact Ar101.1) (State.isArrayOf_alike hZ.alike Ar101.2.1) (g := (mkF m 111 #[.val (.int k), .val (.long p1), .second, .val (.long p2), .second, .val (.long p3), .second, .val (.int (0 : Int32)), .val (.int (1 : Int32)), .val .null, .val (.ref av85), .val (.ref av87), .val (.ref b90), .val (.ref mv95), .val (.ref b90)] [(.ref b90)])) rfl rfl (hb hby at_111) _ k_) ?_
      rw [len_of s101 z101]
      show own_Goes p e below (T100.setTop (mkF m 112 #[.val (.int k), .val (.long p1), .second, .val (.long p2), .second, .val (.long p3), .second, .val (.int (0 : Int32)), .val (.int (1 : Int32)), .val .null, .val (.ref av85), .val (.ref av87), .val (.ref b90), .val (.ref mv95), .val (.ref b90)] [(.int (0 : Int32))])) (G_own_law Z k p1 p2 p3 ac cl h0 n0 s)
      refine own_go (fun _ k_ => XS.iload X100.here hx rfl (hb hby at_112) rfl k_) ?_
      show own_Goes p e below (T100.setTop (mkF m 114 #[.val (.int k), .val (.long p1), .second, .val (.long p2), .second, .val (.long p3), .second, .val (.int (0 : Int32)), .val (.int (1 : Int32)), .val .null, .val (.ref av85), .val (.ref av87), .val (.ref b90), .val (.ref mv95), .val (.ref b90)] [(.int (0 : Int32)), (.int (0 : Int32))])) (G_own_law Z k p1 p2 p3 ac cl h0 n0 s)
      refine own_go (fun _ k_ => XS.icmpYes X100.here hx rfl (pc0 := 114) (pc' := 119) rfl (hb hby at_114) rfl (XT.ii_eq_t (rfl : (0 : Int32) = (0 : Int32))) (by decide) (by decide) k_) ?_
      show own_Goes p e below (T100.setTop (mkF m 119 #[.val (.int k), .val (.long p1), .second, .val (.long p2), .second, .val (.long p3), .second, .val (.int (0 : Int32)), .val (.int (1 : Int32)), .val .null, .val (.ref av85), .val (.ref av87), .val (.ref b90), .val (.ref mv95), .val (.ref b90)] [])) (G_own_law Z k p1 p2 p3 ac cl h0 n0 s)
      refine own_go (fun _ k_ => XS.iload X100.here hx rfl (hb hby at_119) rfl k_) ?_
      show own_Goes p e below (T100.setTop (mkF m 121 #[.val (.int k), .val (.long p1), .second, .val (.long p2), .second, .val (.long p3), .second, .val (.int (0 : Int32)), .val (.int (1 : Int32)), .val .null, .val (.ref av85), .val (.ref av87), .val (.ref b90), .val (.ref mv95), .val (.ref b90)] [(.int (0 : Int32))])) (G_own_law Z k p1 p2 p3 ac cl h0 n0 s)
      refine own_go (fun _ k_ => XS.iconst X100.here hx rfl (hb hby at_121) k_) ?_
      show own_Goes p e below (T100.setTop (mkF m 122 #[.val (.int k), .val (.long p1), .second, .val (.long p2), .second, .val (.long p3), .second, .val (.int (0 : Int32)), .val (.int (1 : Int32)), .val .null, .val (.ref av85), .val (.ref av87), .val (.ref b90), .val (.ref mv95), .val (.ref b90)] [(.int (1 : Int32)), (.int (0 : Int32))])) (G_own_law Z k p1 p2 p3 ac cl h0 n0 s)
      refine own_go (fun _ k_ => XS.icmpNo X100.here hx rfl (hb hby at_122) rfl (XT.ii_eq_f (by decide)) k_) ?_
      show own_Goes p e below (T100.setTop (mkF m 125 #[.val (.int k), .val (.long p1), .second, .val (.long p2), .second, .val (.long p3), .second, .val (.int (0 : Int32)), .val (.int (1 : Int32)), .val .null, .val (.ref av85), .val (.ref av87), .val (.ref b90), .val (.ref mv95), .val (.ref b90)] [])) (G_own_law Z k p1 p2 p3 ac cl h0 n0 s)
      refine own_go (fun _ k_ => XS.aload X100.here hx rfl (hb hby at_125) rfl rfl k_) ?_
      show own_Goes p e below (T100.setTop (mkF m 127 #[.val (.int k), .val (.long p1), .second, .val (.long p2), .second, .val (.long p3), .second, .val (.int (0 : Int32)), .val (.int (1 : Int32)), .val .null, .val (.ref av85), .val (.ref av87), .val (.ref b90), .val (.ref mv95), .val (.ref b90)] [(.ref b90)])) (G_own_law Z k p1 p2 p3 ac cl h0 n0 s)
      refine own_go (fun _ k_ => XS.aload X100.here hx rfl (hb hby at_127) rfl rfl k_) ?_
      show own_Goes p e below (T100.setTop (mkF m 129 #[.val (.int k), .val (.long p1), .second, .val (.long p2), .second, .val (.long p3), .second, .val (.int (0 : Int32)), .val (.int (1 : Int32)), .val .null, .val (.ref av85), .val (.ref av87), .val (.ref b90), .val (.ref mv95), .val (.ref b90)] [(.ref b90), (.ref b90)])) (G_own_law Z k p1 p2 p3 ac cl h0 n0 s)
      refine own_go (fun _ k_ => Jvm.RoadKit.acmp (g := (mkF m 129 #[.val (.int k), .val (.long p1), .second, .val (.long p2), .second, .val (.long p3), .second, .val (.int (0 : Int32)), .val (.int (1 : Int32)), .val .null, .val (.ref av85), .val (.ref av87), .val (.ref b90), .val (.ref mv95), .val (.ref b90)] [(.ref b90), (.ref b90)])) X100 hx rfl rfl rfl (pc0 := 129) (pc' := 134) (same := true) rfl (hb hby at_129) rfl (decide_eq_true rfl) (by decide) (by decide) k_) ?_
      show own_Goes p e below (T100.setTop (mkF m 134 #[.val (.int k), .val (.long p1), .second, .val (.long p2), .second, .val (.long p3), .second, .val (.int (0 : Int32)), .val (.int (1 : Int32)), .val .null, .val (.ref av85), .val (.ref av87), .val (.ref b90), .val (.ref mv95), .val (.ref b90)] [])) (G_own_law Z k p1 p2 p3 ac cl h0 n0 s)
      refine own_go (fun _ k_ => XS.iload X100.here hx rfl (hb hby at_134) rfl k_) ?_
      show own_Goes p e below (T100.setTop (mkF m 136 #[.val (.int k), .val (.long p1), .second, .val (.long p2), .second, .val (.long p3), .second, .val (.int (0 : Int32)), .val (.int (1 : Int32)), .val .null, .val (.ref av85), .val (.ref av87), .val (.ref b90), .val (.ref mv95), .val (.ref b90)] [(.int (0 : Int32))])) (G_own_law Z k p1 p2 p3 ac cl h0 n0 s)
      refine own_go (fun _ k_ => XS.ifYes X100.here hx rfl (pc0 := 136) (pc' := 159) rfl (hb hby at_136) rfl (XT.i0_le_t Int32.lt_irrefl) (by decide) (by decide) k_) ?_
      show own_Goes p e below (T100.setTop (mkF m 159 #[.val (.int k), .val (.long p1), .second, .val (.long p2), .second, .val (.long p3), .second, .val (.int (0 : Int32)), .val (.int (1 : Int32)), .val .null, .val (.ref av85), .val (.ref av87), .val (.ref b90), .val (.ref mv95), .val (.ref b90)] [])) (G_own_law Z k p1 p2 p3 ac cl h0 n0 s)
      refine own_go (fun _ k_ => XS.iload X100.here hx rfl (hb hby at_159) rfl k_) ?_
      show own_Goes p e below (T100.setTop (mkF m 161 #[.val (.int k), .val (.long p1), .second, .val (.long p2), .second, .val (.long p3), .second, .val (.int (0 : Int32)), .val (.int (1 : Int32)), .val .null, .val (.ref av85), .val (.ref av87), .val (.ref b90), .val (.ref mv95), .val (.ref b90)] [(.int (0 : Int32))])) (G_own_law Z k p1 p2 p3 ac cl h0 n0 s)
      refine own_go (fun _ k_ => XS.iconst X100.here hx rfl (hb hby at_161) k_) ?_
      show own_Goes p e below (T100.setTop (mkF m 162 #[.val (.int k), .val (.long p1), .second, .val (.long p2), .second, .val (.long p3), .second, .val (.int (0 : Int32)), .val (.int (1 : Int32)), .val .null, .val (.ref av85), .val (.ref av87), .val (.ref b90), .val (.ref mv95), .val (.ref b90)] [(.int (1 : Int32)), (.int (0 : Int32))])) (G_own_law Z k p1 p2 p3 ac cl h0 n0 s)
      refine own_go (fun _ k_ => XS.icmpYes X100.here hx rfl (pc0 := 162) (pc' := 185) rfl (hb hby at_162) rfl (XT.ii_le_t (by decide)) (by decide) (by decide) k_) ?_
      show own_Goes p e below (T100.setTop (mkF m 185 #[.val (.int k), .val (.long p1), .second, .val (.long p2), .second, .val (.long p3), .second, .val (.int (0 : Int32)), .val (.int (1 : Int32)), .val .null, .val (.ref av85), .val (.ref av87), .val (.ref b90), .val (.ref mv95), .val (.ref b90)] [])) (G_own_law Z k p1 p2 p3 ac cl h0 n0 s)
      refine own_go (fun _ k_ => XS.iload X100.here hx rfl (hb hby at_185) rfl k_) ?_
      show own_Goes p e below (T100.setTop (mkF m 187 #[.val (.int k), .val (.long p1), .second, .val (.long p2), .second, .val (.long p3), .second, .val (.int (0 : Int32)), .val (.int (1 : Int32)), .val .null, .val (.ref av85), .val (.ref av87), .val (.ref b90), .val (.ref mv95), .val (.ref b90)] [(.int (0 : Int32))])) (G_own_law Z k p1 p2 p3 ac cl h0 n0 s)
      refine own_go (fun _ k_ => XS.iconst X100.here hx rfl (hb hby at_187) k_) ?_
      show own_Goes p e below (T100.setTop (mkF m 188 #[.val (.int k), .val (.long p1), .second, .val (.long p2), .second, .val (.long p3), .second, .val (.int (0 : Int32)), .val (.int (1 : Int32)), .val .null, .val (.ref av85), .val (.ref av87), .val (.ref b90), .val (.ref mv95), .val (.ref b90)] [(.int (2 : Int32)), (.int (0 : Int32))])) (G_own_law Z k p1 p2 p3 ac cl h0 n0 s)
      refine own_go (fun _ k_ => XS.icmpYes X100.here hx rfl (pc0 := 188) (pc' := 211) rfl (hb hby at_188) rfl (XT.ii_le_t (by decide)) (by decide) (by decide) k_) ?_
      show own_Goes p e below (T100.setTop (mkF m 211 #[.val (.int k), .val (.long p1), .second, .val (.long p2), .second, .val (.long p3), .second, .val (.int (0 : Int32)), .val (.int (1 : Int32)), .val .null, .val (.ref av85), .val (.ref av87), .val (.ref b90), .val (.ref mv95), .val (.ref b90)] [])) (G_own_law Z k p1 p2 p3 ac cl h0 n0 s)
      refine own_go (fun _ k_ => XS.iconst X100.here hx rfl (hb hby at_211) k_) ?_
      show own_Goes p e below (T100.setTop (mkF m 212 #[.val (.int k), .val (.long p1), .second, .val (.long p2), .second, .val (.long p3), .second, .val (.int (0 : Int32)), .val (.int (1 : Int32)), .val .null, .val (.ref av85), .val (.ref av87), .val (.ref b90), .val (.ref mv95), .val (.ref b90)] [(.int (1 : Int32))])) (G_own_law Z k p1 p2 p3 ac cl h0 n0 s)
      obtain ⟨fs, hr, hrun, hended, hW, hsame⟩ := X100.leave (v := some (.int (1 : Int32))) (fun h => by rw [Bd.returns] at h; cases h) Bd.notSynchronized
      refine ⟨_, _, retN X100 hx (t := .boolean) Bd.returns (by simp) (hb hby at_212) hr, hrun, hended, _, _, rfl, ?_, ⟨_, rfl⟩, hW, hsame.mono (by decide) (by decide)⟩
      show Q_own_law Z k p1 p2 p3 ac cl h0 n0 _ T100.heap _
      rw [e100]
      exact ⟨rfl, N100⟩
  · show own_Goes p e below (s₁.setTop (mkF m 5 #[.val (.int k), .val (.long p1), .second, .val (.long p2), .second, .val (.long p3), .second, .val (.int (1 : Int32)), .unset, .unset, .unset, .unset, .unset, .unset, .unset] [])) (G_own_law Z k p1 p2 p3 ac cl h0 n0 s)
    refine own_go (fun _ k_ => XS.iloadN X0.here hx rfl (hb hby at_5) rfl k_) ?_
    show own_Goes p e below (s₁.setTop (mkF m 6 #[.val (.int k), .val (.long p1), .second, .val (.long p2), .second, .val (.long p3), .second, .val (.int (1 : Int32)), .unset, .unset, .unset, .unset, .unset, .unset, .unset] [(.int k)])) (G_own_law Z k p1 p2 p3 ac cl h0 n0 s)
    refine own_go (fun _ k_ => XS.iconst X0.here hx rfl (hb hby at_6) k_) ?_
    show own_Goes p e below (s₁.setTop (mkF m 7 #[.val (.int k), .val (.long p1), .second, .val (.long p2), .second, .val (.long p3), .second, .val (.int (1 : Int32)), .unset, .unset, .unset, .unset, .unset, .unset, .unset] [(.int (2 : Int32)), (.int k)])) (G_own_law Z k p1 p2 p3 ac cl h0 n0 s)
    refine own_go (fun _ k_ => XS.ishr X0.here hx rfl (hb hby at_7) rfl k_) ?_
    show own_Goes p e below (s₁.setTop (mkF m 8 #[.val (.int k), .val (.long p1), .second, .val (.long p2), .second, .val (.long p3), .second, .val (.int (1 : Int32)), .unset, .unset, .unset, .unset, .unset, .unset, .unset] [(.int (k >>> ((2 : Int32) &&& 31)))])) (G_own_law Z k p1 p2 p3 ac cl h0 n0 s)
    refine own_go (fun _ k_ => XS.iconst X0.here hx rfl (hb hby at_8) k_) ?_
    show own_Goes p e below (s₁.setTop (mkF m 9 #[.val (.int k), .val (.long p1), .second, .val (.long p2), .second, .val (.long p3), .second, .val (.int (1 : Int32)), .unset, .unset, .unset, .unset, .unset, .unset, .unset] [(.int (1 : Int32)), (.int (k >>> ((2 : Int32) &&& 31)))])) (G_own_law Z k p1 p2 p3 ac cl h0 n0 s)
    refine own_go (fun _ k_ => XS.iand X0.here hx rfl (hb hby at_9) rfl k_) ?_
    show own_Goes p e below (s₁.setTop (mkF m 10 #[.val (.int k), .val (.long p1), .second, .val (.long p2), .second, .val (.long p3), .second, .val (.int (1 : Int32)), .unset, .unset, .unset, .unset, .unset, .unset, .unset] [(.int ((k >>> ((2 : Int32) &&& 31)) &&& (1 : Int32)))])) (G_own_law Z k p1 p2 p3 ac cl h0 n0 s)
    by_cases hc10_102 : ((k >>> ((2 : Int32) &&& 31)) &&& (1 : Int32)) = (0 : Int32)
    · refine own_go (fun _ k_ => XS.ifYes X0.here hx rfl (pc0 := 10) (pc' := 17) rfl (hb hby at_10) rfl (XT.i0_eq_t hc10_102) (by decide) (by decide) k_) ?_
      show own_Goes p e below (s₁.setTop (mkF m 17 #[.val (.int k), .val (.long p1), .second, .val (.long p2), .second, .val (.long p3), .second, .val (.int (1 : Int32)), .unset, .unset, .unset, .unset, .unset, .unset, .unset] [])) (G_own_law Z k p1 p2 p3 ac cl h0 n0 s)
      refine own_go (fun _ k_ => XS.iconst X0.here hx rfl (hb hby at_17) k_) ?_
      show own_Goes p e below (s₁.setTop (mkF m 18 #[.val (.int k), .val (.long p1), .second, .val (.long p2), .second, .val (.long p3), .second, .val (.int (1 : Int32)), .unset, .unset, .unset, .unset, .unset, .unset, .unset] [(.int (0 : Int32))])) (G_own_law Z k p1 p2 p3 ac cl h0 n0 s)
      refine own_go (fun _ k_ => XS.istore X0.here hx rfl (hb hby at_18) rfl (l' := #[.val (.int k), .val (.long p1), .second, .val (.long p2), .second, .val (.long p3), .second, .val (.int (1 : Int32)), .val (.int (0 : Int32)), .unset, .unset, .unset, .unset, .unset, .unset]) rfl k_) ?_
      show own_Goes p e below (s₁.setTop (mkF m 20 #[.val (.int k), .val (.long p1), .second, .val (.long p2), .second, .val (.long p3), .second, .val (.int (1 : Int32)), .val (.int (0 : Int32)), .unset, .unset, .unset, .unset, .unset, .unset] [])) (G_own_law Z k p1 p2 p3 ac cl h0 n0 s)
      refine own_go (fun _ k_ => XS.iload X0.here hx rfl (hb hby at_20) rfl k_) ?_
      show own_Goes p e below (s₁.setTop (mkF m 22 #[.val (.int k), .val (.long p1), .second, .val (.long p2), .second, .val (.long p3), .second, .val (.int (1 : Int32)), .val (.int (0 : Int32)), .unset, .unset, .unset, .unset, .unset, .unset] [(.int (0 : Int32))])) (G_own_law Z k p1 p2 p3 ac cl h0 n0 s)
      refine own_go (fun _ k_ => XS.ifYes X0.here hx rfl (pc0 := 22) (pc' := 29) rfl (hb hby at_22) rfl (XT.i0_eq_t (rfl : (0 : Int32) = (0 : Int32))) (by decide) (by decide) k_) ?_
      show own_Goes p e below (s₁.setTop (mkF m 29 #[.val (.int k), .val (.long p1), .second, .val (.long p2), .second, .val (.long p3), .second, .val (.int (1 : Int32)), .val (.int (0 : Int32)), .unset, .unset, .unset, .unset, .unset, .unset] [])) (G_own_law Z k p1 p2 p3 ac cl h0 n0 s)
      refine own_go (fun _ k_ => XS.lloadN X0.here hx rfl (hb hby at_29) rfl k_) ?_
      show own_Goes p e below (s₁.setTop (mkF m 30 #[.val (.int k), .val (.long p1), .second, .val (.long p2), .second, .val (.long p3), .second, .val (.int (1 : Int32)), .val (.int (0 : Int32)), .unset, .unset, .unset, .unset, .unset, .unset] [(.long p1)])) (G_own_law Z k p1 p2 p3 ac cl h0 n0 s)
      obtain ⟨_, _, ⟨T103, L103, k103, n103⟩, -, X103, ⟨Lc103, hQ103, l103, y103, z103⟩, st103⟩ := Jvm.LawKit.callS X0 hx (y := (⟨"java/lang/Long", "valueOf", "(J)Ljava/lang/Long;"⟩ : MethodName)) hown (mvT hZ (hw _ (List.mem_of_getElem? (i := 0) rfl))) (mvT hZ (hw _ (List.mem_of_getElem? (i := 1) rfl))) (mvT hZ (hw _ (List.mem_of_getElem? (i := 2) rfl))) (mvT hZ (hw _ (List.mem_of_getElem? (i := 3) rfl))) (by decide) (backOf (W := 0) (own_voM l Z a0 hw [] p1 ac cl h0 n0 Z0 O0 S0 A0 hsz hel) hZ (hw _ (List.mem_of_getElem? (i := 3) rfl)) (hw _ (List.mem_of_getElem? (i := 2) rfl)) (by decide) (by decide)) (g := (mkF m 30 #[.val (.int k), .val (.long p1), .second, .val (.long p2), .second, .val (.long p3), .second, .val (.int (1 : Int32)), .val (.int (0 : Int32)), .unset, .unset, .unset, .unset, .unset, .unset] [(.long p1)])) rfl (by rw [hml]; rfl) (argsL := [(.long p1)]) (rest := []) (lenOf own_pd3 rfl) rfl (by show 2 * 0 + _ ≤ _; exact Nat.le_of_eq rfl) (hb hby at_30) (fun _ _ => ⟨rfl, e0, (by decide : 0 + 1 ≤ _), (by decide : 0 + 1 ≤ _)⟩)
      dsimp only [Pt.U, Pt.locs, Pt.cells, Pt.slots] at X103 l103 y103 z103 st103 hQ103
      subst l103 y103 z103
      obtain ⟨⟨av103, rfl, Ev103⟩, N103q, Kq103⟩ := hQ103
      have N103 := Fr.app N0 N103q
      have O0_104 := O0.keep Kq103 all0
      have Z103 : n0 ≤ T103.heap.size := Nat.le_trans Z0 Kq103.1
      refine own_go st103 ?_
      show own_Goes p e below (T103.setTop (mkF m 33 #[.val (.int k), .val (.long p1), .second, .val (.long p2), .second, .val (.long p3), .second, .val (.int (1 : Int32)), .val (.int (0 : Int32)), .unset, .unset, .unset, .unset, .unset, .unset] [(.ref av103)])) (G_own_law Z k p1 p2 p3 ac cl h0 n0 s)
      refine own_go (fun _ k_ => XS.astore X103.here hx rfl (hb hby at_33) rfl rfl (l' := #[.val (.int k), .val (.long p1), .second, .val (.long p2), .second, .val (.long p3), .second, .val (.int (1 : Int32)), .val (.int (0 : Int32)), .val (.ref av103), .unset, .unset, .unset, .unset, .unset]) rfl k_) ?_
      show own_Goes p e below (T103.setTop (mkF m 35 #[.val (.int k), .val (.long p1), .second, .val (.long p2), .second, .val (.long p3), .second, .val (.int (1 : Int32)), .val (.int (0 : Int32)), .val (.ref av103), .unset, .unset, .unset, .unset, .unset] [])) (G_own_law Z k p1 p2 p3 ac cl h0 n0 s)
      refine own_go (fun _ k_ => XS.lloadN X103.here hx rfl (hb hby at_35) rfl k_) ?_
      show own_Goes p e below (T103.setTop (mkF m 36 #[.val (.int k), .val (.long p1), .second, .val (.long p2), .second, .val (.long p3), .second, .val (.int (1 : Int32)), .val (.int (0 : Int32)), .val (.ref av103), .unset, .unset, .unset, .unset, .unset] [(.long p2)])) (G_own_law Z k p1 p2 p3 ac cl h0 n0 s)
      obtain ⟨_, _, ⟨T105, L105, k105, n105⟩, -, X105, ⟨Lc105, hQ105, l105, y105, z105⟩, st105⟩ := Jvm.LawKit.callS X103 hx (y := (⟨"java/lang/Long", "valueOf", "(J)Ljava/lang/Long;"⟩ : MethodName)) hown (mvT hZ (hw _ (List.mem_of_getElem? (i := 0) rfl))) (mvT hZ (hw _ (List.mem_of_getElem? (i := 1) rfl))) (mvT hZ (hw _ (List.mem_of_getElem? (i := 2) rfl))) (mvT hZ (hw _ (List.mem_of_getElem? (i := 3) rfl))) (by decide) (backOf (W := 0) (own_voM l Z a0 hw [] p2 ac cl T103.heap n0 Z103 O0_104 S0 A0 hsz hel) hZ (hw _ (List.mem_of_getElem? (i := 3) rfl)) (hw _ (List.mem_of_getElem? (i := 2) rfl)) (by decide) (by decide)) (g := (mkF m 36 #[.val (.int k), .val (.long p1), .second, .val (.long p2), .second, .val (.long p3), .second, .val (.int (1 : Int32)), .val (.int (0 : Int32)), .val (.ref av103), .unset, .unset, .unset, .unset, .unset] [(.long p2)])) rfl (by rw [hml]; rfl) (argsL := [(.long p2)]) (rest := []) (lenOf own_pd3 rfl) rfl (by show 2 * 0 + _ ≤ _; exact Nat.le_of_eq rfl) (hb hby at_36) (fun _ _ => ⟨rfl, rfl, (by decide : 1 + 1 ≤ _), (by decide : 1 + 1 ≤ _)⟩)
      dsimp only [Pt.U, Pt.locs, Pt.cells, Pt.slots] at X105 l105 y105 z105 st105 hQ105
      subst l105 y105 z105
      obtain ⟨⟨av105, rfl, Ev105⟩, N105q, Kq105⟩ := hQ105
      have N105 := Fr.app N103 N105q
      have O0_106 := O0_104.keep Kq105 all0
      have Ev103_107 := Ev103.keep Kq105
      have Z105 : n0 ≤ T105.heap.size := Nat.le_trans Z103 Kq105.1
      refine own_go st105 ?_
      show own_Goes p e below (T105.setTop (mkF m 39 #[.val (.int k), .val (.long p1), .second, .val (.long p2), .second, .val (.long p3), .second, .val (.int (1 : Int32)), .val (.int (0 : Int32)), .val (.ref av103), .unset, .unset, .unset, .unset, .unset] [(.ref av105)])) (G_own_law Z k p1 p2 p3 ac cl h0 n0 s)
      refine own_go (fun _ k_ => XS.astore X105.here hx rfl (hb hby at_39) rfl rfl (l' := #[.val (.int k), .val (.long p1), .second, .val (.long p2), .second, .val (.long p3), .second, .val (.int (1 : Int32)), .val (.int (0 : Int32)), .val (.ref av103), .val (.ref av105), .unset, .unset, .unset, .unset]) rfl k_) ?_
      show own_Goes p e below (T105.setTop (mkF m 41 #[.val (.int k), .val (.long p1), .second, .val (.long p2), .second, .val (.long p3), .second, .val (.int (1 : Int32)), .val (.int (0 : Int32)), .val (.ref av103), .val (.ref av105), .unset, .unset, .unset, .unset] [])) (G_own_law Z k p1 p2 p3 ac cl h0 n0 s)
      refine own_go (fun _ k_ => XS.lload X105.here hx rfl (hb hby at_41) rfl k_) ?_
      show own_Goes p e below (T105.setTop (mkF m 43 #[.val (.int k), .val (.long p1), .second, .val (.long p2), .second, .val (.long p3), .second, .val (.int (1 : Int32)), .val (.int (0 : Int32)), .val (.ref av103), .val (.ref av105), .unset, .unset, .unset, .unset] [(.long p3)])) (G_own_law Z k p1 p2 p3 ac cl h0 n0 s)
      obtain ⟨_, _, ⟨T108, L108, k108, n108⟩, -, X108, ⟨Lc108, hQ108, l108, y108, z108⟩, st108⟩ := Jvm.LawKit.callS X105 hx (y := (⟨"java/lang/Long", "valueOf", "(J)Ljava/lang/Long;"⟩ : MethodName)) hown (mvT hZ (hw _ (List.mem_of_getElem? (i := 0) rfl))) (mvT hZ (hw _ (List.mem_of_getElem? (i := 1) rfl))) (mvT hZ (hw _ (List.mem_of_getElem? (i := 2) rfl))) (mvT hZ (hw _ (List.mem_of_getElem? (i := 3) rfl))) (by decide) (backOf (W := 0) (own_voM l Z a0 hw [] p3 ac cl T105.heap n0 Z105 O0_106 S0 A0 hsz hel) hZ (hw _ (List.mem_of_getElem? (i := 3) rfl)) (hw _ (List.mem_of_getElem? (i := 2) rfl)) (by decide) (by decide)) (g := (mkF m 43 #[.val (.int k), .val (.long p1), .second, .val (.long p2), .second, .val (.long p3), .second, .val (.int (1 : Int32)), .val (.int (0 : Int32)), .val (.ref av103), .val (.ref av105), .unset, .unset, .unset, .unset] [(.long p3)])) rfl (by rw [hml]; rfl) (argsL := [(.long p3)]) (rest := []) (lenOf own_pd3 rfl) rfl (by show 2 * 0 + _ ≤ _; exact Nat.le_of_eq rfl) (hb hby at_43) (fun _ _ => ⟨rfl, rfl, (by decide : 2 + 1 ≤ _), (by decide : 2 + 1 ≤ _)⟩)
      dsimp only [Pt.U, Pt.locs, Pt.cells, Pt.slots] at X108 l108 y108 z108 st108 hQ108
      subst l108 y108 z108
      obtain ⟨⟨av108, rfl, Ev108⟩, N108q, Kq108⟩ := hQ108
      have N108 := Fr.app N105 N108q
      have O0_109 := O0_106.keep Kq108 all0
      have Ev103_110 := Ev103_107.keep Kq108
      have Ev105_111 := Ev105.keep Kq108
      have Z108 : n0 ≤ T108.heap.size := Nat.le_trans Z105 Kq108.1
      refine own_go st108 ?_
      show own_Goes p e below (T108.setTop (mkF m 46 #[.val (.int k), .val (.long p1), .second, .val (.long p2), .second, .val (.long p3), .second, .val (.int (1 : Int32)), .val (.int (0 : Int32)), .val (.ref av103), .val (.ref av105), .unset, .unset, .unset, .unset] [(.ref av108)])) (G_own_law Z k p1 p2 p3 ac cl h0 n0 s)
      refine own_go (fun _ k_ => XS.astore X108.here hx rfl (hb hby at_46) rfl rfl (l' := #[.val (.int k), .val (.long p1), .second, .val (.long p2), .second, .val (.long p3), .second, .val (.int (1 : Int32)), .val (.int (0 : Int32)), .val (.ref av103), .val (.ref av105), .val (.ref av108), .unset, .unset, .unset]) rfl k_) ?_
      show own_Goes p e below (T108.setTop (mkF m 48 #[.val (.int k), .val (.long p1), .second, .val (.long p2), .second, .val (.long p3), .second, .val (.int (1 : Int32)), .val (.int (0 : Int32)), .val (.ref av103), .val (.ref av105), .val (.ref av108), .unset, .unset, .unset] [])) (G_own_law Z k p1 p2 p3 ac cl h0 n0 s)
      refine own_go (fun _ k_ => XS.iload X108.here hx rfl (hb hby at_48) rfl k_) ?_
      show own_Goes p e below (T108.setTop (mkF m 50 #[.val (.int k), .val (.long p1), .second, .val (.long p2), .second, .val (.long p3), .second, .val (.int (1 : Int32)), .val (.int (0 : Int32)), .val (.ref av103), .val (.ref av105), .val (.ref av108), .unset, .unset, .unset] [(.int (1 : Int32))])) (G_own_law Z k p1 p2 p3 ac cl h0 n0 s)
      obtain ⟨T112, h112, cA112, X112, e112, E112, A112, O112, st112⟩ := newR X108 hx hZ hown (hw _ (List.mem_of_getElem? (i := 25) rfl)) (hw _ (List.mem_of_getElem? (i := 26) rfl)) rfl (g := (mkF m 50 #[.val (.int k), .val (.long p1), .second, .val (.long p2), .second, .val (.long p3), .second, .val (.int (1 : Int32)), .val (.int (0 : Int32)), .val (.ref av103), .val (.ref av105), .val (.ref av108), .unset, .unset, .unset] [(.int (1 : Int32))])) rfl (hb hby at_50) rfl (by decide) (cap := 1) (by decide) (by decide) (by decide) (by decide)
      obtain ⟨b112, g112⟩ : ∃ z, z = T108.heap.size := ⟨_, rfl⟩
      rw [← g112] at A112 st112
      have ne_av103_b112 : av103 ≠ b112 := by rw [g112]; exact Nat.ne_of_lt Ev103_110.lt
      have ne_av105_b112 : av105 ≠ b112 := by rw [g112]; exact Nat.ne_of_lt Ev105_111.lt
      have ne_av108_b112 : av108 ≠ b112 := by rw [g112]; exact Nat.ne_of_lt Ev108.lt
      have O0_114 := O0_109.ext E112
      have Ev103_115 := Ev103_110.ext E112
      have Ev105_116 := Ev105_111.ext E112
      have Ev108_117 := Ev108.ext E112
      have g_b112 : n0 ≤ b112 := by rw [g112]; exact Z108
      have Z112 : n0 ≤ h112.size := Nat.le_trans Z108 E112.1
      have Av112 : Arv Z h112 b112 cA112 (.object "java/lang/Object") (1 : Int32) [] .null := Arv.new A112 (by decide)
      have Aw112 : Arv Z h112 b112 cA112 (.object "java/lang/Object") (1 : Int32) [.null] (.null) := Av112.pad (pad_rep [] _ 1)
      refine own_go st112 ?_
      show own_Goes p e below (T112.setTop (mkF m 53 #[.val (.int k), .val (.long p1), .second, .val (.long p2), .second, .val (.long p3), .second, .val (.int (1 : Int32)), .val (.int (0 : Int32)), .val (.ref av103), .val (.ref av105), .val (.ref av108), .unset, .unset, .unset] [(.ref b112)])) (G_own_law Z k p1 p2 p3 ac cl h0 n0 s)
      refine own_go (fun _ k_ => XS.astore X112.here hx rfl (hb hby at_53) rfl rfl (l' := #[.val (.int k), .val (.long p1), .second, .val (.long p2), .second, .val (.long p3), .second, .val (.int (1 : Int32)), .val (.int (0 : Int32)), .val (.ref av103), .val (.ref av105), .val (.ref av108), .val (.ref b112), .unset, .unset]) rfl k_) ?_
      show own_Goes p e below (T112.setTop (mkF m 55 #[.val (.int k), .val (.long p1), .second, .val (.long p2), .second, .val (.long p3), .second, .val (.int (1 : Int32)), .val (.int (0 : Int32)), .val (.ref av103), .val (.ref av105), .val (.ref av108), .val (.ref b112), .unset, .unset] [])) (G_own_law Z k p1 p2 p3 ac cl h0 n0 s)
      refine own_go (fun _ k_ => XS.iload X112.here hx rfl (hb hby at_55) rfl k_) ?_
      show own_Goes p e below (T112.setTop (mkF m 57 #[.val (.int k), .val (.long p1), .second, .val (.long p2), .second, .val (.long p3), .second, .val (.int (1 : Int32)), .val (.int (0 : Int32)), .val (.ref av103), .val (.ref av105), .val (.ref av108), .val (.ref b112), .unset, .unset] [(.int (1 : Int32))])) (G_own_law Z k p1 p2 p3 ac cl h0 n0 s)
      refine own_go (fun _ k_ => XS.ifNo X112.here hx rfl (hb hby at_57) rfl (XT.i0_le_f (by decide)) k_) ?_
      show own_Goes p e below (T112.setTop (mkF m 60 #[.val (.int k), .val (.long p1), .second, .val (.long p2), .second, .val (.long p3), .second, .val (.int (1 : Int32)), .val (.int (0 : Int32)), .val (.ref av103), .val (.ref av105), .val (.ref av108), .val (.ref b112), .unset, .unset] [])) (G_own_law Z k p1 p2 p3 ac cl h0 n0 s)
      refine own_go (fun _ k_ => XS.aload X112.here hx rfl (hb hby at_60) rfl rfl k_) ?_
      show own_Goes p e below (T112.setTop (mkF m 62 #[.val (.int k), .val (.long p1), .second, .val (.long p2), .second, .val (.long p3), .second, .val (.int (1 : Int32)), .val (.int (0 : Int32)), .val (.ref av103), .val (.ref av105), .val (.ref av108), .val (.ref b112), .unset, .unset] [(.ref b112)])) (G_own_law Z k p1 p2 p3 ac cl h0 n0 s)
      refine own_go (fun _ k_ => XS.iconst X112.here hx rfl (hb hby at_62) k_) ?_
      show own_Goes p e below (T112.setTop (mkF m 63 #[.val (.int k), .val (.long p1), .second, .val (.long p2), .second, .val (.long p3), .second, .val (.int (1 : Int32)), .val (.int (0 : Int32)), .val (.ref av103), .val (.ref av105), .val (.ref av108), .val (.ref b112), .unset, .unset] [(.int (0 : Int32)), (.ref b112)])) (G_own_law Z k p1 p2 p3 ac cl h0 n0 s)
      refine own_go (fun _ k_ => XS.aload X112.here hx rfl (hb hby at_63) rfl rfl k_) ?_
      show own_Goes p e below (T112.setTop (mkF m 65 #[.val (.int k), .val (.long p1), .second, .val (.long p2), .second, .val (.long p3), .second, .val (.int (1 : Int32)), .val (.int (0 : Int32)), .val (.ref av103), .val (.ref av105), .val (.ref av108), .val (.ref b112), .unset, .unset] [(.ref av103), (.int (0 : Int32)), (.ref b112)])) (G_own_law Z k p1 p2 p3 ac cl h0 n0 s)
      obtain ⟨c118, Ar118, q118, s118, z118, H118, G118⟩ := id Aw112
      have hin118 := inb_of s118 (j := (0 : Int32)) (by decide)
      obtain ⟨T118, h118, X118, e118, W118, st118⟩ := stR X112 hx hZ e112 Ar118 hin118 rfl (Sto.ofV Ar118 q118 O112 (Ins.of_exa Ev103_115 (hw _ (List.mem_of_getElem? (i := 43) rfl)))) (g := (mkF m 65 #[.val (.int k), .val (.long p1), .second, .val (.long p2), .second, .val (.long p3), .second, .val (.int (1 : Int32)), .val (.int (0 : Int32)), .val (.ref av103), .val (.ref av105), .val (.ref av108), .val (.ref b112), .unset, .unset] [(.ref av103), (.int (0 : Int32)), (.ref b112)])) rfl rfl (hb hby at_65)
      have O0_119 := O0_114.wr W118 g_b112
      have Ev103_120 := Ev103_115.wr W118
      have Ev105_121 := Ev105_116.wr W118
      have Ev108_122 := Ev108_117.wr W118
      have Av118 : Arv Z h118 b112 cA112 (.object "java/lang/Object") (1 : Int32) [(.ref av103)] (.null) := Arv.set Ar118 q118 s118 z118 H118 G118 (v := (.ref av103)) rfl W118 0 rfl (by first | decide | simp)
      have N118 := Fr.snoc X118 N108 g_b112
      have Z118 : n0 ≤ h118.size := by rw [W118.size]; exact Z112
      refine own_go st118 ?_
      show own_Goes p e below (T118.setTop (mkF m 66 #[.val (.int k), .val (.long p1), .second, .val (.long p2), .second, .val (.long p3), .second, .val (.int (1 : Int32)), .val (.int (0 : Int32)), .val (.ref av103), .val (.ref av105), .val (.ref av108), .val (.ref b112), .unset, .unset] [])) (G_own_law Z k p1 p2 p3 ac cl h0 n0 s)
      refine own_go (fun _ k_ => XS.iload X118.here hx rfl (hb hby at_66) rfl k_) ?_
      show own_Goes p e below (T118.setTop (mkF m 68 #[.val (.int k), .val (.long p1), .second, .val (.long p2), .second, .val (.long p3), .second, .val (.int (1 : Int32)), .val (.int (0 : Int32)), .val (.ref av103), .val (.ref av105), .val (.ref av108), .val (.ref b112), .unset, .unset] [(.int (1 : Int32))])) (G_own_law Z k p1 p2 p3 ac cl h0 n0 s)
      refine own_go (fun _ k_ => XS.iconst X118.here hx rfl (hb hby at_68) k_) ?_
      show own_Goes p e below (T118.setTop (mkF m 69 #[.val (.int k), .val (.long p1), .second, .val (.long p2), .second, .val (.long p3), .second, .val (.int (1 : Int32)), .val (.int (0 : Int32)), .val (.ref av103), .val (.ref av105), .val (.ref av108), .val (.ref b112), .unset, .unset] [(.int (1 : Int32)), (.int (1 : Int32))])) (G_own_law Z k p1 p2 p3 ac cl h0 n0 s)
      refine own_go (fun _ k_ => XS.icmpYes X118.here hx rfl (pc0 := 69) (pc' := 78) rfl (hb hby at_69) rfl (XT.ii_le_t Int32.lt_irrefl) (by decide) (by decide) k_) ?_
      show own_Goes p e below (T118.setTop (mkF m 78 #[.val (.int k), .val (.long p1), .second, .val (.long p2), .second, .val (.long p3), .second, .val (.int (1 : Int32)), .val (.int (0 : Int32)), .val (.ref av103), .val (.ref av105), .val (.ref av108), .val (.ref b112), .unset, .unset] [])) (G_own_law Z k p1 p2 p3 ac cl h0 n0 s)
      refine own_go (fun _ k_ => XS.iload X118.here hx rfl (hb hby at_78) rfl k_) ?_
      show own_Goes p e below (T118.setTop (mkF m 80 #[.val (.int k), .val (.long p1), .second, .val (.long p2), .second, .val (.long p3), .second, .val (.int (1 : Int32)), .val (.int (0 : Int32)), .val (.ref av103), .val (.ref av105), .val (.ref av108), .val (.ref b112), .unset, .unset] [(.int (1 : Int32))])) (G_own_law Z k p1 p2 p3 ac cl h0 n0 s)
      refine own_go (fun _ k_ => XS.iconst X118.here hx rfl (hb hby at_80) k_) ?_
      show own_Goes p e below (T118.setTop (mkF m 81 #[.val (.int k), .val (.long p1), .second, .val (.long p2), .second, .val (.long p3), .second, .val (.int (1 : Int32)), .val (.int (0 : Int32)), .val (.ref av103), .val (.ref av105), .val (.ref av108), .val (.ref b112), .unset, .unset] [(.int (2 : Int32)), (.int (1 : Int32))])) (G_own_law Z k p1 p2 p3 ac cl h0 n0 s)
      refine own_go (fun _ k_ => XS.icmpYes X118.here hx rfl (pc0 := 81) (pc' := 90) rfl (hb hby at_81) rfl (XT.ii_le_t (by decide)) (by decide) (by decide) k_) ?_
      show own_Goes p e below (T118.setTop (mkF m 90 #[.val (.int k), .val (.long p1), .second, .val (.long p2), .second, .val (.long p3), .second, .val (.int (1 : Int32)), .val (.int (0 : Int32)), .val (.ref av103), .val (.ref av105), .val (.ref av108), .val (.ref b112), .unset, .unset] [])) (G_own_law Z k p1 p2 p3 ac cl h0 n0 s)
      refine own_go (fun _ k_ => XS.aload X118.here hx rfl (hb hby at_90) rfl rfl k_) ?_
      show own_Goes p e below (T118.setTop (mkF m 92 #[.val (.int k), .val (.long p1), .second, .val (.long p2), .second, .val (.long p3), .second, .val (.int (1 : Int32)), .val (.int (0 : Int32)), .val (.ref av103), .val (.ref av105), .val (.ref av108), .val (.ref b112), .unset, .unset] [(.ref b112)])) (G_own_law Z k p1 p2 p3 ac cl h0 n0 s)
      obtain ⟨_, _, ⟨T123, L123, k123, n123⟩, -, X123, ⟨Lc123, hQ123, l123, y123, z123⟩, st123⟩ := Jvm.LawKit.callS X118 hx (y := (⟨"com/example/remnant/remnant/core/MultipleValues", "of", "([Ljava/lang/Object;)Ljava/lang/Object;"⟩ : MethodName)) hown (mvT hZ (hw _ (List.mem_of_getElem? (i := 27) rfl))) (mvT hZ (hw _ (List.mem_of_getElem? (i := 28) rfl))) (mvT hZ (hw _ (List.mem_of_getElem? (i := 29) rfl))) (mvT hZ (hw _ (List.mem_of_getElem? (i := 30) rfl))) (by decide) (backOf (W := 0) (own_of1RM l Z a0 hw [] b112 cA112 av103 h118 n0 Z118 Av118) hZ (hw _ (List.mem_of_getElem? (i := 30) rfl)) (hw _ (List.mem_of_getElem? (i := 29) rfl)) (by decide) (by decide)) (g := (mkF m 92 #[.val (.int k), .val (.long p1), .second, .val (.long p2), .second, .val (.long p3), .second, .val (.int (1 : Int32)), .val (.int (0 : Int32)), .val (.ref av103), .val (.ref av105), .val (.ref av108), .val (.ref b112), .unset, .unset] [(.ref b112)])) rfl (by rw [hml]; rfl) (argsL := [(.ref b112)]) (rest := []) (lenOf own_pd4 rfl) rfl (by show 2 * 0 + _ ≤ _; exact Nat.le_of_eq rfl) (hb hby at_92) (fun _ _ => ⟨rfl, e118, (by decide : 4 + 0 ≤ _), (by decide : 4 + 0 ≤ _)⟩)
      dsimp only [Pt.U, Pt.locs, Pt.cells, Pt.slots] at X123 l123 y123 z123 st123 hQ123
      subst l123 y123 z123
      obtain ⟨rfl, N123q, e123⟩ := hQ123
      have N123 := Fr.app N118 N123q
      refine own_go st123 ?_
      show own_Goes p e below (T123.setTop (mkF m 95 #[.val (.int k), .val (.long p1), .second, .val (.long p2), .second, .val (.long p3), .second, .val (.int (1 : Int32)), .val (.int (0 : Int32)), .val (.ref av103), .val (.ref av105), .val (.ref av108), .val (.ref b112), .unset, .unset] [(.ref av103)])) (G_own_law Z k p1 p2 p3 ac cl h0 n0 s)
      refine own_go (fun _ k_ => XS.astore X123.here hx rfl (hb hby at_95) rfl rfl (l' := #[.val (.int k), .val (.long p1), .second, .val (.long p2), .second, .val (.long p3), .second, .val (.int (1 : Int32)), .val (.int (0 : Int32)), .val (.ref av103), .val (.ref av105), .val (.ref av108), .val (.ref b112), .val (.ref av103), .unset]) rfl k_) ?_
      show own_Goes p e below (T123.setTop (mkF m 97 #[.val (.int k), .val (.long p1), .second, .val (.long p2), .second, .val (.long p3), .second, .val (.int (1 : Int32)), .val (.int (0 : Int32)), .val (.ref av103), .val (.ref av105), .val (.ref av108), .val (.ref b112), .val (.ref av103), .unset] [])) (G_own_law Z k p1 p2 p3 ac cl h0 n0 s)
      refine own_go (fun _ k_ => XS.aload X123.here hx rfl (hb hby at_97) rfl rfl k_) ?_
      show own_Goes p e below (T123.setTop (mkF m 99 #[.val (.int k), .val (.long p1), .second, .val (.long p2), .second, .val (.long p3), .second, .val (.int (1 : Int32)), .val (.int (0 : Int32)), .val (.ref av103), .val (.ref av105), .val (.ref av108), .val (.ref b112), .val (.ref av103), .unset] [(.ref av103)])) (G_own_law Z k p1 p2 p3 ac cl h0 n0 s)
      obtain ⟨_, _, ⟨T124, L124, k124, n124⟩, -, X124, ⟨Lc124, hQ124, l124, y124, z124⟩, st124⟩ := Jvm.LawKit.callS X123 hx (y := (⟨"com/example/remnant/remnant/core/MultipleValues", "spread", "(Ljava/lang/Object;)[Ljava/lang/Object;"⟩ : MethodName)) hown (mvT hZ (hw _ (List.mem_of_getElem? (i := 39) rfl))) (mvT hZ (hw _ (List.mem_of_getElem? (i := 40) rfl))) (mvT hZ (hw _ (List.mem_of_getElem? (i := 29) rfl))) (mvT hZ (hw _ (List.mem_of_getElem? (i := 41) rfl))) (by decide) (backOf (W := 0) (own_spRM l Z a0 hw [] av103 h118 n0 Z118 Ev103_120) hZ (hw _ (List.mem_of_getElem? (i := 41) rfl)) (hw _ (List.mem_of_getElem? (i := 29) rfl)) (by decide) (by decide)) (g := (mkF m 99 #[.val (.int k), .val (.long p1), .second, .val (.long p2), .second, .val (.long p3), .second, .val (.int (1 : Int32)), .val (.int (0 : Int32)), .val (.ref av103), .val (.ref av105), .val (.ref av108), .val (.ref b112), .val (.ref av103), .unset] [(.ref av103)])) rfl (by rw [hml]; rfl) (argsL := [(.ref av103)]) (rest := []) (lenOf own_pd5 rfl) rfl (by show 2 * 0 + _ ≤ _; exact Nat.le_of_eq rfl) (hb hby at_99) (fun _ _ => ⟨rfl, e123, (by decide : 4 + 1 ≤ _), (by decide : 4 + 1 ≤ _)⟩)
      dsimp only [Pt.U, Pt.locs, Pt.cells, Pt.slots] at X124 l124 y124 z124 st124 hQ124
      subst l124 y124 z124
      obtain ⟨⟨sb124, ks124, rfl, As124⟩, N124q, Kq124⟩ := hQ124
      have N124 := Fr.app N123 N124q
      have O0_125 := O0_119.keep Kq124 all0
      have Ev103_126 := Ev103_120.keep Kq124
      have Ev105_127 := Ev105_121.keep Kq124
      have Ev108_128 := Ev108_122.keep Kq124
      have Av118_129 := Av118.keep Kq124 nin0
      have Z124 : n0 ≤ T124.heap.size := Nat.le_trans Z118 Kq124.1
      refine own_go st124 ?_
      show own_Goes p e below (T124.setTop (mkF m 102 #[.val (.int k), .val (.long p1), .second, .val (.long p2), .second, .val (.long p3), .second, .val (.int (1 : Int32)), .val (.int (0 : Int32)), .val (.ref av103), .val (.ref av105), .val (.ref av108), .val (.ref b112), .val (.ref av103), .unset] [(.ref sb124)])) (G_own_law Z k p1 p2 p3 ac cl h0 n0 s)
      refine own_go (fun _ k_ => XS.astore X124.here hx rfl (hb hby at_102) rfl rfl (l' := #[.val (.int k), .val (.long p1), .second, .val (.long p2), .second, .val (.long p3), .second, .val (.int (1 : Int32)), .val (.int (0 : Int32)), .val (.ref av103), .val (.ref av105), .val (.ref av108), .val (.ref b112), .val (.ref av103), .val (.ref sb124)]) rfl k_) ?_
      show own_Goes p e below (T124.setTop (mkF m 104 #[.val (.int k), .val (.long p1), .second, .val (.long p2), .second, .val (.long p3), .second, .val (.int (1 : Int32)), .val (.int (0 : Int32)), .val (.ref av103), .val (.ref av105), .val (.ref av108), .val (.ref b112), .val (.ref av103), .val (.ref sb124)] [])) (G_own_law Z k p1 p2 p3 ac cl h0 n0 s)
      refine own_go (fun _ k_ => XS.aload X124.here hx rfl (hb hby at_104) rfl rfl k_) ?_
      show own_Goes p e below (T124.setTop (mkF m 106 #[.val (.int k), .val (.long p1), .second, .val (.long p2), .second, .val (.long p3), .second, .val (.int (1 : Int32)), .val (.int (0 : Int32)), .val (.ref av103), .val (.ref av105), .val (.ref av108), .val (.ref b112), .val (.ref av103), .val (.ref sb124)] [(.ref sb124)])) (G_own_law Z k p1 p2 p3 ac cl h0 n0 s)
      refine own_go (fun _ k_ => XS.ifnullNo X124.here hx rfl (hb hby at_106) rfl k_) ?_
      show own_Goes p e below (T124.setTop (mkF m 109 #[.val (.int k), .val (.long p1), .second, .val (.long p2), .second, .val (.long p3), .second, .val (.int (1 : Int32)), .val (.int (0 : Int32)), .val (.ref av103), .val (.ref av105), .val (.ref av108), .val (.ref b112), .val (.ref av103), .val (.ref sb124)] [])) (G_own_law Z k p1 p2 p3 ac cl h0 n0 s)
      refine own_go (fun _ k_ => XS.aload X124.here hx rfl (hb hby at_109) rfl rfl k_) ?_
      show own_Goes p e below (T124.setTop (mkF m 111 #[.val (.int k), .val (.long p1), .second, .val (.long p2), .second, .val (.long p3), .second, .val (.int (1 : Int32)), .val (.int (0 : Int32)), .val (.ref av103), .val (.ref av105), .val (.ref av108), .val (.ref b112), .val (.ref av103), .val (.ref sb124)] [(.ref sb124)])) (G_own_law Z k p1 p2 p3 ac cl h0 n0 s)
      obtain ⟨c130, Ar130, q130, s130, z130, H130, G130⟩ := id As124
      refine own_go (fun _ k_ => X124.arraylength hx Ar130.1 (State.isArrayOf_alike hZ.alike Ar130.2.1) (g := (mkF m 111 #[.val (.int k), .val (.long p1), .second, .val (.long p2), .second, .val (.long p3), .second, .val (.int (1 : Int32)), .val (.int (0 : Int32)), .val (.ref av103), .val (.ref av105), .val (.ref av108), .val (.ref b112), .val (.ref av103), .val (.ref sb124)] [(.ref sb124)])) rfl rfl (hb hby at_111) _ k_) ?_
      rw [len_of s130 z130]
      show own_Goes p e below (T124.setTop (mkF m 112 #[.val (.int k), .val (.long p1), .second, .val (.long p2), .second, .val (.long p3), .second, .val (.int (1 : Int32)), .val (.int (0 : Int32)), .val (.ref av103), .val (.ref av105), .val (.ref av108), .val (.ref b112), .val (.ref av103), .val (.ref sb124)] [(.int (1 : Int32))])) (G_own_law Z k p1 p2 p3 ac cl h0 n0 s)
      refine own_go (fun _ k_ => XS.iload X124.here hx rfl (hb hby at_112) rfl k_) ?_
      show own_Goes p e below (T124.setTop (mkF m 114 #[.val (.int k), .val (.long p1), .second, .val (.long p2), .second, .val (.long p3), .second, .val (.int (1 : Int32)), .val (.int (0 : Int32)), .val (.ref av103), .val (.ref av105), .val (.ref av108), .val (.ref b112), .val (.ref av103), .val (.ref sb124)] [(.int (1 : Int32)), (.int (1 : Int32))])) (G_own_law Z k p1 p2 p3 ac cl h0 n0 s)
      refine own_go (fun _ k_ => XS.icmpYes X124.here hx rfl (pc0 := 114) (pc' := 119) rfl (hb hby at_114) rfl (XT.ii_eq_t (rfl : (1 : Int32) = (1 : Int32))) (by decide) (by decide) k_) ?_
      show own_Goes p e below (T124.setTop (mkF m 119 #[.val (.int k), .val (.long p1), .second, .val (.long p2), .second, .val (.long p3), .second, .val (.int (1 : Int32)), .val (.int (0 : Int32)), .val (.ref av103), .val (.ref av105), .val (.ref av108), .val (.ref b112), .val (.ref av103), .val (.ref sb124)] [])) (G_own_law Z k p1 p2 p3 ac cl h0 n0 s)
      refine own_go (fun _ k_ => XS.iload X124.here hx rfl (hb hby at_119) rfl k_) ?_
      show own_Goes p e below (T124.setTop (mkF m 121 #[.val (.int k), .val (.long p1), .second, .val (.long p2), .second, .val (.long p3), .second, .val (.int (1 : Int32)), .val (.int (0 : Int32)), .val (.ref av103), .val (.ref av105), .val (.ref av108), .val (.ref b112), .val (.ref av103), .val (.ref sb124)] [(.int (1 : Int32))])) (G_own_law Z k p1 p2 p3 ac cl h0 n0 s)
      refine own_go (fun _ k_ => XS.iconst X124.here hx rfl (hb hby at_121) k_) ?_
      show own_Goes p e below (T124.setTop (mkF m 122 #[.val (.int k), .val (.long p1), .second, .val (.long p2), .second, .val (.long p3), .second, .val (.int (1 : Int32)), .val (.int (0 : Int32)), .val (.ref av103), .val (.ref av105), .val (.ref av108), .val (.ref b112), .val (.ref av103), .val (.ref sb124)] [(.int (1 : Int32)), (.int (1 : Int32))])) (G_own_law Z k p1 p2 p3 ac cl h0 n0 s)
      refine own_go (fun _ k_ => XS.icmpYes X124.here hx rfl (pc0 := 122) (pc' := 134) rfl (hb hby at_122) rfl (XT.ii_eq_t (rfl : (1 : Int32) = (1 : Int32))) (by decide) (by decide) k_) ?_
      show own_Goes p e below (T124.setTop (mkF m 134 #[.val (.int k), .val (.long p1), .second, .val (.long p2), .second, .val (.long p3), .second, .val (.int (1 : Int32)), .val (.int (0 : Int32)), .val (.ref av103), .val (.ref av105), .val (.ref av108), .val (.ref b112), .val (.ref av103), .val (.ref sb124)] [])) (G_own_law Z k p1 p2 p3 ac cl h0 n0 s)
      refine own_go (fun _ k_ => XS.iload X124.here hx rfl (hb hby at_134) rfl k_) ?_
      show own_Goes p e below (T124.setTop (mkF m 136 #[.val (.int k), .val (.long p1), .second, .val (.long p2), .second, .val (.long p3), .second, .val (.int (1 : Int32)), .val (.int (0 : Int32)), .val (.ref av103), .val (.ref av105), .val (.ref av108), .val (.ref b112), .val (.ref av103), .val (.ref sb124)] [(.int (1 : Int32))])) (G_own_law Z k p1 p2 p3 ac cl h0 n0 s)
      refine own_go (fun _ k_ => XS.ifNo X124.here hx rfl (hb hby at_136) rfl (XT.i0_le_f (by decide)) k_) ?_
      show own_Goes p e below (T124.setTop (mkF m 139 #[.val (.int k), .val (.long p1), .second, .val (.long p2), .second, .val (.long p3), .second, .val (.int (1 : Int32)), .val (.int (0 : Int32)), .val (.ref av103), .val (.ref av105), .val (.ref av108), .val (.ref b112), .val (.ref av103), .val (.ref sb124)] [])) (G_own_law Z k p1 p2 p3 ac cl h0 n0 s)
      refine own_go (fun _ k_ => XS.aload X124.here hx rfl (hb hby at_139) rfl rfl k_) ?_
      show own_Goes p e below (T124.setTop (mkF m 141 #[.val (.int k), .val (.long p1), .second, .val (.long p2), .second, .val (.long p3), .second, .val (.int (1 : Int32)), .val (.int (0 : Int32)), .val (.ref av103), .val (.ref av105), .val (.ref av108), .val (.ref b112), .val (.ref av103), .val (.ref sb124)] [(.ref sb124)])) (G_own_law Z k p1 p2 p3 ac cl h0 n0 s)
      refine own_go (fun _ k_ => XS.iconst X124.here hx rfl (hb hby at_141) k_) ?_
      show own_Goes p e below (T124.setTop (mkF m 142 #[.val (.int k), .val (.long p1), .second, .val (.long p2), .second, .val (.long p3), .second, .val (.int (1 : Int32)), .val (.int (0 : Int32)), .val (.ref av103), .val (.ref av105), .val (.ref av108), .val (.ref b112), .val (.ref av103), .val (.ref sb124)] [(.int (0 : Int32)), (.ref sb124)])) (G_own_law Z k p1 p2 p3 ac cl h0 n0 s)
      obtain ⟨c131, Ar131, q131, s131, z131, H131, G131⟩ := id As124
      have hin131 := inb_of s131 (j := (0 : Int32)) (by decide)
      have hat131 := H131.at hin131 (v := (.ref av103)) rfl
      refine own_go (fun _ k_ => X124.aaload hx (j := (0 : Int32)) (v := (.ref av103)) Ar131.1 (State.isArrayOf_alike hZ.alike Ar131.2.1) rfl Ar131.2.2 hin131 hat131 (g := (mkF m 142 #[.val (.int k), .val (.long p1), .second, .val (.long p2), .second, .val (.long p3), .second, .val (.int (1 : Int32)), .val (.int (0 : Int32)), .val (.ref av103), .val (.ref av105), .val (.ref av108), .val (.ref b112), .val (.ref av103), .val (.ref sb124)] [(.int (0 : Int32)), (.ref sb124)])) rfl rfl (hb hby at_142) _ k_) ?_
      show own_Goes p e below (T124.setTop (mkF m 143 #[.val (.int k), .val (.long p1), .second, .val (.long p2), .second, .val (.long p3), .second, .val (.int (1 : Int32)), .val (.int (0 : Int32)), .val (.ref av103), .val (.ref av105), .val (.ref av108), .val (.ref b112), .val (.ref av103), .val (.ref sb124)] [(.ref av103)])) (G_own_law Z k p1 p2 p3 ac cl h0 n0 s)
      refine own_go (fun _ k_ => XS.aload X124.here hx rfl (hb hby at_143) rfl rfl k_) ?_
      show own_Goes p e below (T124.setTop (mkF m 145 #[.val (.int k), .val (.long p1), .second, .val (.long p2), .second, .val (.long p3), .second, .val (.int (1 : Int32)), .val (.int (0 : Int32)), .val (.ref av103), .val (.ref av105), .val (.ref av108), .val (.ref b112), .val (.ref av103), .val (.ref sb124)] [(.ref av103), (.ref av103)])) (G_own_law Z k p1 p2 p3 ac cl h0 n0 s)
      refine own_go (fun _ k_ => Jvm.RoadKit.acmp (g := (mkF m 145 #[.val (.int k), .val (.long p1), .second, .val (.long p2), .second, .val (.long p3), .second, .val (.int (1 : Int32)), .val (.int (0 : Int32)), .val (.ref av103), .val (.ref av105), .val (.ref av108), .val (.ref b112), .val (.ref av103), .val (.ref sb124)] [(.ref av103), (.ref av103)])) X124 hx rfl rfl rfl (pc0 := 145) (pc' := 148) (same := true) rfl (hb hby at_145) rfl (decide_eq_true rfl) (by decide) (by decide) k_) ?_
      show own_Goes p e below (T124.setTop (mkF m 148 #[.val (.int k), .val (.long p1), .second, .val (.long p2), .second, .val (.long p3), .second, .val (.int (1 : Int32)), .val (.int (0 : Int32)), .val (.ref av103), .val (.ref av105), .val (.ref av108), .val (.ref b112), .val (.ref av103), .val (.ref sb124)] [])) (G_own_law Z k p1 p2 p3 ac cl h0 n0 s)
      refine own_go (fun _ k_ => XS.aload X124.here hx rfl (hb hby at_148) rfl rfl k_) ?_
      show own_Goes p e below (T124.setTop (mkF m 150 #[.val (.int k), .val (.long p1), .second, .val (.long p2), .second, .val (.long p3), .second, .val (.int (1 : Int32)), .val (.int (0 : Int32)), .val (.ref av103), .val (.ref av105), .val (.ref av108), .val (.ref b112), .val (.ref av103), .val (.ref sb124)] [(.ref b112)])) (G_own_law Z k p1 p2 p3 ac cl h0 n0 s)
      refine own_go (fun _ k_ => XS.iconst X124.here hx rfl (hb hby at_150) k_) ?_
      show own_Goes p e below (T124.setTop (mkF m 151 #[.val (.int k), .val (.long p1), .second, .val (.long p2), .second, .val (.long p3), .second, .val (.int (1 : Int32)), .val (.int (0 : Int32)), .val (.ref av103), .val (.ref av105), .val (.ref av108), .val (.ref b112), .val (.ref av103), .val (.ref sb124)] [(.int (0 : Int32)), (.ref b112)])) (G_own_law Z k p1 p2 p3 ac cl h0 n0 s)
      obtain ⟨c132, Ar132, q132, s132, z132, H132, G132⟩ := id Av118_129
      have hin132 := inb_of s132 (j := (0 : Int32)) (by decide)
      have hat132 := H132.at hin132 (v := (.ref av103)) rfl
      refine own_go (fun _ k_ => X124.aaload hx (j := (0 : Int32)) (v := (.ref av103)) Ar132.1 (State.isArrayOf_alike hZ.alike Ar132.2.1) rfl Ar132.2.2 hin132 hat132 (g := (mkF m 151 #[.val (.int k), .val (.long p1), .second, .val (.long p2), .second, .val (.long p3), .second, .val (.int (1 : Int32)), .val (.int (0 : Int32)), .val (.ref av103), .val (.ref av105), .val (.ref av108), .val (.ref b112), .val (.ref av103), .val (.ref sb124)] [(.int (0 : Int32)), (.ref b112)])) rfl rfl (hb hby at_151) _ k_) ?_
      show own_Goes p e below (T124.setTop (mkF m 152 #[.val (.int k), .val (.long p1), .second, .val (.long p2), .second, .val (.long p3), .second, .val (.int (1 : Int32)), .val (.int (0 : Int32)), .val (.ref av103), .val (.ref av105), .val (.ref av108), .val (.ref b112), .val (.ref av103), .val (.ref sb124)] [(.ref av103)])) (G_own_law Z k p1 p2 p3 ac cl h0 n0 s)
      refine own_go (fun _ k_ => XS.aload X124.here hx rfl (hb hby at_152) rfl rfl k_) ?_
      show own_Goes p e below (T124.setTop (mkF m 154 #[.val (.int k), .val (.long p1), .second, .val (.long p2), .second, .val (.long p3), .second, .val (.int (1 : Int32)), .val (.int (0 : Int32)), .val (.ref av103), .val (.ref av105), .val (.ref av108), .val (.ref b112), .val (.ref av103), .val (.ref sb124)] [(.ref av103), (.ref av103)])) (G_own_law Z k p1 p2 p3 ac cl h0 n0 s)
      refine own_go (fun _ k_ => Jvm.RoadKit.acmp (g := (mkF m 154 #[.val (.int k), .val (.long p1), .second, .val (.long p2), .second, .val (.long p3), .second, .val (.int (1 : Int32)), .val (.int (0 : Int32)), .val (.ref av103), .val (.ref av105), .val (.ref av108), .val (.ref b112), .val (.ref av103), .val (.ref sb124)] [(.ref av103), (.ref av103)])) X124 hx rfl rfl rfl (pc0 := 154) (pc' := 159) (same := true) rfl (hb hby at_154) rfl (decide_eq_true rfl) (by decide) (by decide) k_) ?_
      show own_Goes p e below (T124.setTop (mkF m 159 #[.val (.int k), .val (.long p1), .second, .val (.long p2), .second, .val (.long p3), .second, .val (.int (1 : Int32)), .val (.int (0 : Int32)), .val (.ref av103), .val (.ref av105), .val (.ref av108), .val (.ref b112), .val (.ref av103), .val (.ref sb124)] [])) (G_own_law Z k p1 p2 p3 ac cl h0 n0 s)
      refine own_go (fun _ k_ => XS.iload X124.here hx rfl (hb hby at_159) rfl k_) ?_
      show own_Goes p e below (T124.setTop (mkF m 161 #[.val (.int k), .val (.long p1), .second, .val (.long p2), .second, .val (.long p3), .second, .val (.int (1 : Int32)), .val (.int (0 : Int32)), .val (.ref av103), .val (.ref av105), .val (.ref av108), .val (.ref b112), .val (.ref av103), .val (.ref sb124)] [(.int (1 : Int32))])) (G_own_law Z k p1 p2 p3 ac cl h0 n0 s)
      refine own_go (fun _ k_ => XS.iconst X124.here hx rfl (hb hby at_161) k_) ?_
      show own_Goes p e below (T124.setTop (mkF m 162 #[.val (.int k), .val (.long p1), .second, .val (.long p2), .second, .val (.long p3), .second, .val (.int (1 : Int32)), .val (.int (0 : Int32)), .val (.ref av103), .val (.ref av105), .val (.ref av108), .val (.ref b112), .val (.ref av103), .val (.ref sb124)] [(.int (1 : Int32)), (.int (1 : Int32))])) (G_own_law Z k p1 p2 p3 ac cl h0 n0 s)
      refine own_go (fun _ k_ => XS.icmpYes X124.here hx rfl (pc0 := 162) (pc' := 185) rfl (hb hby at_162) rfl (XT.ii_le_t Int32.lt_irrefl) (by decide) (by decide) k_) ?_
      show own_Goes p e below (T124.setTop (mkF m 185 #[.val (.int k), .val (.long p1), .second, .val (.long p2), .second, .val (.long p3), .second, .val (.int (1 : Int32)), .val (.int (0 : Int32)), .val (.ref av103), .val (.ref av105), .val (.ref av108), .val (.ref b112), .val (.ref av103), .val (.ref sb124)] [])) (G_own_law Z k p1 p2 p3 ac cl h0 n0 s)
      refine own_go (fun _ k_ => XS.iload X124.here hx rfl (hb hby at_185) rfl k_) ?_
      show own_Goes p e below (T124.setTop (mkF m 187 #[.val (.int k), .val (.long p1), .second, .val (.long p2), .second, .val (.long p3), .second, .val (.int (1 : Int32)), .val (.int (0 : Int32)), .val (.ref av103), .val (.ref av105), .val (.ref av108), .val (.ref b112), .val (.ref av103), .val (.ref sb124)] [(.int (1 : Int32))])) (G_own_law Z k p1 p2 p3 ac cl h0 n0 s)
      refine own_go (fun _ k_ => XS.iconst X124.here hx rfl (hb hby at_187) k_) ?_
      show own_Goes p e below (T124.setTop (mkF m 188 #[.val (.int k), .val (.long p1), .second, .val (.long p2), .second, .val (.long p3), .second, .val (.int (1 : Int32)), .val (.int (0 : Int32)), .val (.ref av103), .val (.ref av105), .val (.ref av108), .val (.ref b112), .val (.ref av103), .val (.ref sb124)] [(.int (2 : Int32)), (.int (1 : Int32))])) (G_own_law Z k p1 p2 p3 ac cl h0 n0 s)
      refine own_go (fun _ k_ => XS.icmpYes X124.here hx rfl (pc0 := 188) (pc' := 211) rfl (hb hby at_188) rfl (XT.ii_le_t (by decide)) (by decide) (by decide) k_) ?_
      show own_Goes p e below (T124.setTop (mkF m 211 #[.val (.int k), .val (.long p1), .second, .val (.long p2), .second, .val (.long p3), .second, .val (.int (1 : Int32)), .val (.int (0 : Int32)), .val (.ref av103), .val (.ref av105), .val (.ref av108), .val (.ref b112), .val (.ref av103), .val (.ref sb124)] [])) (G_own_law Z k p1 p2 p3 ac cl h0 n0 s)
      refine own_go (fun _ k_ => XS.iconst X124.here hx rfl (hb hby at_211) k_) ?_
      show own_Goes p e below (T124.setTop (mkF m 212 #[.val (.int k), .val (.long p1), .second, .val (.long p2), .second, .val (.long p3), .second, .val (.int (1 : Int32)), .val (.int (0 : Int32)), .val (.ref av103), .val (.ref av105), .val (.ref av108), .val (.ref b112), .val (.ref av103), .val (.ref sb124)] [(.int (1 : Int32))])) (G_own_law Z k p1 p2 p3 ac cl h0 n0 s)
      obtain ⟨fs, hr, hrun, hended, hW, hsame⟩ := X124.leave (v := some (.int (1 : Int32))) (fun h => by rw [Bd.returns] at h; cases h) Bd.notSynchronized
      refine ⟨_, _, retN X124 hx (t := .boolean) Bd.returns (by simp) (hb hby at_212) hr, hrun, hended, _, _, rfl, ?_, ⟨_, rfl⟩, hW, hsame.mono (by decide) (by decide)⟩
      show Q_own_law Z k p1 p2 p3 ac cl h0 n0 _ T124.heap _
      exact ⟨rfl, N124⟩
    · refine own_go (fun _ k_ => XS.ifNo X0.here hx rfl (hb hby at_10) rfl (XT.i0_eq_f hc10_102) k_) ?_
      show own_Goes p e below (s₁.setTop (mkF m 13 #[.val (.int k), .val (.long p1), .second, .val (.long p2), .second, .val (.long p3), .second, .val (.int (1 : Int32)), .unset, .unset, .unset, .unset, .unset, .unset, .unset] [])) (G_own_law Z k p1 p2 p3 ac cl h0 n0 s)
      refine own_go (fun _ k_ => XS.iconst X0.here hx rfl (hb hby at_13) k_) ?_
      show own_Goes p e below (s₁.setTop (mkF m 14 #[.val (.int k), .val (.long p1), .second, .val (.long p2), .second, .val (.long p3), .second, .val (.int (1 : Int32)), .unset, .unset, .unset, .unset, .unset, .unset, .unset] [(.int (1 : Int32))])) (G_own_law Z k p1 p2 p3 ac cl h0 n0 s)
      refine own_go (fun _ k_ => XS.goto X0.here hx rfl (pc0 := 14) (pc' := 18) rfl (hb hby at_14) (by decide) (by decide) k_) ?_
      show own_Goes p e below (s₁.setTop (mkF m 18 #[.val (.int k), .val (.long p1), .second, .val (.long p2), .second, .val (.long p3), .second, .val (.int (1 : Int32)), .unset, .unset, .unset, .unset, .unset, .unset, .unset] [(.int (1 : Int32))])) (G_own_law Z k p1 p2 p3 ac cl h0 n0 s)
      refine own_go (fun _ k_ => XS.istore X0.here hx rfl (hb hby at_18) rfl (l' := #[.val (.int k), .val (.long p1), .second, .val (.long p2), .second, .val (.long p3), .second, .val (.int (1 : Int32)), .val (.int (1 : Int32)), .unset, .unset, .unset, .unset, .unset, .unset]) rfl k_) ?_
      show own_Goes p e below (s₁.setTop (mkF m 20 #[.val (.int k), .val (.long p1), .second, .val (.long p2), .second, .val (.long p3), .second, .val (.int (1 : Int32)), .val (.int (1 : Int32)), .unset, .unset, .unset, .unset, .unset, .unset] [])) (G_own_law Z k p1 p2 p3 ac cl h0 n0 s)
      refine own_go (fun _ k_ => XS.iload X0.here hx rfl (hb hby at_20) rfl k_) ?_
      show own_Goes p e below (s₁.setTop (mkF m 22 #[.val (.int k), .val (.long p1), .second, .val (.long p2), .second, .val (.long p3), .second, .val (.int (1 : Int32)), .val (.int (1 : Int32)), .unset, .unset, .unset, .unset, .unset, .unset] [(.int (1 : Int32))])) (G_own_law Z k p1 p2 p3 ac cl h0 n0 s)
      refine own_go (fun _ k_ => XS.ifNo X0.here hx rfl (hb hby at_22) rfl (XT.i0_eq_f (by decide)) k_) ?_
      show own_Goes p e below (s₁.setTop (mkF m 25 #[.val (.int k), .val (.long p1), .second, .val (.long p2), .second, .val (.long p3), .second, .val (.int (1 : Int32)), .val (.int (1 : Int32)), .unset, .unset, .unset, .unset, .unset, .unset] [])) (G_own_law Z k p1 p2 p3 ac cl h0 n0 s)
      refine own_go (fun _ k_ => XS.aconstNull X0.here hx rfl (hb hby at_25) k_) ?_
      show own_Goes p e below (s₁.setTop (mkF m 26 #[.val (.int k), .val (.long p1), .second, .val (.long p2), .second, .val (.long p3), .second, .val (.int (1 : Int32)), .val (.int (1 : Int32)), .unset, .unset, .unset, .unset, .unset, .unset] [.null])) (G_own_law Z k p1 p2 p3 ac cl h0 n0 s)
      refine own_go (fun _ k_ => XS.goto X0.here hx rfl (pc0 := 26) (pc' := 33) rfl (hb hby at_26) (by decide) (by decide) k_) ?_
      show own_Goes p e below (s₁.setTop (mkF m 33 #[.val (.int k), .val (.long p1), .second, .val (.long p2), .second, .val (.long p3), .second, .val (.int (1 : Int32)), .val (.int (1 : Int32)), .unset, .unset, .unset, .unset, .unset, .unset] [.null])) (G_own_law Z k p1 p2 p3 ac cl h0 n0 s)
      refine own_go (fun _ k_ => XS.astore X0.here hx rfl (hb hby at_33) rfl rfl (l' := #[.val (.int k), .val (.long p1), .second, .val (.long p2), .second, .val (.long p3), .second, .val (.int (1 : Int32)), .val (.int (1 : Int32)), .val .null, .unset, .unset, .unset, .unset, .unset]) rfl k_) ?_
      show own_Goes p e below (s₁.setTop (mkF m 35 #[.val (.int k), .val (.long p1), .second, .val (.long p2), .second, .val (.long p3), .second, .val (.int (1 : Int32)), .val (.int (1 : Int32)), .val .null, .unset, .unset, .unset, .unset, .unset] [])) (G_own_law Z k p1 p2 p3 ac cl h0 n0 s)
      refine own_go (fun _ k_ => XS.lloadN X0.here hx rfl (hb hby at_35) rfl k_) ?_
      show own_Goes p e below (s₁.setTop (mkF m 36 #[.val (.int k), .val (.long p1), .second, .val (.long p2), .second, .val (.long p3), .second, .val (.int (1 : Int32)), .val (.int (1 : Int32)), .val .null, .unset, .unset, .unset, .unset, .unset] [(.long p2)])) (G_own_law Z k p1 p2 p3 ac cl h0 n0 s)
      obtain ⟨_, _, ⟨T133, L133, k133, n133⟩, -, X133, ⟨Lc133, hQ133, l133, y133, z133⟩, st133⟩ := Jvm.LawKit.callS X0 hx (y := (⟨"java/lang/Long", "valueOf", "(J)Ljava/lang/Long;"⟩ : MethodName)) hown (mvT hZ (hw _ (List.mem_of_getElem? (i := 0) rfl))) (mvT hZ (hw _ (List.mem_of_getElem? (i := 1) rfl))) (mvT hZ (hw _ (List.mem_of_getElem? (i := 2) rfl))) (mvT hZ (hw _ (List.mem_of_getElem? (i := 3) rfl))) (by decide) (backOf (W := 0) (own_voM l Z a0 hw [] p2 ac cl h0 n0 Z0 O0 S0 A0 hsz hel) hZ (hw _ (List.mem_of_getElem? (i := 3) rfl)) (hw _ (List.mem_of_getElem? (i := 2) rfl)) (by decide) (by decide)) (g := (mkF m 36 #[.val (.int k), .val (.long p1), .second, .val (.long p2), .second, .val (.long p3), .second, .val (.int (1 : Int32)), .val (.int (1 : Int32)), .val .null, .unset, .unset, .unset, .unset, .unset] [(.long p2)])) rfl (by rw [hml]; rfl) (argsL := [(.long p2)]) (rest := []) (lenOf own_pd3 rfl) rfl (by show 2 * 0 + _ ≤ _; exact Nat.le_of_eq rfl) (hb hby at_36) (fun _ _ => ⟨rfl, e0, (by decide : 0 + 1 ≤ _), (by decide : 0 + 1 ≤ _)⟩)
      dsimp only [Pt.U, Pt.locs, Pt.cells, Pt.slots] at X133 l133 y133 z133 st133 hQ133
      subst l133 y133 z133
      obtain ⟨⟨av133, rfl, Ev133⟩, N133q, Kq133⟩ := hQ133
      have N133 := Fr.app N0 N133q
      have O0_134 := O0.keep Kq133 all0
      have Z133 : n0 ≤ T133.heap.size := Nat.le_trans Z0 Kq133.1
      refine own_go st133 ?_
      show own_Goes p e below (T133.setTop (mkF m 39 #[.val (.int k), .val (.long p1), .second, .val (.long p2), .second, .val (.long p3), .second, .val (.int (1 : Int32)), .val (.int (1 : Int32)), .val .null, .unset, .unset, .unset, .unset, .unset] [(.ref av133)])) (G_own_law Z k p1 p2 p3 ac cl h0 n0 s)
      refine own_go (fun _ k_ => XS.astore X133.here hx rfl (hb hby at_39) rfl rfl (l' := #[.val (.int k), .val (.long p1), .second, .val (.long p2), .second, .val (.long p3), .second, .val (.int (1 : Int32)), .val (.int (1 : Int32)), .val .null, .val (.ref av133), .unset, .unset, .unset, .unset]) rfl k_) ?_
      show own_Goes p e below (T133.setTop (mkF m 41 #[.val (.int k), .val (.long p1), .second, .val (.long p2), .second, .val (.long p3), .second, .val (.int (1 : Int32)), .val (.int (1 : Int32)), .val .null, .val (.ref av133), .unset, .unset, .unset, .unset] [])) (G_own_law Z k p1 p2 p3 ac cl h0 n0 s)
      refine own_go (fun _ k_ => XS.lload X133.here hx rfl (hb hby at_41) rfl k_) ?_
      show own_Goes p e below (T133.setTop (mkF m 43 #[.val (.int k), .val (.long p1), .second, .val (.long p2), .second, .val (.long p3), .second, .val (.int (1 : Int32)), .val (.int (1 : Int32)), .val .null, .val (.ref av133), .unset, .unset, .unset, .unset] [(.long p3)])) (G_own_law Z k p1 p2 p3 ac cl h0 n0 s)
      obtain ⟨_, _, ⟨T135, L135, k135, n135⟩, -, X135, ⟨Lc135, hQ135, l135, y135, z135⟩, st135⟩ := Jvm.LawKit.callS X133 hx (y := (⟨"java/lang/Long", "valueOf", "(J)Ljava/lang/Long;"⟩ : MethodName)) hown (mvT hZ (hw _ (List.mem_of_getElem? (i := 0) rfl))) (mvT hZ (hw _ (List.mem_of_getElem? (i := 1) rfl))) (mvT hZ (hw _ (List.mem_of_getElem? (i := 2) rfl))) (mvT hZ (hw _ (List.mem_of_getElem? (i := 3) rfl))) (by decide) (backOf (W := 0) (own_voM l Z a0 hw [] p3 ac cl T133.heap n0 Z133 O0_134 S0 A0 hsz hel) hZ (hw _ (List.mem_of_getElem? (i := 3) rfl)) (hw _ (List.mem_of_getElem? (i := 2) rfl)) (by decide) (by decide)) (g := (mkF m 43 #[.val (.int k), .val (.long p1), .second, .val (.long p2), .second, .val (.long p3), .second, .val (.int (1 : Int32)), .val (.int (1 : Int32)), .val .null, .val (.ref av133), .unset, .unset, .unset, .unset] [(.long p3)])) rfl (by rw [hml]; rfl) (argsL := [(.long p3)]) (rest := []) (lenOf own_pd3 rfl) rfl (by show 2 * 0 + _ ≤ _; exact Nat.le_of_eq rfl) (hb hby at_43) (fun _ _ => ⟨rfl, rfl, (by decide : 1 + 1 ≤ _), (by decide : 1 + 1 ≤ _)⟩)
      dsimp only [Pt.U, Pt.locs, Pt.cells, Pt.slots] at X135 l135 y135 z135 st135 hQ135
      subst l135 y135 z135
      obtain ⟨⟨av135, rfl, Ev135⟩, N135q, Kq135⟩ := hQ135
      have N135 := Fr.app N133 N135q
      have O0_136 := O0_134.keep Kq135 all0
      have Ev133_137 := Ev133.keep Kq135
      have Z135 : n0 ≤ T135.heap.size := Nat.le_trans Z133 Kq135.1
      refine own_go st135 ?_
      show own_Goes p e below (T135.setTop (mkF m 46 #[.val (.int k), .val (.long p1), .second, .val (.long p2), .second, .val (.long p3), .second, .val (.int (1 : Int32)), .val (.int (1 : Int32)), .val .null, .val (.ref av133), .unset, .unset, .unset, .unset] [(.ref av135)])) (G_own_law Z k p1 p2 p3 ac cl h0 n0 s)
      refine own_go (fun _ k_ => XS.astore X135.here hx rfl (hb hby at_46) rfl rfl (l' := #[.val (.int k), .val (.long p1), .second, .val (.long p2), .second, .val (.long p3), .second, .val (.int (1 : Int32)), .val (.int (1 : Int32)), .val .null, .val (.ref av133), .val (.ref av135), .unset, .unset, .unset]) rfl k_) ?_
      show own_Goes p e below (T135.setTop (mkF m 48 #[.val (.int k), .val (.long p1), .second, .val (.long p2), .second, .val (.long p3), .second, .val (.int (1 : Int32)), .val (.int (1 : Int32)), .val .null, .val (.ref av133), .val (.ref av135), .unset, .unset, .unset] [])) (G_own_law Z k p1 p2 p3 ac cl h0 n0 s)
      refine own_go (fun _ k_ => XS.iload X135.here hx rfl (hb hby at_48) rfl k_) ?_
      show own_Goes p e below (T135.setTop (mkF m 50 #[.val (.int k), .val (.long p1), .second, .val (.long p2), .second, .val (.long p3), .second, .val (.int (1 : Int32)), .val (.int (1 : Int32)), .val .null, .val (.ref av133), .val (.ref av135), .unset, .unset, .unset] [(.int (1 : Int32))])) (G_own_law Z k p1 p2 p3 ac cl h0 n0 s)
      obtain ⟨T138, h138, cA138, X138, e138, E138, A138, O138, st138⟩ := newR X135 hx hZ hown (hw _ (List.mem_of_getElem? (i := 25) rfl)) (hw _ (List.mem_of_getElem? (i := 26) rfl)) rfl (g := (mkF m 50 #[.val (.int k), .val (.long p1), .second, .val (.long p2), .second, .val (.long p3), .second, .val (.int (1 : Int32)), .val (.int (1 : Int32)), .val .null, .val (.ref av133), .val (.ref av135), .unset, .unset, .unset] [(.int (1 : Int32))])) rfl (hb hby at_50) rfl (by decide) (cap := 1) (by decide) (by decide) (by decide) (by decide)
      obtain ⟨b138, g138⟩ : ∃ z, z = T135.heap.size := ⟨_, rfl⟩
      rw [← g138] at A138 st138
      have ne_av133_b138 : av133 ≠ b138 := by rw [g138]; exact Nat.ne_of_lt Ev133_137.lt
      have ne_av135_b138 : av135 ≠ b138 := by rw [g138]; exact Nat.ne_of_lt Ev135.lt
      have O0_140 := O0_136.ext E138
      have Ev133_141 := Ev133_137.ext E138
      have Ev135_142 := Ev135.ext E138
      have g_b138 : n0 ≤ b138 := by rw [g138]; exact Z135
      have Z138 : n0 ≤ h138.size := Nat.le_trans Z135 E138.1
      have Av138 : Arv Z h138 b138 cA138 (.object "java/lang/Object") (1 : Int32) [] .null := Arv.new A138 (by decide)
      have Aw138 : Arv Z h138 b138 cA138 (.object "java/lang/Object") (1 : Int32) [.null] (.null) := Av138.pad (pad_rep [] _ 1)
      refine own_go st138 ?_
      show own_Goes p e below (T138.setTop (mkF m 53 #[.val (.int k), .val (.long p1), .second, .val (.long p2), .second, .val (.long p3), .second, .val (.int (1 : Int32)), .val (.int (1 : Int32)), .val .null, .val (.ref av133), .val (.ref av135), .unset, .unset, .unset] [(.ref b138)])) (G_own_law Z k p1 p2 p3 ac cl h0 n0 s)
      refine own_go (fun _ k_ => XS.astore X138.here hx rfl (hb hby at_53) rfl rfl (l' := #[.val (.int k), .val (.long p1), .second, .val (.long p2), .second, .val (.long p3), .second, .val (.int (1 : Int32)), .val (.int (1 : Int32)), .val .null, .val (.ref av133), .val (.ref av135), .val (.ref b138), .unset, .unset]) rfl k_) ?_
      show own_Goes p e below (T138.setTop (mkF m 55 #[.val (.int k), .val (.long p1), .second, .val (.long p2), .second, .val (.long p3), .second, .val (.int (1 : Int32)), .val (.int (1 : Int32)), .val .null, .val (.ref av133), .val (.ref av135), .val (.ref b138), .unset, .unset] [])) (G_own_law Z k p1 p2 p3 ac cl h0 n0 s)
      refine own_go (fun _ k_ => XS.iload X138.here hx rfl (hb hby at_55) rfl k_) ?_
      show own_Goes p e below (T138.setTop (mkF m 57 #[.val (.int k), .val (.long p1), .second, .val (.long p2), .second, .val (.long p3), .second, .val (.int (1 : Int32)), .val (.int (1 : Int32)), .val .null, .val (.ref av133), .val (.ref av135), .val (.ref b138), .unset, .unset] [(.int (1 : Int32))])) (G_own_law Z k p1 p2 p3 ac cl h0 n0 s)
      refine own_go (fun _ k_ => XS.ifNo X138.here hx rfl (hb hby at_57) rfl (XT.i0_le_f (by decide)) k_) ?_
      show own_Goes p e below (T138.setTop (mkF m 60 #[.val (.int k), .val (.long p1), .second, .val (.long p2), .second, .val (.long p3), .second, .val (.int (1 : Int32)), .val (.int (1 : Int32)), .val .null, .val (.ref av133), .val (.ref av135), .val (.ref b138), .unset, .unset] [])) (G_own_law Z k p1 p2 p3 ac cl h0 n0 s)
      refine own_go (fun _ k_ => XS.aload X138.here hx rfl (hb hby at_60) rfl rfl k_) ?_
      show own_Goes p e below (T138.setTop (mkF m 62 #[.val (.int k), .val (.long p1), .second, .val (.long p2), .second, .val (.long p3), .second, .val (.int (1 : Int32)), .val (.int (1 : Int32)), .val .null, .val (.ref av133), .val (.ref av135), .val (.ref b138), .unset, .unset] [(.ref b138)])) (G_own_law Z k p1 p2 p3 ac cl h0 n0 s)
      refine own_go (fun _ k_ => XS.iconst X138.here hx rfl (hb hby at_62) k_) ?_
      show own_Goes p e below (T138.setTop (mkF m 63 #[.val (.int k), .val (.long p1), .second, .val (.long p2), .second, .val (.long p3), .second, .val (.int (1 : Int32)), .val (.int (1 : Int32)), .val .null, .val (.ref av133), .val (.ref av135), .val (.ref b138), .unset, .unset] [(.int (0 : Int32)), (.ref b138)])) (G_own_law Z k p1 p2 p3 ac cl h0 n0 s)
      refine own_go (fun _ k_ => XS.aload X138.here hx rfl (hb hby at_63) rfl rfl k_) ?_
      show own_Goes p e below (T138.setTop (mkF m 65 #[.val (.int k), .val (.long p1), .second, .val (.long p2), .second, .val (.long p3), .second, .val (.int (1 : Int32)), .val (.int (1 : Int32)), .val .null, .val (.ref av133), .val (.ref av135), .val (.ref b138), .unset, .unset] [.null, (.int (0 : Int32)), (.ref b138)])) (G_own_law Z k p1 p2 p3 ac cl h0 n0 s)
      obtain ⟨c143, Ar143, q143, s143, z143, H143, G143⟩ := id Aw138
      have hin143 := inb_of s143 (j := (0 : Int32)) (by decide)
      obtain ⟨T143, h143, X143, e143, W143, st143⟩ := stR X138 hx hZ e138 Ar143 hin143 rfl (Or.inl rfl) (g := (mkF m 65 #[.val (.int k), .val (.long p1), .second, .val (.long p2), .second, .val (.long p3), .second, .val (.int (1 : Int32)), .val (.int (1 : Int32)), .val .null, .val (.ref av133), .val (.ref av135), .val (.ref b138), .unset, .unset] [.null, (.int (0 : Int32)), (.ref b138)])) rfl rfl (hb hby at_65)
      have O0_144 := O0_140.wr W143 g_b138
      have Ev133_145 := Ev133_141.wr W143
      have Ev135_146 := Ev135_142.wr W143
      have Av143 : Arv Z h143 b138 cA138 (.object "java/lang/Object") (1 : Int32) [.null] (.null) := Arv.set Ar143 q143 s143 z143 H143 G143 (v := .null) rfl W143 0 rfl (by first | decide | simp)
      have N143 := Fr.snoc X143 N135 g_b138
      have Z143 : n0 ≤ h143.size := by rw [W143.size]; exact Z138
      refine own_go st143 ?_
      show own_Goes p e below (T143.setTop (mkF m 66 #[.val (.int k), .val (.long p1), .second, .val (.long p2), .second, .val (.long p3), .second, .val (.int (1 : Int32)), .val (.int (1 : Int32)), .val .null, .val (.ref av133), .val (.ref av135), .val (.ref b138), .unset, .unset] [])) (G_own_law Z k p1 p2 p3 ac cl h0 n0 s)
      refine own_go (fun _ k_ => XS.iload X143.here hx rfl (hb hby at_66) rfl k_) ?_
      show own_Goes p e below (T143.setTop (mkF m 68 #[.val (.int k), .val (.long p1), .second, .val (.long p2), .second, .val (.long p3), .second, .val (.int (1 : Int32)), .val (.int (1 : Int32)), .val .null, .val (.ref av133), .val (.ref av135), .val (.ref b138), .unset, .unset] [(.int (1 : Int32))])) (G_own_law Z k p1 p2 p3 ac cl h0 n0 s)
      refine own_go (fun _ k_ => XS.iconst X143.here hx rfl (hb hby at_68) k_) ?_
      show own_Goes p e below (T143.setTop (mkF m 69 #[.val (.int k), .val (.long p1), .second, .val (.long p2), .second, .val (.long p3), .second, .val (.int (1 : Int32)), .val (.int (1 : Int32)), .val .null, .val (.ref av133), .val (.ref av135), .val (.ref b138), .unset, .unset] [(.int (1 : Int32)), (.int (1 : Int32))])) (G_own_law Z k p1 p2 p3 ac cl h0 n0 s)
      refine own_go (fun _ k_ => XS.icmpYes X143.here hx rfl (pc0 := 69) (pc' := 78) rfl (hb hby at_69) rfl (XT.ii_le_t Int32.lt_irrefl) (by decide) (by decide) k_) ?_
      show own_Goes p e below (T143.setTop (mkF m 78 #[.val (.int k), .val (.long p1), .second, .val (.long p2), .second, .val (.long p3), .second, .val (.int (1 : Int32)), .val (.int (1 : Int32)), .val .null, .val (.ref av133), .val (.ref av135), .val (.ref b138), .unset, .unset] [])) (G_own_law Z k p1 p2 p3 ac cl h0 n0 s)
      refine own_go (fun _ k_ => XS.iload X143.here hx rfl (hb hby at_78) rfl k_) ?_
      show own_Goes p e below (T143.setTop (mkF m 80 #[.val (.int k), .val (.long p1), .second, .val (.long p2), .second, .val (.long p3), .second, .val (.int (1 : Int32)), .val (.int (1 : Int32)), .val .null, .val (.ref av133), .val (.ref av135), .val (.ref b138), .unset, .unset] [(.int (1 : Int32))])) (G_own_law Z k p1 p2 p3 ac cl h0 n0 s)
      refine own_go (fun _ k_ => XS.iconst X143.here hx rfl (hb hby at_80) k_) ?_
      show own_Goes p e below (T143.setTop (mkF m 81 #[.val (.int k), .val (.long p1), .second, .val (.long p2), .second, .val (.long p3), .second, .val (.int (1 : Int32)), .val (.int (1 : Int32)), .val .null, .val (.ref av133), .val (.ref av135), .val (.ref b138), .unset, .unset] [(.int (2 : Int32)), (.int (1 : Int32))])) (G_own_law Z k p1 p2 p3 ac cl h0 n0 s)
      refine own_go (fun _ k_ => XS.icmpYes X143.here hx rfl (pc0 := 81) (pc' := 90) rfl (hb hby at_81) rfl (XT.ii_le_t (by decide)) (by decide) (by decide) k_) ?_
      show own_Goes p e below (T143.setTop (mkF m 90 #[.val (.int k), .val (.long p1), .second, .val (.long p2), .second, .val (.long p3), .second, .val (.int (1 : Int32)), .val (.int (1 : Int32)), .val .null, .val (.ref av133), .val (.ref av135), .val (.ref b138), .unset, .unset] [])) (G_own_law Z k p1 p2 p3 ac cl h0 n0 s)
      refine own_go (fun _ k_ => XS.aload X143.here hx rfl (hb hby at_90) rfl rfl k_) ?_
      show own_Goes p e below (T143.setTop (mkF m 92 #[.val (.int k), .val (.long p1), .second, .val (.long p2), .second, .val (.long p3), .second, .val (.int (1 : Int32)), .val (.int (1 : Int32)), .val .null, .val (.ref av133), .val (.ref av135), .val (.ref b138), .unset, .unset] [(.ref b138)])) (G_own_law Z k p1 p2 p3 ac cl h0 n0 s)
      obtain ⟨_, _, ⟨T147, L147, k147, n147⟩, -, X147, ⟨Lc147, hQ147, l147, y147, z147⟩, st147⟩ := Jvm.LawKit.callS X143 hx (y := (⟨"com/example/remnant/remnant/core/MultipleValues", "of", "([Ljava/lang/Object;)Ljava/lang/Object;"⟩ : MethodName)) hown (mvT hZ (hw _ (List.mem_of_getElem? (i := 27) rfl))) (mvT hZ (hw _ (List.mem_of_getElem? (i := 28) rfl))) (mvT hZ (hw _ (List.mem_of_getElem? (i := 29) rfl))) (mvT hZ (hw _ (List.mem_of_getElem? (i := 30) rfl))) (by decide) (backOf (W := 0) (own_of1NM l Z a0 hw [] b138 cA138  h143 n0 Z143 Av143) hZ (hw _ (List.mem_of_getElem? (i := 30) rfl)) (hw _ (List.mem_of_getElem? (i := 29) rfl)) (by decide) (by decide)) (g := (mkF m 92 #[.val (.int k), .val (.long p1), .second, .val (.long p2), .second, .val (.long p3), .second, .val (.int (1 : Int32)), .val (.int (1 : Int32)), .val .null, .val (.ref av133), .val (.ref av135), .val (.ref b138), .unset, .unset] [(.ref b138)])) rfl (by rw [hml]; rfl) (argsL := [(.ref b138)]) (rest := []) (lenOf own_pd4 rfl) rfl (by show 2 * 0 + _ ≤ _; exact Nat.le_of_eq rfl) (hb hby at_92) (fun _ _ => ⟨rfl, e143, (by decide : 3 + 0 ≤ _), (by decide : 3 + 0 ≤ _)⟩)
      dsimp only [Pt.U, Pt.locs, Pt.cells, Pt.slots] at X147 l147 y147 z147 st147 hQ147
      subst l147 y147 z147
      obtain ⟨rfl, N147q, e147⟩ := hQ147
      have N147 := Fr.app N143 N147q
      refine own_go st147 ?_
      show own_Goes p e below (T147.setTop (mkF m 95 #[.val (.int k), .val (.long p1), .second, .val (.long p2), .second, .val (.long p3), .second, .val (.int (1 : Int32)), .val (.int (1 : Int32)), .val .null, .val (.ref av133), .val (.ref av135), .val (.ref b138), .unset, .unset] [.null])) (G_own_law Z k p1 p2 p3 ac cl h0 n0 s)
      refine own_go (fun _ k_ => XS.astore X147.here hx rfl (hb hby at_95) rfl rfl (l' := #[.val (.int k), .val (.long p1), .second, .val (.long p2), .second, .val (.long p3), .second, .val (.int (1 : Int32)), .val (.int (1 : Int32)), .val .null, .val (.ref av133), .val (.ref av135), .val (.ref b138), .val .null, .unset]) rfl k_) ?_
      show own_Goes p e below (T147.setTop (mkF m 97 #[.val (.int k), .val (.long p1), .second, .val (.long p2), .second, .val (.long p3), .second, .val (.int (1 : Int32)), .val (.int (1 : Int32)), .val .null, .val (.ref av133), .val (.ref av135), .val (.ref b138), .val .null, .unset] [])) (G_own_law Z k p1 p2 p3 ac cl h0 n0 s)
      refine own_go (fun _ k_ => XS.aload X147.here hx rfl (hb hby at_97) rfl rfl k_) ?_
      show own_Goes p e below (T147.setTop (mkF m 99 #[.val (.int k), .val (.long p1), .second, .val (.long p2), .second, .val (.long p3), .second, .val (.int (1 : Int32)), .val (.int (1 : Int32)), .val .null, .val (.ref av133), .val (.ref av135), .val (.ref b138), .val .null, .unset] [.null])) (G_own_law Z k p1 p2 p3 ac cl h0 n0 s)
      obtain ⟨_, _, ⟨T148, L148, k148, n148⟩, -, X148, ⟨Lc148, hQ148, l148, y148, z148⟩, st148⟩ := Jvm.LawKit.callS X147 hx (y := (⟨"com/example/remnant/remnant/core/MultipleValues", "spread", "(Ljava/lang/Object;)[Ljava/lang/Object;"⟩ : MethodName)) hown (mvT hZ (hw _ (List.mem_of_getElem? (i := 39) rfl))) (mvT hZ (hw _ (List.mem_of_getElem? (i := 40) rfl))) (mvT hZ (hw _ (List.mem_of_getElem? (i := 29) rfl))) (mvT hZ (hw _ (List.mem_of_getElem? (i := 41) rfl))) (by decide) (backOf (W := 0) (own_spNM l Z a0 hw []  h143 n0 Z143 ) hZ (hw _ (List.mem_of_getElem? (i := 41) rfl)) (hw _ (List.mem_of_getElem? (i := 29) rfl)) (by decide) (by decide)) (g := (mkF m 99 #[.val (.int k), .val (.long p1), .second, .val (.long p2), .second, .val (.long p3), .second, .val (.int (1 : Int32)), .val (.int (1 : Int32)), .val .null, .val (.ref av133), .val (.ref av135), .val (.ref b138), .val .null, .unset] [.null])) rfl (by rw [hml]; rfl) (argsL := [.null]) (rest := []) (lenOf own_pd5 rfl) rfl (by show 2 * 0 + _ ≤ _; exact Nat.le_of_eq rfl) (hb hby at_99) (fun _ _ => ⟨rfl, e147, (by decide : 3 + 1 ≤ _), (by decide : 3 + 1 ≤ _)⟩)
      dsimp only [Pt.U, Pt.locs, Pt.cells, Pt.slots] at X148 l148 y148 z148 st148 hQ148
      subst l148 y148 z148
      obtain ⟨⟨sb148, ks148, rfl, As148⟩, N148q, Kq148⟩ := hQ148
      have N148 := Fr.app N147 N148q
      have O0_149 := O0_144.keep Kq148 all0
      have Ev133_150 := Ev133_145.keep Kq148
      have Ev135_151 := Ev135_146.keep Kq148
      have Av143_152 := Av143.keep Kq148 nin0
      have Z148 : n0 ≤ T148.heap.size := Nat.le_trans Z143 Kq148.1
      refine own_go st148 ?_
      show own_Goes p e below (T148.setTop (mkF m 102 #[.val (.int k), .val (.long p1), .second, .val (.long p2), .second, .val (.long p3), .second, .val (.int (1 : Int32)), .val (.int (1 : Int32)), .val .null, .val (.ref av133), .val (.ref av135), .val (.ref b138), .val .null, .unset] [(.ref sb148)])) (G_own_law Z k p1 p2 p3 ac cl h0 n0 s)
      refine own_go (fun _ k_ => XS.astore X148.here hx rfl (hb hby at_102) rfl rfl (l' := #[.val (.int k), .val (.long p1), .second, .val (.long p2), .second, .val (.long p3), .second, .val (.int (1 : Int32)), .val (.int (1 : Int32)), .val .null, .val (.ref av133), .val (.ref av135), .val (.ref b138), .val .null, .val (.ref sb148)]) rfl k_) ?_
      show own_Goes p e below (T148.setTop (mkF m 104 #[.val (.int k), .val (.long p1), .second, .val (.long p2), .second, .val (.long p3), .second, .val (.int (1 : Int32)), .val (.int (1 : Int32)), .val .null, .val (.ref av133), .val (.ref av135), .val (.ref b138), .val .null, .val (.ref sb148)] [])) (G_own_law Z k p1 p2 p3 ac cl h0 n0 s)
      refine own_go (fun _ k_ => XS.aload X148.here hx rfl (hb hby at_104) rfl rfl k_) ?_
      show own_Goes p e below (T148.setTop (mkF m 106 #[.val (.int k), .val (.long p1), .second, .val (.long p2), .second, .val (.long p3), .second, .val (.int (1 : Int32)), .val (.int (1 : Int32)), .val .null, .val (.ref av133), .val (.ref av135), .val (.ref b138), .val .null, .val (.ref sb148)] [(.ref sb148)])) (G_own_law Z k p1 p2 p3 ac cl h0 n0 s)
      refine own_go (fun _ k_ => XS.ifnullNo X148.here hx rfl (hb hby at_106) rfl k_) ?_
      show own_Goes p e below (T148.setTop (mkF m 109 #[.val (.int k), .val (.long p1), .second, .val (.long p2), .second, .val (.long p3), .second, .val (.int (1 : Int32)), .val (.int (1 : Int32)), .val .null, .val (.ref av133), .val (.ref av135), .val (.ref b138), .val .null, .val (.ref sb148)] [])) (G_own_law Z k p1 p2 p3 ac cl h0 n0 s)
      refine own_go (fun _ k_ => XS.aload X148.here hx rfl (hb hby at_109) rfl rfl k_) ?_
      show own_Goes p e below (T148.setTop (mkF m 111 #[.val (.int k), .val (.long p1), .second, .val (.long p2), .second, .val (.long p3), .second, .val (.int (1 : Int32)), .val (.int (1 : Int32)), .val .null, .val (.ref av133), .val (.ref av135), .val (.ref b138), .val .null, .val (.ref sb148)] [(.ref sb148)])) (G_own_law Z k p1 p2 p3 ac cl h0 n0 s)
      obtain ⟨c153, Ar153, q153, s153, z153, H153, G153⟩ := id As148
      refine own_go (fun _ k_ => X148.arraylength hx Ar153.1 (State.isArrayOf_alike hZ.alike Ar153.2.1) (g := (mkF m 111 #[.val (.int k), .val (.long p1), .second, .val (.long p2), .second, .val (.long p3), .second, .val (.int (1 : Int32)), .val (.int (1 : Int32)), .val .null, .val (.ref av133), .val (.ref av135), .val (.ref b138), .val .null, .val (.ref sb148)] [(.ref sb148)])) rfl rfl (hb hby at_111) _ k_) ?_
      rw [len_of s153 z153]
      show own_Goes p e below (T148.setTop (mkF m 112 #[.val (.int k), .val (.long p1), .second, .val (.long p2), .second, .val (.long p3), .second, .val (.int (1 : Int32)), .val (.int (1 : Int32)), .val .null, .val (.ref av133), .val (.ref av135), .val (.ref b138), .val .null, .val (.ref sb148)] [(.int (1 : Int32))])) (G_own_law Z k p1 p2 p3 ac cl h0 n0 s)
      refine own_go (fun _ k_ => XS.iload X148.here hx rfl (hb hby at_112) rfl k_) ?_
      show own_Goes p e below (T148.setTop (mkF m 114 #[.val (.int k), .val (.long p1), .second, .val (.long p2), .second, .val (.long p3), .second, .val (.int (1 : Int32)), .val (.int (1 : Int32)), .val .null, .val (.ref av133), .val (.ref av135), .val (.ref b138), .val .null, .val (.ref sb148)] [(.int (1 : Int32)), (.int (1 : Int32))])) (G_own_law Z k p1 p2 p3 ac cl h0 n0 s)
      refine own_go (fun _ k_ => XS.icmpYes X148.here hx rfl (pc0 := 114) (pc' := 119) rfl (hb hby at_114) rfl (XT.ii_eq_t (rfl : (1 : Int32) = (1 : Int32))) (by decide) (by decide) k_) ?_
      show own_Goes p e below (T148.setTop (mkF m 119 #[.val (.int k), .val (.long p1), .second, .val (.long p2), .second, .val (.long p3), .second, .val (.int (1 : Int32)), .val (.int (1 : Int32)), .val .null, .val (.ref av133), .val (.ref av135), .val (.ref b138), .val .null, .val (.ref sb148)] [])) (G_own_law Z k p1 p2 p3 ac cl h0 n0 s)
      refine own_go (fun _ k_ => XS.iload X148.here hx rfl (hb hby at_119) rfl k_) ?_
      show own_Goes p e below (T148.setTop (mkF m 121 #[.val (.int k), .val (.long p1), .second, .val (.long p2), .second, .val (.long p3), .second, .val (.int (1 : Int32)), .val (.int (1 : Int32)), .val .null, .val (.ref av133), .val (.ref av135), .val (.ref b138), .val .null, .val (.ref sb148)] [(.int (1 : Int32))])) (G_own_law Z k p1 p2 p3 ac cl h0 n0 s)
      refine own_go (fun _ k_ => XS.iconst X148.here hx rfl (hb hby at_121) k_) ?_
      show own_Goes p e below (T148.setTop (mkF m 122 #[.val (.int k), .val (.long p1), .second, .val (.long p2), .second, .val (.long p3), .second, .val (.int (1 : Int32)), .val (.int (1 : Int32)), .val .null, .val (.ref av133), .val (.ref av135), .val (.ref b138), .val .null, .val (.ref sb148)] [(.int (1 : Int32)), (.int (1 : Int32))])) (G_own_law Z k p1 p2 p3 ac cl h0 n0 s)
      refine own_go (fun _ k_ => XS.icmpYes X148.here hx rfl (pc0 := 122) (pc' := 134) rfl (hb hby at_122) rfl (XT.ii_eq_t (rfl : (1 : Int32) = (1 : Int32))) (by decide) (by decide) k_) ?_
      show own_Goes p e below (T148.setTop (mkF m 134 #[.val (.int k), .val (.long p1), .second, .val (.long p2), .second, .val (.long p3), .second, .val (.int (1 : Int32)), .val (.int (1 : Int32)), .val .null, .val (.ref av133), .val (.ref av135), .val (.ref b138), .val .null, .val (.ref sb148)] [])) (G_own_law Z k p1 p2 p3 ac cl h0 n0 s)
      refine own_go (fun _ k_ => XS.iload X148.here hx rfl (hb hby at_134) rfl k_) ?_
      show own_Goes p e below (T148.setTop (mkF m 136 #[.val (.int k), .val (.long p1), .second, .val (.long p2), .second, .val (.long p3), .second, .val (.int (1 : Int32)), .val (.int (1 : Int32)), .val .null, .val (.ref av133), .val (.ref av135), .val (.ref b138), .val .null, .val (.ref sb148)] [(.int (1 : Int32))])) (G_own_law Z k p1 p2 p3 ac cl h0 n0 s)
      refine own_go (fun _ k_ => XS.ifNo X148.here hx rfl (hb hby at_136) rfl (XT.i0_le_f (by decide)) k_) ?_
      show own_Goes p e below (T148.setTop (mkF m 139 #[.val (.int k), .val (.long p1), .second, .val (.long p2), .second, .val (.long p3), .second, .val (.int (1 : Int32)), .val (.int (1 : Int32)), .val .null, .val (.ref av133), .val (.ref av135), .val (.ref b138), .val .null, .val (.ref sb148)] [])) (G_own_law Z k p1 p2 p3 ac cl h0 n0 s)
      refine own_go (fun _ k_ => XS.aload X148.here hx rfl (hb hby at_139) rfl rfl k_) ?_
      show own_Goes p e below (T148.setTop (mkF m 141 #[.val (.int k), .val (.long p1), .second, .val (.long p2), .second, .val (.long p3), .second, .val (.int (1 : Int32)), .val (.int (1 : Int32)), .val .null, .val (.ref av133), .val (.ref av135), .val (.ref b138), .val .null, .val (.ref sb148)] [(.ref sb148)])) (G_own_law Z k p1 p2 p3 ac cl h0 n0 s)
      refine own_go (fun _ k_ => XS.iconst X148.here hx rfl (hb hby at_141) k_) ?_
      show own_Goes p e below (T148.setTop (mkF m 142 #[.val (.int k), .val (.long p1), .second, .val (.long p2), .second, .val (.long p3), .second, .val (.int (1 : Int32)), .val (.int (1 : Int32)), .val .null, .val (.ref av133), .val (.ref av135), .val (.ref b138), .val .null, .val (.ref sb148)] [(.int (0 : Int32)), (.ref sb148)])) (G_own_law Z k p1 p2 p3 ac cl h0 n0 s)
      obtain ⟨c154, Ar154, q154, s154, z154, H154, G154⟩ := id As148
      have hin154 := inb_of s154 (j := (0 : Int32)) (by decide)
      have hat154 := H154.at hin154 (v := .null) rfl
      refine own_go (fun _ k_ => X148.aaload hx (j := (0 : Int32)) (v := .null) Ar154.1 (State.isArrayOf_alike hZ.alike Ar154.2.1) rfl Ar154.2.2 hin154 hat154 (g := (mkF m 142 #[.val (.int k), .val (.long p1), .second, .val (.long p2), .second, .val (.long p3), .second, .val (.int (1 : Int32)), .val (.int (1 : Int32)), .val .null, .val (.ref av133), .val (.ref av135), .val (.ref b138), .val .null, .val (.ref sb148)] [(.int (0 : Int32)), (.ref sb148)])) rfl rfl (hb hby at_142) _ k_) ?_
      show own_Goes p e below (T148.setTop (mkF m 143 #[.val (.int k), .val (.long p1), .second, .val (.long p2), .second, .val (.long p3), .second, .val (.int (1 : Int32)), .val (.int (1 : Int32)), .val .null, .val (.ref av133), .val (.ref av135), .val (.ref b138), .val .null, .val (.ref sb148)] [.null])) (G_own_law Z k p1 p2 p3 ac cl h0 n0 s)
      refine own_go (fun _ k_ => XS.aload X148.here hx rfl (hb hby at_143) rfl rfl k_) ?_
      show own_Goes p e below (T148.setTop (mkF m 145 #[.val (.int k), .val (.long p1), .second, .val (.long p2), .second, .val (.long p3), .second, .val (.int (1 : Int32)), .val (.int (1 : Int32)), .val .null, .val (.ref av133), .val (.ref av135), .val (.ref b138), .val .null, .val (.ref sb148)] [.null, .null])) (G_own_law Z k p1 p2 p3 ac cl h0 n0 s)
      refine own_go (fun _ k_ => Jvm.RoadKit.acmp (g := (mkF m 145 #[.val (.int k), .val (.long p1), .second, .val (.long p2), .second, .val (.long p3), .second, .val (.int (1 : Int32)), .val (.int (1 : Int32)), .val .null, .val (.ref av133), .val (.ref av135), .val (.ref b138), .val .null, .val (.ref sb148)] [.null, .null])) X148 hx rfl rfl rfl (pc0 := 145) (pc' := 148) (same := true) rfl (hb hby at_145) rfl (decide_eq_true rfl) (by decide) (by decide) k_) ?_
      show own_Goes p e below (T148.setTop (mkF m 148 #[.val (.int k), .val (.long p1), .second, .val (.long p2), .second, .val (.long p3), .second, .val (.int (1 : Int32)), .val (.int (1 : Int32)), .val .null, .val (.ref av133), .val (.ref av135), .val (.ref b138), .val .null, .val (.ref sb148)] [])) (G_own_law Z k p1 p2 p3 ac cl h0 n0 s)
      refine own_go (fun _ k_ => XS.aload X148.here hx rfl (hb hby at_148) rfl rfl k_) ?_
      show own_Goes p e below (T148.setTop (mkF m 150 #[.val (.int k), .val (.long p1), .second, .val (.long p2), .second, .val (.long p3), .second, .val (.int (1 : Int32)), .val (.int (1 : Int32)), .val .null, .val (.ref av133), .val (.ref av135), .val (.ref b138), .val .null, .val (.ref sb148)] [(.ref b138)])) (G_own_law Z k p1 p2 p3 ac cl h0 n0 s)
      refine own_go (fun _ k_ => XS.iconst X148.here hx rfl (hb hby at_150) k_) ?_
      show own_Goes p e below (T148.setTop (mkF m 151 #[.val (.int k), .val (.long p1), .second, .val (.long p2), .second, .val (.long p3), .second, .val (.int (1 : Int32)), .val (.int (1 : Int32)), .val .null, .val (.ref av133), .val (.ref av135), .val (.ref b138), .val .null, .val (.ref sb148)] [(.int (0 : Int32)), (.ref b138)])) (G_own_law Z k p1 p2 p3 ac cl h0 n0 s)
      obtain ⟨c155, Ar155, q155, s155, z155, H155, G155⟩ := id Av143_152
      have hin155 := inb_of s155 (j := (0 : Int32)) (by decide)
      have hat155 := H155.at hin155 (v := .null) rfl
      refine own_go (fun _ k_ => X148.aaload hx (j := (0 : Int32)) (v := .null) Ar155.1 (State.isArrayOf_alike hZ.alike Ar155.2.1) rfl Ar155.2.2 hin155 hat155 (g := (mkF m 151 #[.val (.int k), .val (.long p1), .second, .val (.long p2), .second, .val (.long p3), .second, .val (.int (1 : Int32)), .val (.int (1 : Int32)), .val .null, .val (.ref av133), .val (.ref av135), .val (.ref b138), .val .null, .val (.ref sb148)] [(.int (0 : Int32)), (.ref b138)])) rfl rfl (hb hby at_151) _ k_) ?_
      show own_Goes p e below (T148.setTop (mkF m 152 #[.val (.int k), .val (.long p1), .second, .val (.long p2), .second, .val (.long p3), .second, .val (.int (1 : Int32)), .val (.int (1 : Int32)), .val .null, .val (.ref av133), .val (.ref av135), .val (.ref b138), .val .null, .val (.ref sb148)] [.null])) (G_own_law Z k p1 p2 p3 ac cl h0 n0 s)
      refine own_go (fun _ k_ => XS.aload X148.here hx rfl (hb hby at_152) rfl rfl k_) ?_
      show own_Goes p e below (T148.setTop (mkF m 154 #[.val (.int k), .val (.long p1), .second, .val (.long p2), .second, .val (.long p3), .second, .val (.int (1 : Int32)), .val (.int (1 : Int32)), .val .null, .val (.ref av133), .val (.ref av135), .val (.ref b138), .val .null, .val (.ref sb148)] [.null, .null])) (G_own_law Z k p1 p2 p3 ac cl h0 n0 s)
      refine own_go (fun _ k_ => Jvm.RoadKit.acmp (g := (mkF m 154 #[.val (.int k), .val (.long p1), .second, .val (.long p2), .second, .val (.long p3), .second, .val (.int (1 : Int32)), .val (.int (1 : Int32)), .val .null, .val (.ref av133), .val (.ref av135), .val (.ref b138), .val .null, .val (.ref sb148)] [.null, .null])) X148 hx rfl rfl rfl (pc0 := 154) (pc' := 159) (same := true) rfl (hb hby at_154) rfl (decide_eq_true rfl) (by decide) (by decide) k_) ?_
      show own_Goes p e below (T148.setTop (mkF m 159 #[.val (.int k), .val (.long p1), .second, .val (.long p2), .second, .val (.long p3), .second, .val (.int (1 : Int32)), .val (.int (1 : Int32)), .val .null, .val (.ref av133), .val (.ref av135), .val (.ref b138), .val .null, .val (.ref sb148)] [])) (G_own_law Z k p1 p2 p3 ac cl h0 n0 s)
      refine own_go (fun _ k_ => XS.iload X148.here hx rfl (hb hby at_159) rfl k_) ?_
      show own_Goes p e below (T148.setTop (mkF m 161 #[.val (.int k), .val (.long p1), .second, .val (.long p2), .second, .val (.long p3), .second, .val (.int (1 : Int32)), .val (.int (1 : Int32)), .val .null, .val (.ref av133), .val (.ref av135), .val (.ref b138), .val .null, .val (.ref sb148)] [(.int (1 : Int32))])) (G_own_law Z k p1 p2 p3 ac cl h0 n0 s)
      refine own_go (fun _ k_ => XS.iconst X148.here hx rfl (hb hby at_161) k_) ?_
      show own_Goes p e below (T148.setTop (mkF m 162 #[.val (.int k), .val (.long p1), .second, .val (.long p2), .second, .val (.long p3), .second, .val (.int (1 : Int32)), .val (.int (1 : Int32)), .val .null, .val (.ref av133), .val (.ref av135), .val (.ref b138), .val .null, .val (.ref sb148)] [(.int (1 : Int32)), (.int (1 : Int32))])) (G_own_law Z k p1 p2 p3 ac cl h0 n0 s)
      refine own_go (fun _ k_ => XS.icmpYes X148.here hx rfl (pc0 := 162) (pc' := 185) rfl (hb hby at_162) rfl (XT.ii_le_t Int32.lt_irrefl) (by decide) (by decide) k_) ?_
      show own_Goes p e below (T148.setTop (mkF m 185 #[.val (.int k), .val (.long p1), .second, .val (.long p2), .second, .val (.long p3), .second, .val (.int (1 : Int32)), .val (.int (1 : Int32)), .val .null, .val (.ref av133), .val (.ref av135), .val (.ref b138), .val .null, .val (.ref sb148)] [])) (G_own_law Z k p1 p2 p3 ac cl h0 n0 s)
      refine own_go (fun _ k_ => XS.iload X148.here hx rfl (hb hby at_185) rfl k_) ?_
      show own_Goes p e below (T148.setTop (mkF m 187 #[.val (.int k), .val (.long p1), .second, .val (.long p2), .second, .val (.long p3), .second, .val (.int (1 : Int32)), .val (.int (1 : Int32)), .val .null, .val (.ref av133), .val (.ref av135), .val (.ref b138), .val .null, .val (.ref sb148)] [(.int (1 : Int32))])) (G_own_law Z k p1 p2 p3 ac cl h0 n0 s)
      refine own_go (fun _ k_ => XS.iconst X148.here hx rfl (hb hby at_187) k_) ?_
      show own_Goes p e below (T148.setTop (mkF m 188 #[.val (.int k), .val (.long p1), .second, .val (.long p2), .second, .val (.long p3), .second, .val (.int (1 : Int32)), .val (.int (1 : Int32)), .val .null, .val (.ref av133), .val (.ref av135), .val (.ref b138), .val .null, .val (.ref sb148)] [(.int (2 : Int32)), (.int (1 : Int32))])) (G_own_law Z k p1 p2 p3 ac cl h0 n0 s)
      refine own_go (fun _ k_ => XS.icmpYes X148.here hx rfl (pc0 := 188) (pc' := 211) rfl (hb hby at_188) rfl (XT.ii_le_t (by decide)) (by decide) (by decide) k_) ?_
      show own_Goes p e below (T148.setTop (mkF m 211 #[.val (.int k), .val (.long p1), .second, .val (.long p2), .second, .val (.long p3), .second, .val (.int (1 : Int32)), .val (.int (1 : Int32)), .val .null, .val (.ref av133), .val (.ref av135), .val (.ref b138), .val .null, .val (.ref sb148)] [])) (G_own_law Z k p1 p2 p3 ac cl h0 n0 s)
      refine own_go (fun _ k_ => XS.iconst X148.here hx rfl (hb hby at_211) k_) ?_
      show own_Goes p e below (T148.setTop (mkF m 212 #[.val (.int k), .val (.long p1), .second, .val (.long p2), .second, .val (.long p3), .second, .val (.int (1 : Int32)), .val (.int (1 : Int32)), .val .null, .val (.ref av133), .val (.ref av135), .val (.ref b138), .val .null, .val (.ref sb148)] [(.int (1 : Int32))])) (G_own_law Z k p1 p2 p3 ac cl h0 n0 s)
      obtain ⟨fs, hr, hrun, hended, hW, hsame⟩ := X148.leave (v := some (.int (1 : Int32))) (fun h => by rw [Bd.returns] at h; cases h) Bd.notSynchronized
      refine ⟨_, _, retN X148 hx (t := .boolean) Bd.returns (by simp) (hb hby at_212) hr, hrun, hended, _, _, rfl, ?_, ⟨_, rfl⟩, hW, hsame.mono (by decide) (by decide)⟩
      show Q_own_law Z k p1 p2 p3 ac cl h0 n0 _ T148.heap _
      exact ⟨rfl, N148⟩
  · show own_Goes p e below (s₁.setTop (mkF m 5 #[.val (.int k), .val (.long p1), .second, .val (.long p2), .second, .val (.long p3), .second, .val (.int (2 : Int32)), .unset, .unset, .unset, .unset, .unset, .unset, .unset] [])) (G_own_law Z k p1 p2 p3 ac cl h0 n0 s)
    refine own_go (fun _ k_ => XS.iloadN X0.here hx rfl (hb hby at_5) rfl k_) ?_
    show own_Goes p e below (s₁.setTop (mkF m 6 #[.val (.int k), .val (.long p1), .second, .val (.long p2), .second, .val (.long p3), .second, .val (.int (2 : Int32)), .unset, .unset, .unset, .unset, .unset, .unset, .unset] [(.int k)])) (G_own_law Z k p1 p2 p3 ac cl h0 n0 s)
    refine own_go (fun _ k_ => XS.iconst X0.here hx rfl (hb hby at_6) k_) ?_
    show own_Goes p e below (s₁.setTop (mkF m 7 #[.val (.int k), .val (.long p1), .second, .val (.long p2), .second, .val (.long p3), .second, .val (.int (2 : Int32)), .unset, .unset, .unset, .unset, .unset, .unset, .unset] [(.int (2 : Int32)), (.int k)])) (G_own_law Z k p1 p2 p3 ac cl h0 n0 s)
    refine own_go (fun _ k_ => XS.ishr X0.here hx rfl (hb hby at_7) rfl k_) ?_
    show own_Goes p e below (s₁.setTop (mkF m 8 #[.val (.int k), .val (.long p1), .second, .val (.long p2), .second, .val (.long p3), .second, .val (.int (2 : Int32)), .unset, .unset, .unset, .unset, .unset, .unset, .unset] [(.int (k >>> ((2 : Int32) &&& 31)))])) (G_own_law Z k p1 p2 p3 ac cl h0 n0 s)
    refine own_go (fun _ k_ => XS.iconst X0.here hx rfl (hb hby at_8) k_) ?_
    show own_Goes p e below (s₁.setTop (mkF m 9 #[.val (.int k), .val (.long p1), .second, .val (.long p2), .second, .val (.long p3), .second, .val (.int (2 : Int32)), .unset, .unset, .unset, .unset, .unset, .unset, .unset] [(.int (1 : Int32)), (.int (k >>> ((2 : Int32) &&& 31)))])) (G_own_law Z k p1 p2 p3 ac cl h0 n0 s)
    refine own_go (fun _ k_ => XS.iand X0.here hx rfl (hb hby at_9) rfl k_) ?_
    show own_Goes p e below (s₁.setTop (mkF m 10 #[.val (.int k), .val (.long p1), .second, .val (.long p2), .second, .val (.long p3), .second, .val (.int (2 : Int32)), .unset, .unset, .unset, .unset, .unset, .unset, .unset] [(.int ((k >>> ((2 : Int32) &&& 31)) &&& (1 : Int32)))])) (G_own_law Z k p1 p2 p3 ac cl h0 n0 s)
    by_cases hc10_156 : ((k >>> ((2 : Int32) &&& 31)) &&& (1 : Int32)) = (0 : Int32)
    · refine own_go (fun _ k_ => XS.ifYes X0.here hx rfl (pc0 := 10) (pc' := 17) rfl (hb hby at_10) rfl (XT.i0_eq_t hc10_156) (by decide) (by decide) k_) ?_
      show own_Goes p e below (s₁.setTop (mkF m 17 #[.val (.int k), .val (.long p1), .second, .val (.long p2), .second, .val (.long p3), .second, .val (.int (2 : Int32)), .unset, .unset, .unset, .unset, .unset, .unset, .unset] [])) (G_own_law Z k p1 p2 p3 ac cl h0 n0 s)
      refine own_go (fun _ k_ => XS.iconst X0.here hx rfl (hb hby at_17) k_) ?_
      show own_Goes p e below (s₁.setTop (mkF m 18 #[.val (.int k), .val (.long p1), .second, .val (.long p2), .second, .val (.long p3), .second, .val (.int (2 : Int32)), .unset, .unset, .unset, .unset, .unset, .unset, .unset] [(.int (0 : Int32))])) (G_own_law Z k p1 p2 p3 ac cl h0 n0 s)
      refine own_go (fun _ k_ => XS.istore X0.here hx rfl (hb hby at_18) rfl (l' := #[.val (.int k), .val (.long p1), .second, .val (.long p2), .second, .val (.long p3), .second, .val (.int (2 : Int32)), .val (.int (0 : Int32)), .unset, .unset, .unset, .unset, .unset, .unset]) rfl k_) ?_
      show own_Goes p e below (s₁.setTop (mkF m 20 #[.val (.int k), .val (.long p1), .second, .val (.long p2), .second, .val (.long p3), .second, .val (.int (2 : Int32)), .val (.int (0 : Int32)), .unset, .unset, .unset, .unset, .unset, .unset] [])) (G_own_law Z k p1 p2 p3 ac cl h0 n0 s)
      refine own_go (fun _ k_ => XS.iload X0.here hx rfl (hb hby at_20) rfl k_) ?_
      show own_Goes p e below (s₁.setTop (mkF m 22 #[.val (.int k), .val (.long p1), .second, .val (.long p2), .second, .val (.long p3), .second, .val (.int (2 : Int32)), .val (.int (0 : Int32)), .unset, .unset, .unset, .unset, .unset, .unset] [(.int (0 : Int32))])) (G_own_law Z k p1 p2 p3 ac cl h0 n0 s)
      refine own_go (fun _ k_ => XS.ifYes X0.here hx rfl (pc0 := 22) (pc' := 29) rfl (hb hby at_22) rfl (XT.i0_eq_t (rfl : (0 : Int32) = (0 : Int32))) (by decide) (by decide) k_) ?_
      show own_Goes p e below (s₁.setTop (mkF m 29 #[.val (.int k), .val (.long p1), .second, .val (.long p2), .second, .val (.long p3), .second, .val (.int (2 : Int32)), .val (.int (0 : Int32)), .unset, .unset, .unset, .unset, .unset, .unset] [])) (G_own_law Z k p1 p2 p3 ac cl h0 n0 s)
      refine own_go (fun _ k_ => XS.lloadN X0.here hx rfl (hb hby at_29) rfl k_) ?_
      show own_Goes p e below (s₁.setTop (mkF m 30 #[.val (.int k), .val (.long p1), .second, .val (.long p2), .second, .val (.long p3), .second, .val (.int (2 : Int32)), .val (.int (0 : Int32)), .unset, .unset, .unset, .unset, .unset, .unset] [(.long p1)])) (G_own_law Z k p1 p2 p3 ac cl h0 n0 s)
      obtain ⟨_, _, ⟨T157, L157, k157, n157⟩, -, X157, ⟨Lc157, hQ157, l157, y157, z157⟩, st157⟩ := Jvm.LawKit.callS X0 hx (y := (⟨"java/lang/Long", "valueOf", "(J)Ljava/lang/Long;"⟩ : MethodName)) hown (mvT hZ (hw _ (List.mem_of_getElem? (i := 0) rfl))) (mvT hZ (hw _ (List.mem_of_getElem? (i := 1) rfl))) (mvT hZ (hw _ (List.mem_of_getElem? (i := 2) rfl))) (mvT hZ (hw _ (List.mem_of_getElem? (i := 3) rfl))) (by decide) (backOf (W := 0) (own_voM l Z a0 hw [] p1 ac cl h0 n0 Z0 O0 S0 A0 hsz hel) hZ (hw _ (List.mem_of_getElem? (i := 3) rfl)) (hw _ (List.mem_of_getElem? (i := 2) rfl)) (by decide) (by decide)) (g := (mkF m 30 #[.val (.int k), .val (.long p1), .second, .val (.long p2), .second, .val (.long p3), .second, .val (.int (2 : Int32)), .val (.int (0 : Int32)), .unset, .unset, .unset, .unset, .unset, .unset] [(.long p1)])) rfl (by rw [hml]; rfl) (argsL := [(.long p1)]) (rest := []) (lenOf own_pd3 rfl) rfl (by show 2 * 0 + _ ≤ _; exact Nat.le_of_eq rfl) (hb hby at_30) (fun _ _ => ⟨rfl, e0, (by decide : 0 + 1 ≤ _), (by decide : 0 + 1 ≤ _)⟩)
      dsimp only [Pt.U, Pt.locs, Pt.cells, Pt.slots] at X157 l157 y157 z157 st157 hQ157
      subst l157 y157 z157
      obtain ⟨⟨av157, rfl, Ev157⟩, N157q, Kq157⟩ := hQ157
      have N157 := Fr.app N0 N157q
      have O0_158 := O0.keep Kq157 all0
      have Z157 : n0 ≤ T157.heap.size := Nat.le_trans Z0 Kq157.1
      refine own_go st157 ?_
      show own_Goes p e below (T157.setTop (mkF m 33 #[.val (.int k), .val (.long p1), .second, .val (.long p2), .second, .val (.long p3), .second, .val (.int (2 : Int32)), .val (.int (0 : Int32)), .unset, .unset, .unset, .unset, .unset, .unset] [(.ref av157)])) (G_own_law Z k p1 p2 p3 ac cl h0 n0 s)
      refine own_go (fun _ k_ => XS.astore X157.here hx rfl (hb hby at_33) rfl rfl (l' := #[.val (.int k), .val (.long p1), .second, .val (.long p2), .second, .val (.long p3), .second, .val (.int (2 : Int32)), .val (.int (0 : Int32)), .val (.ref av157), .unset, .unset, .unset, .unset, .unset]) rfl k_) ?_
      show own_Goes p e below (T157.setTop (mkF m 35 #[.val (.int k), .val (.long p1), .second, .val (.long p2), .second, .val (.long p3), .second, .val (.int (2 : Int32)), .val (.int (0 : Int32)), .val (.ref av157), .unset, .unset, .unset, .unset, .unset] [])) (G_own_law Z k p1 p2 p3 ac cl h0 n0 s)
      refine own_go (fun _ k_ => XS.lloadN X157.here hx rfl (hb hby at_35) rfl k_) ?_
      show own_Goes p e below (T157.setTop (mkF m 36 #[.val (.int k), .val (.long p1), .second, .val (.long p2), .second, .val (.long p3), .second, .val (.int (2 : Int32)), .val (.int (0 : Int32)), .val (.ref av157), .unset, .unset, .unset, .unset, .unset] [(.long p2)])) (G_own_law Z k p1 p2 p3 ac cl h0 n0 s)
      obtain ⟨_, _, ⟨T159, L159, k159, n159⟩, -, X159, ⟨Lc159, hQ159, l159, y159, z159⟩, st159⟩ := Jvm.LawKit.callS X157 hx (y := (⟨"java/lang/Long", "valueOf", "(J)Ljava/lang/Long;"⟩ : MethodName)) hown (mvT hZ (hw _ (List.mem_of_getElem? (i := 0) rfl))) (mvT hZ (hw _ (List.mem_of_getElem? (i := 1) rfl))) (mvT hZ (hw _ (List.mem_of_getElem? (i := 2) rfl))) (mvT hZ (hw _ (List.mem_of_getElem? (i := 3) rfl))) (by decide) (backOf (W := 0) (own_voM l Z a0 hw [] p2 ac cl T157.heap n0 Z157 O0_158 S0 A0 hsz hel) hZ (hw _ (List.mem_of_getElem? (i := 3) rfl)) (hw _ (List.mem_of_getElem? (i := 2) rfl)) (by decide) (by decide)) (g := (mkF m 36 #[.val (.int k), .val (.long p1), .second, .val (.long p2), .second, .val (.long p3), .second, .val (.int (2 : Int32)), .val (.int (0 : Int32)), .val (.ref av157), .unset, .unset, .unset, .unset, .unset] [(.long p2)])) rfl (by rw [hml]; rfl) (argsL := [(.long p2)]) (rest := []) (lenOf own_pd3 rfl) rfl (by show 2 * 0 + _ ≤ _; exact Nat.le_of_eq rfl) (hb hby at_36) (fun _ _ => ⟨rfl, rfl, (by decide : 1 + 1 ≤ _), (by decide : 1 + 1 ≤ _)⟩)
      dsimp only [Pt.U, Pt.locs, Pt.cells, Pt.slots] at X159 l159 y159 z159 st159 hQ159
      subst l159 y159 z159
      obtain ⟨⟨av159, rfl, Ev159⟩, N159q, Kq159⟩ := hQ159
      have N159 := Fr.app N157 N159q
      have O0_160 := O0_158.keep Kq159 all0
      have Ev157_161 := Ev157.keep Kq159
      have Z159 : n0 ≤ T159.heap.size := Nat.le_trans Z157 Kq159.1
      refine own_go st159 ?_
      show own_Goes p e below (T159.setTop (mkF m 39 #[.val (.int k), .val (.long p1), .second, .val (.long p2), .second, .val (.long p3), .second, .val (.int (2 : Int32)), .val (.int (0 : Int32)), .val (.ref av157), .unset, .unset, .unset, .unset, .unset] [(.ref av159)])) (G_own_law Z k p1 p2 p3 ac cl h0 n0 s)
      refine own_go (fun _ k_ => XS.astore X159.here hx rfl (hb hby at_39) rfl rfl (l' := #[.val (.int k), .val (.long p1), .second, .val (.long p2), .second, .val (.long p3), .second, .val (.int (2 : Int32)), .val (.int (0 : Int32)), .val (.ref av157), .val (.ref av159), .unset, .unset, .unset, .unset]) rfl k_) ?_
      show own_Goes p e below (T159.setTop (mkF m 41 #[.val (.int k), .val (.long p1), .second, .val (.long p2), .second, .val (.long p3), .second, .val (.int (2 : Int32)), .val (.int (0 : Int32)), .val (.ref av157), .val (.ref av159), .unset, .unset, .unset, .unset] [])) (G_own_law Z k p1 p2 p3 ac cl h0 n0 s)
      refine own_go (fun _ k_ => XS.lload X159.here hx rfl (hb hby at_41) rfl k_) ?_
      show own_Goes p e below (T159.setTop (mkF m 43 #[.val (.int k), .val (.long p1), .second, .val (.long p2), .second, .val (.long p3), .second, .val (.int (2 : Int32)), .val (.int (0 : Int32)), .val (.ref av157), .val (.ref av159), .unset, .unset, .unset, .unset] [(.long p3)])) (G_own_law Z k p1 p2 p3 ac cl h0 n0 s)
      obtain ⟨_, _, ⟨T162, L162, k162, n162⟩, -, X162, ⟨Lc162, hQ162, l162, y162, z162⟩, st162⟩ := Jvm.LawKit.callS X159 hx (y := (⟨"java/lang/Long", "valueOf", "(J)Ljava/lang/Long;"⟩ : MethodName)) hown (mvT hZ (hw _ (List.mem_of_getElem? (i := 0) rfl))) (mvT hZ (hw _ (List.mem_of_getElem? (i := 1) rfl))) (mvT hZ (hw _ (List.mem_of_getElem? (i := 2) rfl))) (mvT hZ (hw _ (List.mem_of_getElem? (i := 3) rfl))) (by decide) (backOf (W := 0) (own_voM l Z a0 hw [] p3 ac cl T159.heap n0 Z159 O0_160 S0 A0 hsz hel) hZ (hw _ (List.mem_of_getElem? (i := 3) rfl)) (hw _ (List.mem_of_getElem? (i := 2) rfl)) (by decide) (by decide)) (g := (mkF m 43 #[.val (.int k), .val (.long p1), .second, .val (.long p2), .second, .val (.long p3), .second, .val (.int (2 : Int32)), .val (.int (0 : Int32)), .val (.ref av157), .val (.ref av159), .unset, .unset, .unset, .unset] [(.long p3)])) rfl (by rw [hml]; rfl) (argsL := [(.long p3)]) (rest := []) (lenOf own_pd3 rfl) rfl (by show 2 * 0 + _ ≤ _; exact Nat.le_of_eq rfl) (hb hby at_43) (fun _ _ => ⟨rfl, rfl, (by decide : 2 + 1 ≤ _), (by decide : 2 + 1 ≤ _)⟩)
      dsimp only [Pt.U, Pt.locs, Pt.cells, Pt.slots] at X162 l162 y162 z162 st162 hQ162
      subst l162 y162 z162
      obtain ⟨⟨av162, rfl, Ev162⟩, N162q, Kq162⟩ := hQ162
      have N162 := Fr.app N159 N162q
      have O0_163 := O0_160.keep Kq162 all0
      have Ev157_164 := Ev157_161.keep Kq162
      have Ev159_165 := Ev159.keep Kq162
      have Z162 : n0 ≤ T162.heap.size := Nat.le_trans Z159 Kq162.1
      refine own_go st162 ?_
      show own_Goes p e below (T162.setTop (mkF m 46 #[.val (.int k), .val (.long p1), .second, .val (.long p2), .second, .val (.long p3), .second, .val (.int (2 : Int32)), .val (.int (0 : Int32)), .val (.ref av157), .val (.ref av159), .unset, .unset, .unset, .unset] [(.ref av162)])) (G_own_law Z k p1 p2 p3 ac cl h0 n0 s)
      refine own_go (fun _ k_ => XS.astore X162.here hx rfl (hb hby at_46) rfl rfl (l' := #[.val (.int k), .val (.long p1), .second, .val (.long p2), .second, .val (.long p3), .second, .val (.int (2 : Int32)), .val (.int (0 : Int32)), .val (.ref av157), .val (.ref av159), .val (.ref av162), .unset, .unset, .unset]) rfl k_) ?_
      show own_Goes p e below (T162.setTop (mkF m 48 #[.val (.int k), .val (.long p1), .second, .val (.long p2), .second, .val (.long p3), .second, .val (.int (2 : Int32)), .val (.int (0 : Int32)), .val (.ref av157), .val (.ref av159), .val (.ref av162), .unset, .unset, .unset] [])) (G_own_law Z k p1 p2 p3 ac cl h0 n0 s)
      refine own_go (fun _ k_ => XS.iload X162.here hx rfl (hb hby at_48) rfl k_) ?_
      show own_Goes p e below (T162.setTop (mkF m 50 #[.val (.int k), .val (.long p1), .second, .val (.long p2), .second, .val (.long p3), .second, .val (.int (2 : Int32)), .val (.int (0 : Int32)), .val (.ref av157), .val (.ref av159), .val (.ref av162), .unset, .unset, .unset] [(.int (2 : Int32))])) (G_own_law Z k p1 p2 p3 ac cl h0 n0 s)
      obtain ⟨T166, h166, cA166, X166, e166, E166, A166, O166, st166⟩ := newR X162 hx hZ hown (hw _ (List.mem_of_getElem? (i := 25) rfl)) (hw _ (List.mem_of_getElem? (i := 26) rfl)) rfl (g := (mkF m 50 #[.val (.int k), .val (.long p1), .second, .val (.long p2), .second, .val (.long p3), .second, .val (.int (2 : Int32)), .val (.int (0 : Int32)), .val (.ref av157), .val (.ref av159), .val (.ref av162), .unset, .unset, .unset] [(.int (2 : Int32))])) rfl (hb hby at_50) rfl (by decide) (cap := 2) (by decide) (by decide) (by decide) (by decide)
      obtain ⟨b166, g166⟩ : ∃ z, z = T162.heap.size := ⟨_, rfl⟩
      rw [← g166] at A166 st166
      have ne_av157_b166 : av157 ≠ b166 := by rw [g166]; exact Nat.ne_of_lt Ev157_164.lt
      have ne_av159_b166 : av159 ≠ b166 := by rw [g166]; exact Nat.ne_of_lt Ev159_165.lt
      have ne_av162_b166 : av162 ≠ b166 := by rw [g166]; exact Nat.ne_of_lt Ev162.lt
      have O0_168 := O0_163.ext E166
      have Ev157_169 := Ev157_164.ext E166
      have Ev159_170 := Ev159_165.ext E166
      have Ev162_171 := Ev162.ext E166
      have g_b166 : n0 ≤ b166 := by rw [g166]; exact Z162
      have Z166 : n0 ≤ h166.size := Nat.le_trans Z162 E166.1
      have Av166 : Arv Z h166 b166 cA166 (.object "java/lang/Object") (2 : Int32) [] .null := Arv.new A166 (by decide)
      have Aw166 : Arv Z h166 b166 cA166 (.object "java/lang/Object") (2 : Int32) [.null, .null] (.null) := Av166.pad (pad_rep [] _ 2)
      refine own_go st166 ?_
      show own_Goes p e below (T166.setTop (mkF m 53 #[.val (.int k), .val (.long p1), .second, .val (.long p2), .second, .val (.long p3), .second, .val (.int (2 : Int32)), .val (.int (0 : Int32)), .val (.ref av157), .val (.ref av159), .val (.ref av162), .unset, .unset, .unset] [(.ref b166)])) (G_own_law Z k p1 p2 p3 ac cl h0 n0 s)
      refine own_go (fun _ k_ => XS.astore X166.here hx rfl (hb hby at_53) rfl rfl (l' := #[.val (.int k), .val (.long p1), .second, .val (.long p2), .second, .val (.long p3), .second, .val (.int (2 : Int32)), .val (.int (0 : Int32)), .val (.ref av157), .val (.ref av159), .val (.ref av162), .val (.ref b166), .unset, .unset]) rfl k_) ?_
      show own_Goes p e below (T166.setTop (mkF m 55 #[.val (.int k), .val (.long p1), .second, .val (.long p2), .second, .val (.long p3), .second, .val (.int (2 : Int32)), .val (.int (0 : Int32)), .val (.ref av157), .val (.ref av159), .val (.ref av162), .val (.ref b166), .unset, .unset] [])) (G_own_law Z k p1 p2 p3 ac cl h0 n0 s)
      refine own_go (fun _ k_ => XS.iload X166.here hx rfl (hb hby at_55) rfl k_) ?_
      show own_Goes p e below (T166.setTop (mkF m 57 #[.val (.int k), .val (.long p1), .second, .val (.long p2), .second, .val (.long p3), .second, .val (.int (2 : Int32)), .val (.int (0 : Int32)), .val (.ref av157), .val (.ref av159), .val (.ref av162), .val (.ref b166), .unset, .unset] [(.int (2 : Int32))])) (G_own_law Z k p1 p2 p3 ac cl h0 n0 s)
      refine own_go (fun _ k_ => XS.ifNo X166.here hx rfl (hb hby at_57) rfl (XT.i0_le_f (by decide)) k_) ?_
      show own_Goes p e below (T166.setTop (mkF m 60 #[.val (.int k), .val (.long p1), .second, .val (.long p2), .second, .val (.long p3), .second, .val (.int (2 : Int32)), .val (.int (0 : Int32)), .val (.ref av157), .val (.ref av159), .val (.ref av162), .val (.ref b166), .unset, .unset] [])) (G_own_law Z k p1 p2 p3 ac cl h0 n0 s)
      refine own_go (fun _ k_ => XS.aload X166.here hx rfl (hb hby at_60) rfl rfl k_) ?_
      show own_Goes p e below (T166.setTop (mkF m 62 #[.val (.int k), .val (.long p1), .second, .val (.long p2), .second, .val (.long p3), .second, .val (.int (2 : Int32)), .val (.int (0 : Int32)), .val (.ref av157), .val (.ref av159), .val (.ref av162), .val (.ref b166), .unset, .unset] [(.ref b166)])) (G_own_law Z k p1 p2 p3 ac cl h0 n0 s)
      refine own_go (fun _ k_ => XS.iconst X166.here hx rfl (hb hby at_62) k_) ?_
      show own_Goes p e below (T166.setTop (mkF m 63 #[.val (.int k), .val (.long p1), .second, .val (.long p2), .second, .val (.long p3), .second, .val (.int (2 : Int32)), .val (.int (0 : Int32)), .val (.ref av157), .val (.ref av159), .val (.ref av162), .val (.ref b166), .unset, .unset] [(.int (0 : Int32)), (.ref b166)])) (G_own_law Z k p1 p2 p3 ac cl h0 n0 s)
      refine own_go (fun _ k_ => XS.aload X166.here hx rfl (hb hby at_63) rfl rfl k_) ?_
      show own_Goes p e below (T166.setTop (mkF m 65 #[.val (.int k), .val (.long p1), .second, .val (.long p2), .second, .val (.long p3), .second, .val (.int (2 : Int32)), .val (.int (0 : Int32)), .val (.ref av157), .val (.ref av159), .val (.ref av162), .val (.ref b166), .unset, .unset] [(.ref av157), (.int (0 : Int32)), (.ref b166)])) (G_own_law Z k p1 p2 p3 ac cl h0 n0 s)
      obtain ⟨c172, Ar172, q172, s172, z172, H172, G172⟩ := id Aw166
      have hin172 := inb_of s172 (j := (0 : Int32)) (by decide)
      obtain ⟨T172, h172, X172, e172, W172, st172⟩ := stR X166 hx hZ e166 Ar172 hin172 rfl (Sto.ofV Ar172 q172 O166 (Ins.of_exa Ev157_169 (hw _ (List.mem_of_getElem? (i := 43) rfl)))) (g := (mkF m 65 #[.val (.int k), .val (.long p1), .second, .val (.long p2), .second, .val (.long p3), .second, .val (.int (2 : Int32)), .val (.int (0 : Int32)), .val (.ref av157), .val (.ref av159), .val (.ref av162), .val (.ref b166), .unset, .unset] [(.ref av157), (.int (0 : Int32)), (.ref b166)])) rfl rfl (hb hby at_65)
      have O0_173 := O0_168.wr W172 g_b166
      have Ev157_174 := Ev157_169.wr W172
      have Ev159_175 := Ev159_170.wr W172
      have Ev162_176 := Ev162_171.wr W172
      have Av172 : Arv Z h172 b166 cA166 (.object "java/lang/Object") (2 : Int32) [(.ref av157), .null] (.null) := Arv.set Ar172 q172 s172 z172 H172 G172 (v := (.ref av157)) rfl W172 0 rfl (by first | decide | simp)
      have N172 := Fr.snoc X172 N162 g_b166
      have Z172 : n0 ≤ h172.size := by rw [W172.size]; exact Z166
      refine own_go st172 ?_
      show own_Goes p e below (T172.setTop (mkF m 66 #[.val (.int k), .val (.long p1), .second, .val (.long p2), .second, .val (.long p3), .second, .val (.int (2 : Int32)), .val (.int (0 : Int32)), .val (.ref av157), .val (.ref av159), .val (.ref av162), .val (.ref b166), .unset, .unset] [])) (G_own_law Z k p1 p2 p3 ac cl h0 n0 s)
      refine own_go (fun _ k_ => XS.iload X172.here hx rfl (hb hby at_66) rfl k_) ?_
      show own_Goes p e below (T172.setTop (mkF m 68 #[.val (.int k), .val (.long p1), .second, .val (.long p2), .second, .val (.long p3), .second, .val (.int (2 : Int32)), .val (.int (0 : Int32)), .val (.ref av157), .val (.ref av159), .val (.ref av162), .val (.ref b166), .unset, .unset] [(.int (2 : Int32))])) (G_own_law Z k p1 p2 p3 ac cl h0 n0 s)
      refine own_go (fun _ k_ => XS.iconst X172.here hx rfl (hb hby at_68) k_) ?_
      show own_Goes p e below (T172.setTop (mkF m 69 #[.val (.int k), .val (.long p1), .second, .val (.long p2), .second, .val (.long p3), .second, .val (.int (2 : Int32)), .val (.int (0 : Int32)), .val (.ref av157), .val (.ref av159), .val (.ref av162), .val (.ref b166), .unset, .unset] [(.int (1 : Int32)), (.int (2 : Int32))])) (G_own_law Z k p1 p2 p3 ac cl h0 n0 s)
      refine own_go (fun _ k_ => XS.icmpNo X172.here hx rfl (hb hby at_69) rfl (XT.ii_le_f (by decide)) k_) ?_
      show own_Goes p e below (T172.setTop (mkF m 72 #[.val (.int k), .val (.long p1), .second, .val (.long p2), .second, .val (.long p3), .second, .val (.int (2 : Int32)), .val (.int (0 : Int32)), .val (.ref av157), .val (.ref av159), .val (.ref av162), .val (.ref b166), .unset, .unset] [])) (G_own_law Z k p1 p2 p3 ac cl h0 n0 s)
      refine own_go (fun _ k_ => XS.aload X172.here hx rfl (hb hby at_72) rfl rfl k_) ?_
      show own_Goes p e below (T172.setTop (mkF m 74 #[.val (.int k), .val (.long p1), .second, .val (.long p2), .second, .val (.long p3), .second, .val (.int (2 : Int32)), .val (.int (0 : Int32)), .val (.ref av157), .val (.ref av159), .val (.ref av162), .val (.ref b166), .unset, .unset] [(.ref b166)])) (G_own_law Z k p1 p2 p3 ac cl h0 n0 s)
      refine own_go (fun _ k_ => XS.iconst X172.here hx rfl (hb hby at_74) k_) ?_
      show own_Goes p e below (T172.setTop (mkF m 75 #[.val (.int k), .val (.long p1), .second, .val (.long p2), .second, .val (.long p3), .second, .val (.int (2 : Int32)), .val (.int (0 : Int32)), .val (.ref av157), .val (.ref av159), .val (.ref av162), .val (.ref b166), .unset, .unset] [(.int (1 : Int32)), (.ref b166)])) (G_own_law Z k p1 p2 p3 ac cl h0 n0 s)
      refine own_go (fun _ k_ => XS.aload X172.here hx rfl (hb hby at_75) rfl rfl k_) ?_
      show own_Goes p e below (T172.setTop (mkF m 77 #[.val (.int k), .val (.long p1), .second, .val (.long p2), .second, .val (.long p3), .second, .val (.int (2 : Int32)), .val (.int (0 : Int32)), .val (.ref av157), .val (.ref av159), .val (.ref av162), .val (.ref b166), .unset, .unset] [(.ref av159), (.int (1 : Int32)), (.ref b166)])) (G_own_law Z k p1 p2 p3 ac cl h0 n0 s)
      obtain ⟨c177, Ar177, q177, s177, z177, H177, G177⟩ := id Av172
      have hin177 := inb_of s177 (j := (1 : Int32)) (by decide)
      obtain ⟨T177, h177, X177, e177, W177, st177⟩ := stR X172 hx hZ e172 Ar177 hin177 rfl (Sto.ofV Ar177 q177 O166 (Ins.of_exa Ev159_175 (hw _ (List.mem_of_getElem? (i := 43) rfl)))) (g := (mkF m 77 #[.val (.int k), .val (.long p1), .second, .val (.long p2), .second, .val (.long p3), .second, .val (.int (2 : Int32)), .val (.int (0 : Int32)), .val (.ref av157), .val (.ref av159), .val (.ref av162), .val (.ref b166), .unset, .unset] [(.ref av159), (.int (1 : Int32)), (.ref b166)])) rfl rfl (hb hby at_77)
      have O0_178 := O0_173.wr W177 g_b166
      have Ev157_179 := Ev157_174.wr W177
      have Ev159_180 := Ev159_175.wr W177
      have Ev162_181 := Ev162_176.wr W177
      have Av177 : Arv Z h177 b166 cA166 (.object "java/lang/Object") (2 : Int32) [(.ref av157), (.ref av159)] (.null) := Arv.set Ar177 q177 s177 z177 H177 G177 (v := (.ref av159)) rfl W177 1 rfl (by first | decide | simp)
      have N177 := Fr.snoc X177 N172 g_b166
      have Z177 : n0 ≤ h177.size := by rw [W177.size]; exact Z172
      refine own_go st177 ?_
      show own_Goes p e below (T177.setTop (mkF m 78 #[.val (.int k), .val (.long p1), .second, .val (.long p2), .second, .val (.long p3), .second, .val (.int (2 : Int32)), .val (.int (0 : Int32)), .val (.ref av157), .val (.ref av159), .val (.ref av162), .val (.ref b166), .unset, .unset] [])) (G_own_law Z k p1 p2 p3 ac cl h0 n0 s)
      refine own_go (fun _ k_ => XS.iload X177.here hx rfl (hb hby at_78) rfl k_) ?_
      show own_Goes p e below (T177.setTop (mkF m 80 #[.val (.int k), .val (.long p1), .second, .val (.long p2), .second, .val (.long p3), .second, .val (.int (2 : Int32)), .val (.int (0 : Int32)), .val (.ref av157), .val (.ref av159), .val (.ref av162), .val (.ref b166), .unset, .unset] [(.int (2 : Int32))])) (G_own_law Z k p1 p2 p3 ac cl h0 n0 s)
      refine own_go (fun _ k_ => XS.iconst X177.here hx rfl (hb hby at_80) k_) ?_
      show own_Goes p e below (T177.setTop (mkF m 81 #[.val (.int k), .val (.long p1), .second, .val (.long p2), .second, .val (.long p3), .second, .val (.int (2 : Int32)), .val (.int (0 : Int32)), .val (.ref av157), .val (.ref av159), .val (.ref av162), .val (.ref b166), .unset, .unset] [(.int (2 : Int32)), (.int (2 : Int32))])) (G_own_law Z k p1 p2 p3 ac cl h0 n0 s)
      refine own_go (fun _ k_ => XS.icmpYes X177.here hx rfl (pc0 := 81) (pc' := 90) rfl (hb hby at_81) rfl (XT.ii_le_t Int32.lt_irrefl) (by decide) (by decide) k_) ?_
      show own_Goes p e below (T177.setTop (mkF m 90 #[.val (.int k), .val (.long p1), .second, .val (.long p2), .second, .val (.long p3), .second, .val (.int (2 : Int32)), .val (.int (0 : Int32)), .val (.ref av157), .val (.ref av159), .val (.ref av162), .val (.ref b166), .unset, .unset] [])) (G_own_law Z k p1 p2 p3 ac cl h0 n0 s)
      refine own_go (fun _ k_ => XS.aload X177.here hx rfl (hb hby at_90) rfl rfl k_) ?_
      show own_Goes p e below (T177.setTop (mkF m 92 #[.val (.int k), .val (.long p1), .second, .val (.long p2), .second, .val (.long p3), .second, .val (.int (2 : Int32)), .val (.int (0 : Int32)), .val (.ref av157), .val (.ref av159), .val (.ref av162), .val (.ref b166), .unset, .unset] [(.ref b166)])) (G_own_law Z k p1 p2 p3 ac cl h0 n0 s)
      obtain ⟨_, _, ⟨T182, L182, k182, n182⟩, -, X182, ⟨Lc182, hQ182, l182, y182, z182⟩, st182⟩ := Jvm.LawKit.callS X177 hx (y := (⟨"com/example/remnant/remnant/core/MultipleValues", "of", "([Ljava/lang/Object;)Ljava/lang/Object;"⟩ : MethodName)) hown (mvT hZ (hw _ (List.mem_of_getElem? (i := 27) rfl))) (mvT hZ (hw _ (List.mem_of_getElem? (i := 28) rfl))) (mvT hZ (hw _ (List.mem_of_getElem? (i := 29) rfl))) (mvT hZ (hw _ (List.mem_of_getElem? (i := 30) rfl))) (by decide) (backOf (W := 0) (own_ofNM l Z a0 hw [] b166 cA166 (2 : Int32) [(.ref av157), (.ref av159)] h177 n0 Z177 Av177 (by decide)) hZ (hw _ (List.mem_of_getElem? (i := 30) rfl)) (hw _ (List.mem_of_getElem? (i := 29) rfl)) (by decide) (by decide)) (g := (mkF m 92 #[.val (.int k), .val (.long p1), .second, .val (.long p2), .second, .val (.long p3), .second, .val (.int (2 : Int32)), .val (.int (0 : Int32)), .val (.ref av157), .val (.ref av159), .val (.ref av162), .val (.ref b166), .unset, .unset] [(.ref b166)])) rfl (by rw [hml]; rfl) (argsL := [(.ref b166)]) (rest := []) (lenOf own_pd4 rfl) rfl (by show 2 * 0 + _ ≤ _; exact Nat.le_of_eq rfl) (hb hby at_92) (fun _ _ => ⟨rfl, e177, (by decide : 4 + 1 ≤ _), (by decide : 5 + 1 ≤ _)⟩)
      dsimp only [Pt.U, Pt.locs, Pt.cells, Pt.slots] at X182 l182 y182 z182 st182 hQ182
      subst l182 y182 z182
      obtain ⟨⟨mv182, rfl, Em182, Fm182⟩, N182q, Kq182⟩ := hQ182
      have N182 := Fr.app N177 N182q
      have O0_183 := O0_178.keep Kq182 all0
      have Ev157_184 := Ev157_179.keep Kq182
      have Ev159_185 := Ev159_180.keep Kq182
      have Ev162_186 := Ev162_181.keep Kq182
      have Av177_187 := Av177.keep Kq182 nin0
      have Z182 : n0 ≤ T182.heap.size := Nat.le_trans Z177 Kq182.1
      refine own_go st182 ?_
      show own_Goes p e below (T182.setTop (mkF m 95 #[.val (.int k), .val (.long p1), .second, .val (.long p2), .second, .val (.long p3), .second, .val (.int (2 : Int32)), .val (.int (0 : Int32)), .val (.ref av157), .val (.ref av159), .val (.ref av162), .val (.ref b166), .unset, .unset] [(.ref mv182)])) (G_own_law Z k p1 p2 p3 ac cl h0 n0 s)
      refine own_go (fun _ k_ => XS.astore X182.here hx rfl (hb hby at_95) rfl rfl (l' := #[.val (.int k), .val (.long p1), .second, .val (.long p2), .second, .val (.long p3), .second, .val (.int (2 : Int32)), .val (.int (0 : Int32)), .val (.ref av157), .val (.ref av159), .val (.ref av162), .val (.ref b166), .val (.ref mv182), .unset]) rfl k_) ?_
      show own_Goes p e below (T182.setTop (mkF m 97 #[.val (.int k), .val (.long p1), .second, .val (.long p2), .second, .val (.long p3), .second, .val (.int (2 : Int32)), .val (.int (0 : Int32)), .val (.ref av157), .val (.ref av159), .val (.ref av162), .val (.ref b166), .val (.ref mv182), .unset] [])) (G_own_law Z k p1 p2 p3 ac cl h0 n0 s)
      refine own_go (fun _ k_ => XS.aload X182.here hx rfl (hb hby at_97) rfl rfl k_) ?_
      show own_Goes p e below (T182.setTop (mkF m 99 #[.val (.int k), .val (.long p1), .second, .val (.long p2), .second, .val (.long p3), .second, .val (.int (2 : Int32)), .val (.int (0 : Int32)), .val (.ref av157), .val (.ref av159), .val (.ref av162), .val (.ref b166), .val (.ref mv182), .unset] [(.ref mv182)])) (G_own_law Z k p1 p2 p3 ac cl h0 n0 s)
      obtain ⟨_, _, ⟨T188, L188, k188, n188⟩, -, X188, ⟨Lc188, hQ188, l188, y188, z188⟩, st188⟩ := Jvm.LawKit.callS X182 hx (y := (⟨"com/example/remnant/remnant/core/MultipleValues", "spread", "(Ljava/lang/Object;)[Ljava/lang/Object;"⟩ : MethodName)) hown (mvT hZ (hw _ (List.mem_of_getElem? (i := 39) rfl))) (mvT hZ (hw _ (List.mem_of_getElem? (i := 40) rfl))) (mvT hZ (hw _ (List.mem_of_getElem? (i := 29) rfl))) (mvT hZ (hw _ (List.mem_of_getElem? (i := 41) rfl))) (by decide) (backOf (W := 0) (own_spMVM l Z a0 hw [] mv182 b166 T182.heap n0 Z182 Em182 Fm182) hZ (hw _ (List.mem_of_getElem? (i := 41) rfl)) (hw _ (List.mem_of_getElem? (i := 29) rfl)) (by decide) (by decide)) (g := (mkF m 99 #[.val (.int k), .val (.long p1), .second, .val (.long p2), .second, .val (.long p3), .second, .val (.int (2 : Int32)), .val (.int (0 : Int32)), .val (.ref av157), .val (.ref av159), .val (.ref av162), .val (.ref b166), .val (.ref mv182), .unset] [(.ref mv182)])) rfl (by rw [hml]; rfl) (argsL := [(.ref mv182)]) (rest := []) (lenOf own_pd5 rfl) rfl (by show 2 * 0 + _ ≤ _; exact Nat.le_of_eq rfl) (hb hby at_99) (fun _ _ => ⟨rfl, rfl, (by decide : 5 + 0 ≤ _), (by decide : 6 + 0 ≤ _)⟩)
      dsimp only [Pt.U, Pt.locs, Pt.cells, Pt.slots] at X188 l188 y188 z188 st188 hQ188
      subst l188 y188 z188
      obtain ⟨rfl, N188q, e188⟩ := hQ188
      have N188 := Fr.app N182 N188q
      refine own_go st188 ?_
      show own_Goes p e below (T188.setTop (mkF m 102 #[.val (.int k), .val (.long p1), .second, .val (.long p2), .second, .val (.long p3), .second, .val (.int (2 : Int32)), .val (.int (0 : Int32)), .val (.ref av157), .val (.ref av159), .val (.ref av162), .val (.ref b166), .val (.ref mv182), .unset] [(.ref b166)])) (G_own_law Z k p1 p2 p3 ac cl h0 n0 s)
      refine own_go (fun _ k_ => XS.astore X188.here hx rfl (hb hby at_102) rfl rfl (l' := #[.val (.int k), .val (.long p1), .second, .val (.long p2), .second, .val (.long p3), .second, .val (.int (2 : Int32)), .val (.int (0 : Int32)), .val (.ref av157), .val (.ref av159), .val (.ref av162), .val (.ref b166), .val (.ref mv182), .val (.ref b166)]) rfl k_) ?_
      show own_Goes p e below (T188.setTop (mkF m 104 #[.val (.int k), .val (.long p1), .second, .val (.long p2), .second, .val (.long p3), .second, .val (.int (2 : Int32)), .val (.int (0 : Int32)), .val (.ref av157), .val (.ref av159), .val (.ref av162), .val (.ref b166), .val (.ref mv182), .val (.ref b166)] [])) (G_own_law Z k p1 p2 p3 ac cl h0 n0 s)
      refine own_go (fun _ k_ => XS.aload X188.here hx rfl (hb hby at_104) rfl rfl k_) ?_
      show own_Goes p e below (T188.setTop (mkF m 106 #[.val (.int k), .val (.long p1), .second, .val (.long p2), .second, .val (.long p3), .second, .val (.int (2 : Int32)), .val (.int (0 : Int32)), .val (.ref av157), .val (.ref av159), .val (.ref av162), .val (.ref b166), .val (.ref mv182), .val (.ref b166)] [(.ref b166)])) (G_own_law Z k p1 p2 p3 ac cl h0 n0 s)
      refine own_go (fun _ k_ => XS.ifnullNo X188.here hx rfl (hb hby at_106) rfl k_) ?_
      show own_Goes p e below (T188.setTop (mkF m 109 #[.val (.int k), .val (.long p1), .second, .val (.long p2), .second, .val (.long p3), .second, .val (.int (2 : Int32)), .val (.int (0 : Int32)), .val (.ref av157), .val (.ref av159), .val (.ref av162), .val (.ref b166), .val (.ref mv182), .val (.ref b166)] [])) (G_own_law Z k p1 p2 p3 ac cl h0 n0 s)
      refine own_go (fun _ k_ => XS.aload X188.here hx rfl (hb hby at_109) rfl rfl k_) ?_
      show own_Goes p e below (T188.setTop (mkF m 111 #[.val (.int k), .val (.long p1), .second, .val (.long p2), .second, .val (.long p3), .second, .val (.int (2 : Int32)), .val (.int (0 : Int32)), .val (.ref av157), .val (.ref av159), .val (.ref av162), .val (.ref b166), .val (.ref mv182), .val (.ref b166)] [(.ref b166)])) (G_own_law Z k p1 p2 p3 ac cl h0 n0 s)
      obtain ⟨c189, Ar189, q189, s189, z189, H189, G189⟩ := id Av177_187
      refine own_go (fun _ k_ => X188.arraylength hx (by rw [e188]; exact Ar189.1) (State.isArrayOf_alike hZ.alike Ar189.2.1) (g := (mkF m 111 #[.val (.int k), .val (.long p1), .second, .val (.long p2), .second, .val (.long p3), .second, .val (.int (2 : Int32)), .val (.int (0 : Int32)), .val (.ref av157), .val (.ref av159), .val (.ref av162), .val (.ref b166), .val (.ref mv182), .val (.ref b166)] [(.ref b166)])) rfl rfl (hb hby at_111) _ k_) ?_
      rw [len_of s189 z189]
      show own_Goes p e below (T188.setTop (mkF m 112 #[.val (.int k), .val (.long p1), .second, .val (.long p2), .second, .val (.long p3), .second, .val (.int (2 : Int32)), .val (.int (0 : Int32)), .val (.ref av157), .val (.ref av159), .val (.ref av162), .val (.ref b166), .val (.ref mv182), .val (.ref b166)] [(.int (2 : Int32))])) (G_own_law Z k p1 p2 p3 ac cl h0 n0 s)
      refine own_go (fun _ k_ => XS.iload X188.here hx rfl (hb hby at_112) rfl k_) ?_
      show own_Goes p e below (T188.setTop (mkF m 114 #[.val (.int k), .val (.long p1), .second, .val (.long p2), .second, .val (.long p3), .second, .val (.int (2 : Int32)), .val (.int (0 : Int32)), .val (.ref av157), .val (.ref av159), .val (.ref av162), .val (.ref b166), .val (.ref mv182), .val (.ref b166)] [(.int (2 : Int32)), (.int (2 : Int32))])) (G_own_law Z k p1 p2 p3 ac cl h0 n0 s)
      refine own_go (fun _ k_ => XS.icmpYes X188.here hx rfl (pc0 := 114) (pc' := 119) rfl (hb hby at_114) rfl (XT.ii_eq_t (rfl : (2 : Int32) = (2 : Int32))) (by decide) (by decide) k_) ?_
      show own_Goes p e below (T188.setTop (mkF m 119 #[.val (.int k), .val (.long p1), .second, .val (.long p2), .second, .val (.long p3), .second, .val (.int (2 : Int32)), .val (.int (0 : Int32)), .val (.ref av157), .val (.ref av159), .val (.ref av162), .val (.ref b166), .val (.ref mv182), .val (.ref b166)] [])) (G_own_law Z k p1 p2 p3 ac cl h0 n0 s)
      refine own_go (fun _ k_ => XS.iload X188.here hx rfl (hb hby at_119) rfl k_) ?_
      show own_Goes p e below (T188.setTop (mkF m 121 #[.val (.int k), .val (.long p1), .second, .val (.long p2), .second, .val (.long p3), .second, .val (.int (2 : Int32)), .val (.int (0 : Int32)), .val (.ref av157), .val (.ref av159), .val (.ref av162), .val (.ref b166), .val (.ref mv182), .val (.ref b166)] [(.int (2 : Int32))])) (G_own_law Z k p1 p2 p3 ac cl h0 n0 s)
      refine own_go (fun _ k_ => XS.iconst X188.here hx rfl (hb hby at_121) k_) ?_
      show own_Goes p e below (T188.setTop (mkF m 122 #[.val (.int k), .val (.long p1), .second, .val (.long p2), .second, .val (.long p3), .second, .val (.int (2 : Int32)), .val (.int (0 : Int32)), .val (.ref av157), .val (.ref av159), .val (.ref av162), .val (.ref b166), .val (.ref mv182), .val (.ref b166)] [(.int (1 : Int32)), (.int (2 : Int32))])) (G_own_law Z k p1 p2 p3 ac cl h0 n0 s)
      refine own_go (fun _ k_ => XS.icmpNo X188.here hx rfl (hb hby at_122) rfl (XT.ii_eq_f (by decide)) k_) ?_
      show own_Goes p e below (T188.setTop (mkF m 125 #[.val (.int k), .val (.long p1), .second, .val (.long p2), .second, .val (.long p3), .second, .val (.int (2 : Int32)), .val (.int (0 : Int32)), .val (.ref av157), .val (.ref av159), .val (.ref av162), .val (.ref b166), .val (.ref mv182), .val (.ref b166)] [])) (G_own_law Z k p1 p2 p3 ac cl h0 n0 s)
      refine own_go (fun _ k_ => XS.aload X188.here hx rfl (hb hby at_125) rfl rfl k_) ?_
      show own_Goes p e below (T188.setTop (mkF m 127 #[.val (.int k), .val (.long p1), .second, .val (.long p2), .second, .val (.long p3), .second, .val (.int (2 : Int32)), .val (.int (0 : Int32)), .val (.ref av157), .val (.ref av159), .val (.ref av162), .val (.ref b166), .val (.ref mv182), .val (.ref b166)] [(.ref b166)])) (G_own_law Z k p1 p2 p3 ac cl h0 n0 s)
      refine own_go (fun _ k_ => XS.aload X188.here hx rfl (hb hby at_127) rfl rfl k_) ?_
      show own_Goes p e below (T188.setTop (mkF m 129 #[.val (.int k), .val (.long p1), .second, .val (.long p2), .second, .val (.long p3), .second, .val (.int (2 : Int32)), .val (.int (0 : Int32)), .val (.ref av157), .val (.ref av159), .val (.ref av162), .val (.ref b166), .val (.ref mv182), .val (.ref b166)] [(.ref b166), (.ref b166)])) (G_own_law Z k p1 p2 p3 ac cl h0 n0 s)
      refine own_go (fun _ k_ => Jvm.RoadKit.acmp (g := (mkF m 129 #[.val (.int k), .val (.long p1), .second, .val (.long p2), .second, .val (.long p3), .second, .val (.int (2 : Int32)), .val (.int (0 : Int32)), .val (.ref av157), .val (.ref av159), .val (.ref av162), .val (.ref b166), .val (.ref mv182), .val (.ref b166)] [(.ref b166), (.ref b166)])) X188 hx rfl rfl rfl (pc0 := 129) (pc' := 134) (same := true) rfl (hb hby at_129) rfl (decide_eq_true rfl) (by decide) (by decide) k_) ?_
      show own_Goes p e below (T188.setTop (mkF m 134 #[.val (.int k), .val (.long p1), .second, .val (.long p2), .second, .val (.long p3), .second, .val (.int (2 : Int32)), .val (.int (0 : Int32)), .val (.ref av157), .val (.ref av159), .val (.ref av162), .val (.ref b166), .val (.ref mv182), .val (.ref b166)] [])) (G_own_law Z k p1 p2 p3 ac cl h0 n0 s)
      refine own_go (fun _ k_ => XS.iload X188.here hx rfl (hb hby at_134) rfl k_) ?_
      show own_Goes p e below (T188.setTop (mkF m 136 #[.val (.int k), .val (.long p1), .second, .val (.long p2), .second, .val (.long p3), .second, .val (.int (2 : Int32)), .val (.int (0 : Int32)), .val (.ref av157), .val (.ref av159), .val (.ref av162), .val (.ref b166), .val (.ref mv182), .val (.ref b166)] [(.int (2 : Int32))])) (G_own_law Z k p1 p2 p3 ac cl h0 n0 s)
      refine own_go (fun _ k_ => XS.ifNo X188.here hx rfl (hb hby at_136) rfl (XT.i0_le_f (by decide)) k_) ?_
      show own_Goes p e below (T188.setTop (mkF m 139 #[.val (.int k), .val (.long p1), .second, .val (.long p2), .second, .val (.long p3), .second, .val (.int (2 : Int32)), .val (.int (0 : Int32)), .val (.ref av157), .val (.ref av159), .val (.ref av162), .val (.ref b166), .val (.ref mv182), .val (.ref b166)] [])) (G_own_law Z k p1 p2 p3 ac cl h0 n0 s)
      refine own_go (fun _ k_ => XS.aload X188.here hx rfl (hb hby at_139) rfl rfl k_) ?_
      show own_Goes p e below (T188.setTop (mkF m 141 #[.val (.int k), .val (.long p1), .second, .val (.long p2), .second, .val (.long p3), .second, .val (.int (2 : Int32)), .val (.int (0 : Int32)), .val (.ref av157), .val (.ref av159), .val (.ref av162), .val (.ref b166), .val (.ref mv182), .val (.ref b166)] [(.ref b166)])) (G_own_law Z k p1 p2 p3 ac cl h0 n0 s)
      refine own_go (fun _ k_ => XS.iconst X188.here hx rfl (hb hby at_141) k_) ?_
      show own_Goes p e below (T188.setTop (mkF m 142 #[.val (.int k), .val (.long p1), .second, .val (.long p2), .second, .val (.long p3), .second, .val (.int (2 : Int32)), .val (.int (0 : Int32)), .val (.ref av157), .val (.ref av159), .val (.ref av162), .val (.ref b166), .val (.ref mv182), .val (.ref b166)] [(.int (0 : Int32)), (.ref b166)])) (G_own_law Z k p1 p2 p3 ac cl h0 n0 s)
      obtain ⟨c190, Ar190, q190, s190, z190, H190, G190⟩ := id Av177_187
      have hin190 := inb_of s190 (j := (0 : Int32)) (by decide)
      have hat190 := H190.at hin190 (v := (.ref av157)) rfl
      refine own_go (fun _ k_ => X188.aaload hx (j := (0 : Int32)) (v := (.ref av157)) (by rw [e188]; exact Ar190.1) (State.isArrayOf_alike hZ.alike Ar190.2.1) rfl Ar190.2.2 hin190 hat190 (g := (mkF m 142 #[.val (.int k), .val (.long p1), .second, .val (.long p2), .second, .val (.long p3), .second, .val (.int (2 : Int32)), .val (.int (0 : Int32)), .val (.ref av157), .val (.ref av159), .val (.ref av162), .val (.ref b166), .val (.ref mv182), .val (.ref b166)] [(.int (0 : Int32)), (.ref b166)])) rfl rfl (hb hby at_142) _ k_) ?_
      show own_Goes p e below (T188.setTop (mkF m 143 #[.val (.int k), .val (.long p1), .second, .val (.long p2), .second, .val (.long p3), .second, .val (.int (2 : Int32)), .val (.int (0 : Int32)), .val (.ref av157), .val (.ref av159), .val (.ref av162), .val (.ref b166), .val (.ref mv182), .val (.ref b166)] [(.ref av157)])) (G_own_law Z k p1 p2 p3 ac cl h0 n0 s)
      refine own_go (fun _ k_ => XS.aload X188.here hx rfl (hb hby at_143) rfl rfl k_) ?_
      show own_Goes p e below (T188.setTop (mkF m 145 #[.val (.int k), .val (.long p1), .second, .val (.long p2), .second, .val (.long p3), .second, .val (.int (2 : Int32)), .val (.int (0 : Int32)), .val (.ref av157), .val (.ref av159), .val (.ref av162), .val (.ref b166), .val (.ref mv182), .val (.ref b166)] [(.ref av157), (.ref av157)])) (G_own_law Z k p1 p2 p3 ac cl h0 n0 s)
      refine own_go (fun _ k_ => Jvm.RoadKit.acmp (g := (mkF m 145 #[.val (.int k), .val (.long p1), .second, .val (.long p2), .second, .val (.long p3), .second, .val (.int (2 : Int32)), .val (.int (0 : Int32)), .val (.ref av157), .val (.ref av159), .val (.ref av162), .val (.ref b166), .val (.ref mv182), .val (.ref b166)] [(.ref av157), (.ref av157)])) X188 hx rfl rfl rfl (pc0 := 145) (pc' := 148) (same := true) rfl (hb hby at_145) rfl (decide_eq_true rfl) (by decide) (by decide) k_) ?_
      show own_Goes p e below (T188.setTop (mkF m 148 #[.val (.int k), .val (.long p1), .second, .val (.long p2), .second, .val (.long p3), .second, .val (.int (2 : Int32)), .val (.int (0 : Int32)), .val (.ref av157), .val (.ref av159), .val (.ref av162), .val (.ref b166), .val (.ref mv182), .val (.ref b166)] [])) (G_own_law Z k p1 p2 p3 ac cl h0 n0 s)
      refine own_go (fun _ k_ => XS.aload X188.here hx rfl (hb hby at_148) rfl rfl k_) ?_
      show own_Goes p e below (T188.setTop (mkF m 150 #[.val (.int k), .val (.long p1), .second, .val (.long p2), .second, .val (.long p3), .second, .val (.int (2 : Int32)), .val (.int (0 : Int32)), .val (.ref av157), .val (.ref av159), .val (.ref av162), .val (.ref b166), .val (.ref mv182), .val (.ref b166)] [(.ref b166)])) (G_own_law Z k p1 p2 p3 ac cl h0 n0 s)
      refine own_go (fun _ k_ => XS.iconst X188.here hx rfl (hb hby at_150) k_) ?_
      show own_Goes p e below (T188.setTop (mkF m 151 #[.val (.int k), .val (.long p1), .second, .val (.long p2), .second, .val (.long p3), .second, .val (.int (2 : Int32)), .val (.int (0 : Int32)), .val (.ref av157), .val (.ref av159), .val (.ref av162), .val (.ref b166), .val (.ref mv182), .val (.ref b166)] [(.int (0 : Int32)), (.ref b166)])) (G_own_law Z k p1 p2 p3 ac cl h0 n0 s)
      obtain ⟨c191, Ar191, q191, s191, z191, H191, G191⟩ := id Av177_187
      have hin191 := inb_of s191 (j := (0 : Int32)) (by decide)
      have hat191 := H191.at hin191 (v := (.ref av157)) rfl
      refine own_go (fun _ k_ => X188.aaload hx (j := (0 : Int32)) (v := (.ref av157)) (by rw [e188]; exact Ar191.1) (State.isArrayOf_alike hZ.alike Ar191.2.1) rfl Ar191.2.2 hin191 hat191 (g := (mkF m 151 #[.val (.int k), .val (.long p1), .second, .val (.long p2), .second, .val (.long p3), .second, .val (.int (2 : Int32)), .val (.int (0 : Int32)), .val (.ref av157), .val (.ref av159), .val (.ref av162), .val (.ref b166), .val (.ref mv182), .val (.ref b166)] [(.int (0 : Int32)), (.ref b166)])) rfl rfl (hb hby at_151) _ k_) ?_
      show own_Goes p e below (T188.setTop (mkF m 152 #[.val (.int k), .val (.long p1), .second, .val (.long p2), .second, .val (.long p3), .second, .val (.int (2 : Int32)), .val (.int (0 : Int32)), .val (.ref av157), .val (.ref av159), .val (.ref av162), .val (.ref b166), .val (.ref mv182), .val (.ref b166)] [(.ref av157)])) (G_own_law Z k p1 p2 p3 ac cl h0 n0 s)
      refine own_go (fun _ k_ => XS.aload X188.here hx rfl (hb hby at_152) rfl rfl k_) ?_
      show own_Goes p e below (T188.setTop (mkF m 154 #[.val (.int k), .val (.long p1), .second, .val (.long p2), .second, .val (.long p3), .second, .val (.int (2 : Int32)), .val (.int (0 : Int32)), .val (.ref av157), .val (.ref av159), .val (.ref av162), .val (.ref b166), .val (.ref mv182), .val (.ref b166)] [(.ref av157), (.ref av157)])) (G_own_law Z k p1 p2 p3 ac cl h0 n0 s)
      refine own_go (fun _ k_ => Jvm.RoadKit.acmp (g := (mkF m 154 #[.val (.int k), .val (.long p1), .second, .val (.long p2), .second, .val (.long p3), .second, .val (.int (2 : Int32)), .val (.int (0 : Int32)), .val (.ref av157), .val (.ref av159), .val (.ref av162), .val (.ref b166), .val (.ref mv182), .val (.ref b166)] [(.ref av157), (.ref av157)])) X188 hx rfl rfl rfl (pc0 := 154) (pc' := 159) (same := true) rfl (hb hby at_154) rfl (decide_eq_true rfl) (by decide) (by decide) k_) ?_
      show own_Goes p e below (T188.setTop (mkF m 159 #[.val (.int k), .val (.long p1), .second, .val (.long p2), .second, .val (.long p3), .second, .val (.int (2 : Int32)), .val (.int (0 : Int32)), .val (.ref av157), .val (.ref av159), .val (.ref av162), .val (.ref b166), .val (.ref mv182), .val (.ref b166)] [])) (G_own_law Z k p1 p2 p3 ac cl h0 n0 s)
      refine own_go (fun _ k_ => XS.iload X188.here hx rfl (hb hby at_159) rfl k_) ?_
      show own_Goes p e below (T188.setTop (mkF m 161 #[.val (.int k), .val (.long p1), .second, .val (.long p2), .second, .val (.long p3), .second, .val (.int (2 : Int32)), .val (.int (0 : Int32)), .val (.ref av157), .val (.ref av159), .val (.ref av162), .val (.ref b166), .val (.ref mv182), .val (.ref b166)] [(.int (2 : Int32))])) (G_own_law Z k p1 p2 p3 ac cl h0 n0 s)
      refine own_go (fun _ k_ => XS.iconst X188.here hx rfl (hb hby at_161) k_) ?_
      show own_Goes p e below (T188.setTop (mkF m 162 #[.val (.int k), .val (.long p1), .second, .val (.long p2), .second, .val (.long p3), .second, .val (.int (2 : Int32)), .val (.int (0 : Int32)), .val (.ref av157), .val (.ref av159), .val (.ref av162), .val (.ref b166), .val (.ref mv182), .val (.ref b166)] [(.int (1 : Int32)), (.int (2 : Int32))])) (G_own_law Z k p1 p2 p3 ac cl h0 n0 s)
      refine own_go (fun _ k_ => XS.icmpNo X188.here hx rfl (hb hby at_162) rfl (XT.ii_le_f (by decide)) k_) ?_
      show own_Goes p e below (T188.setTop (mkF m 165 #[.val (.int k), .val (.long p1), .second, .val (.long p2), .second, .val (.long p3), .second, .val (.int (2 : Int32)), .val (.int (0 : Int32)), .val (.ref av157), .val (.ref av159), .val (.ref av162), .val (.ref b166), .val (.ref mv182), .val (.ref b166)] [])) (G_own_law Z k p1 p2 p3 ac cl h0 n0 s)
      refine own_go (fun _ k_ => XS.aload X188.here hx rfl (hb hby at_165) rfl rfl k_) ?_
      show own_Goes p e below (T188.setTop (mkF m 167 #[.val (.int k), .val (.long p1), .second, .val (.long p2), .second, .val (.long p3), .second, .val (.int (2 : Int32)), .val (.int (0 : Int32)), .val (.ref av157), .val (.ref av159), .val (.ref av162), .val (.ref b166), .val (.ref mv182), .val (.ref b166)] [(.ref b166)])) (G_own_law Z k p1 p2 p3 ac cl h0 n0 s)
      refine own_go (fun _ k_ => XS.iconst X188.here hx rfl (hb hby at_167) k_) ?_
      show own_Goes p e below (T188.setTop (mkF m 168 #[.val (.int k), .val (.long p1), .second, .val (.long p2), .second, .val (.long p3), .second, .val (.int (2 : Int32)), .val (.int (0 : Int32)), .val (.ref av157), .val (.ref av159), .val (.ref av162), .val (.ref b166), .val (.ref mv182), .val (.ref b166)] [(.int (1 : Int32)), (.ref b166)])) (G_own_law Z k p1 p2 p3 ac cl h0 n0 s)
      obtain ⟨c192, Ar192, q192, s192, z192, H192, G192⟩ := id Av177_187
      have hin192 := inb_of s192 (j := (1 : Int32)) (by decide)
      have hat192 := H192.at hin192 (v := (.ref av159)) rfl
      refine own_go (fun _ k_ => X188.aaload hx (j := (1 : Int32)) (v := (.ref av159)) (by rw [e188]; exact Ar192.1) (State.isArrayOf_alike hZ.alike Ar192.2.1) rfl Ar192.2.2 hin192 hat192 (g := (mkF m 168 #[.val (.int k), .val (.long p1), .second, .val (.long p2), .second, .val (.long p3), .second, .val (.int (2 : Int32)), .val (.int (0 : Int32)), .val (.ref av157), .val (.ref av159), .val (.ref av162), .val (.ref b166), .val (.ref mv182), .val (.ref b166)] [(.int (1 : Int32)), (.ref b166)])) rfl rfl (hb hby at_168) _ k_) ?_
      show own_Goes p e below (T188.setTop (mkF m 169 #[.val (.int k), .val (.long p1), .second, .val (.long p2), .second, .val (.long p3), .second, .val (.int (2 : Int32)), .val (.int (0 : Int32)), .val (.ref av157), .val (.ref av159), .val (.ref av162), .val (.ref b166), .val (.ref mv182), .val (.ref b166)] [(.ref av159)])) (G_own_law Z k p1 p2 p3 ac cl h0 n0 s)
      refine own_go (fun _ k_ => XS.aload X188.here hx rfl (hb hby at_169) rfl rfl k_) ?_
      show own_Goes p e below (T188.setTop (mkF m 171 #[.val (.int k), .val (.long p1), .second, .val (.long p2), .second, .val (.long p3), .second, .val (.int (2 : Int32)), .val (.int (0 : Int32)), .val (.ref av157), .val (.ref av159), .val (.ref av162), .val (.ref b166), .val (.ref mv182), .val (.ref b166)] [(.ref av159), (.ref av159)])) (G_own_law Z k p1 p2 p3 ac cl h0 n0 s)
      refine own_go (fun _ k_ => Jvm.RoadKit.acmp (g := (mkF m 171 #[.val (.int k), .val (.long p1), .second, .val (.long p2), .second, .val (.long p3), .second, .val (.int (2 : Int32)), .val (.int (0 : Int32)), .val (.ref av157), .val (.ref av159), .val (.ref av162), .val (.ref b166), .val (.ref mv182), .val (.ref b166)] [(.ref av159), (.ref av159)])) X188 hx rfl rfl rfl (pc0 := 171) (pc' := 174) (same := true) rfl (hb hby at_171) rfl (decide_eq_true rfl) (by decide) (by decide) k_) ?_
      show own_Goes p e below (T188.setTop (mkF m 174 #[.val (.int k), .val (.long p1), .second, .val (.long p2), .second, .val (.long p3), .second, .val (.int (2 : Int32)), .val (.int (0 : Int32)), .val (.ref av157), .val (.ref av159), .val (.ref av162), .val (.ref b166), .val (.ref mv182), .val (.ref b166)] [])) (G_own_law Z k p1 p2 p3 ac cl h0 n0 s)
      refine own_go (fun _ k_ => XS.aload X188.here hx rfl (hb hby at_174) rfl rfl k_) ?_
      show own_Goes p e below (T188.setTop (mkF m 176 #[.val (.int k), .val (.long p1), .second, .val (.long p2), .second, .val (.long p3), .second, .val (.int (2 : Int32)), .val (.int (0 : Int32)), .val (.ref av157), .val (.ref av159), .val (.ref av162), .val (.ref b166), .val (.ref mv182), .val (.ref b166)] [(.ref b166)])) (G_own_law Z k p1 p2 p3 ac cl h0 n0 s)
      refine own_go (fun _ k_ => XS.iconst X188.here hx rfl (hb hby at_176) k_) ?_
      show own_Goes p e below (T188.setTop (mkF m 177 #[.val (.int k), .val (.long p1), .second, .val (.long p2), .second, .val (.long p3), .second, .val (.int (2 : Int32)), .val (.int (0 : Int32)), .val (.ref av157), .val (.ref av159), .val (.ref av162), .val (.ref b166), .val (.ref mv182), .val (.ref b166)] [(.int (1 : Int32)), (.ref b166)])) (G_own_law Z k p1 p2 p3 ac cl h0 n0 s)
      obtain ⟨c193, Ar193, q193, s193, z193, H193, G193⟩ := id Av177_187
      have hin193 := inb_of s193 (j := (1 : Int32)) (by decide)
      have hat193 := H193.at hin193 (v := (.ref av159)) rfl
      refine own_go (fun _ k_ => X188.aaload hx (j := (1 : Int32)) (v := (.ref av159)) (by rw [e188]; exact Ar193.1) (State.isArrayOf_alike hZ.alike Ar193.2.1) rfl Ar193.2.2 hin193 hat193 (g := (mkF m 177 #[.val (.int k), .val (.long p1), .second, .val (.long p2), .second, .val (.long p3), .second, .val (.int (2 : Int32)), .val (.int (0 : Int32)), .val (.ref av157), .val (.ref av159), .val (.ref av162), .val (.ref b166), .val (.ref mv182), .val (.ref b166)] [(.int (1 : Int32)), (.ref b166)])) rfl rfl (hb hby at_177) _ k_) ?_
      show own_Goes p e below (T188.setTop (mkF m 178 #[.val (.int k), .val (.long p1), .second, .val (.long p2), .second, .val (.long p3), .second, .val (.int (2 : Int32)), .val (.int (0 : Int32)), .val (.ref av157), .val (.ref av159), .val (.ref av162), .val (.ref b166), .val (.ref mv182), .val (.ref b166)] [(.ref av159)])) (G_own_law Z k p1 p2 p3 ac cl h0 n0 s)
      refine own_go (fun _ k_ => XS.aload X188.here hx rfl (hb hby at_178) rfl rfl k_) ?_
      show own_Goes p e below (T188.setTop (mkF m 180 #[.val (.int k), .val (.long p1), .second, .val (.long p2), .second, .val (.long p3), .second, .val (.int (2 : Int32)), .val (.int (0 : Int32)), .val (.ref av157), .val (.ref av159), .val (.ref av162), .val (.ref b166), .val (.ref mv182), .val (.ref b166)] [(.ref av159), (.ref av159)])) (G_own_law Z k p1 p2 p3 ac cl h0 n0 s)
      refine own_go (fun _ k_ => Jvm.RoadKit.acmp (g := (mkF m 180 #[.val (.int k), .val (.long p1), .second, .val (.long p2), .second, .val (.long p3), .second, .val (.int (2 : Int32)), .val (.int (0 : Int32)), .val (.ref av157), .val (.ref av159), .val (.ref av162), .val (.ref b166), .val (.ref mv182), .val (.ref b166)] [(.ref av159), (.ref av159)])) X188 hx rfl rfl rfl (pc0 := 180) (pc' := 185) (same := true) rfl (hb hby at_180) rfl (decide_eq_true rfl) (by decide) (by decide) k_) ?_
      show own_Goes p e below (T188.setTop (mkF m 185 #[.val (.int k), .val (.long p1), .second, .val (.long p2), .second, .val (.long p3), .second, .val (.int (2 : Int32)), .val (.int (0 : Int32)), .val (.ref av157), .val (.ref av159), .val (.ref av162), .val (.ref b166), .val (.ref mv182), .val (.ref b166)] [])) (G_own_law Z k p1 p2 p3 ac cl h0 n0 s)
      refine own_go (fun _ k_ => XS.iload X188.here hx rfl (hb hby at_185) rfl k_) ?_
      show own_Goes p e below (T188.setTop (mkF m 187 #[.val (.int k), .val (.long p1), .second, .val (.long p2), .second, .val (.long p3), .second, .val (.int (2 : Int32)), .val (.int (0 : Int32)), .val (.ref av157), .val (.ref av159), .val (.ref av162), .val (.ref b166), .val (.ref mv182), .val (.ref b166)] [(.int (2 : Int32))])) (G_own_law Z k p1 p2 p3 ac cl h0 n0 s)
      refine own_go (fun _ k_ => XS.iconst X188.here hx rfl (hb hby at_187) k_) ?_
      show own_Goes p e below (T188.setTop (mkF m 188 #[.val (.int k), .val (.long p1), .second, .val (.long p2), .second, .val (.long p3), .second, .val (.int (2 : Int32)), .val (.int (0 : Int32)), .val (.ref av157), .val (.ref av159), .val (.ref av162), .val (.ref b166), .val (.ref mv182), .val (.ref b166)] [(.int (2 : Int32)), (.int (2 : Int32))])) (G_own_law Z k p1 p2 p3 ac cl h0 n0 s)
      refine own_go (fun _ k_ => XS.icmpYes X188.here hx rfl (pc0 := 188) (pc' := 211) rfl (hb hby at_188) rfl (XT.ii_le_t Int32.lt_irrefl) (by decide) (by decide) k_) ?_
      show own_Goes p e below (T188.setTop (mkF m 211 #[.val (.int k), .val (.long p1), .second, .val (.long p2), .second, .val (.long p3), .second, .val (.int (2 : Int32)), .val (.int (0 : Int32)), .val (.ref av157), .val (.ref av159), .val (.ref av162), .val (.ref b166), .val (.ref mv182), .val (.ref b166)] [])) (G_own_law Z k p1 p2 p3 ac cl h0 n0 s)
      refine own_go (fun _ k_ => XS.iconst X188.here hx rfl (hb hby at_211) k_) ?_
      show own_Goes p e below (T188.setTop (mkF m 212 #[.val (.int k), .val (.long p1), .second, .val (.long p2), .second, .val (.long p3), .second, .val (.int (2 : Int32)), .val (.int (0 : Int32)), .val (.ref av157), .val (.ref av159), .val (.ref av162), .val (.ref b166), .val (.ref mv182), .val (.ref b166)] [(.int (1 : Int32))])) (G_own_law Z k p1 p2 p3 ac cl h0 n0 s)
      obtain ⟨fs, hr, hrun, hended, hW, hsame⟩ := X188.leave (v := some (.int (1 : Int32))) (fun h => by rw [Bd.returns] at h; cases h) Bd.notSynchronized
      refine ⟨_, _, retN X188 hx (t := .boolean) Bd.returns (by simp) (hb hby at_212) hr, hrun, hended, _, _, rfl, ?_, ⟨_, rfl⟩, hW, hsame.mono (by decide) (by decide)⟩
      show Q_own_law Z k p1 p2 p3 ac cl h0 n0 _ T188.heap _
      rw [e188]
      exact ⟨rfl, N188⟩
    · refine own_go (fun _ k_ => XS.ifNo X0.here hx rfl (hb hby at_10) rfl (XT.i0_eq_f hc10_156) k_) ?_
      show own_Goes p e below (s₁.setTop (mkF m 13 #[.val (.int k), .val (.long p1), .second, .val (.long p2), .second, .val (.long p3), .second, .val (.int (2 : Int32)), .unset, .unset, .unset, .unset, .unset, .unset, .unset] [])) (G_own_law Z k p1 p2 p3 ac cl h0 n0 s)
      refine own_go (fun _ k_ => XS.iconst X0.here hx rfl (hb hby at_13) k_) ?_
      show own_Goes p e below (s₁.setTop (mkF m 14 #[.val (.int k), .val (.long p1), .second, .val (.long p2), .second, .val (.long p3), .second, .val (.int (2 : Int32)), .unset, .unset, .unset, .unset, .unset, .unset, .unset] [(.int (1 : Int32))])) (G_own_law Z k p1 p2 p3 ac cl h0 n0 s)
      refine own_go (fun _ k_ => XS.goto X0.here hx rfl (pc0 := 14) (pc' := 18) rfl (hb hby at_14) (by decide) (by decide) k_) ?_
      show own_Goes p e below (s₁.setTop (mkF m 18 #[.val (.int k), .val (.long p1), .second, .val (.long p2), .second, .val (.long p3), .second, .val (.int (2 : Int32)), .unset, .unset, .unset, .unset, .unset, .unset, .unset] [(.int (1 : Int32))])) (G_own_law Z k p1 p2 p3 ac cl h0 n0 s)
      refine own_go (fun _ k_ => XS.istore X0.here hx rfl (hb hby at_18) rfl (l' := #[.val (.int k), .val (.long p1), .second, .val (.long p2), .second, .val (.long p3), .second, .val (.int (2 : Int32)), .val (.int (1 : Int32)), .unset, .unset, .unset, .unset, .unset, .unset]) rfl k_) ?_
      show own_Goes p e below (s₁.setTop (mkF m 20 #[.val (.int k), .val (.long p1), .second, .val (.long p2), .second, .val (.long p3), .second, .val (.int (2 : Int32)), .val (.int (1 : Int32)), .unset, .unset, .unset, .unset, .unset, .unset] [])) (G_own_law Z k p1 p2 p3 ac cl h0 n0 s)
      refine own_go (fun _ k_ => XS.iload X0.here hx rfl (hb hby at_20) rfl k_) ?_
      show own_Goes p e below (s₁.setTop (mkF m 22 #[.val (.int k), .val (.long p1), .second, .val (.long p2), .second, .val (.long p3), .second, .val (.int (2 : Int32)), .val (.int (1 : Int32)), .unset, .unset, .unset, .unset, .unset, .unset] [(.int (1 : Int32))])) (G_own_law Z k p1 p2 p3 ac cl h0 n0 s)
      refine own_go (fun _ k_ => XS.ifNo X0.here hx rfl (hb hby at_22) rfl (XT.i0_eq_f (by decide)) k_) ?_
      show own_Goes p e below (s₁.setTop (mkF m 25 #[.val (.int k), .val (.long p1), .second, .val (.long p2), .second, .val (.long p3), .second, .val (.int (2 : Int32)), .val (.int (1 : Int32)), .unset, .unset, .unset, .unset, .unset, .unset] [])) (G_own_law Z k p1 p2 p3 ac cl h0 n0 s)
      refine own_go (fun _ k_ => XS.aconstNull X0.here hx rfl (hb hby at_25) k_) ?_
      show own_Goes p e below (s₁.setTop (mkF m 26 #[.val (.int k), .val (.long p1), .second, .val (.long p2), .second, .val (.long p3), .second, .val (.int (2 : Int32)), .val (.int (1 : Int32)), .unset, .unset, .unset, .unset, .unset, .unset] [.null])) (G_own_law Z k p1 p2 p3 ac cl h0 n0 s)
      refine own_go (fun _ k_ => XS.goto X0.here hx rfl (pc0 := 26) (pc' := 33) rfl (hb hby at_26) (by decide) (by decide) k_) ?_
      show own_Goes p e below (s₁.setTop (mkF m 33 #[.val (.int k), .val (.long p1), .second, .val (.long p2), .second, .val (.long p3), .second, .val (.int (2 : Int32)), .val (.int (1 : Int32)), .unset, .unset, .unset, .unset, .unset, .unset] [.null])) (G_own_law Z k p1 p2 p3 ac cl h0 n0 s)
      refine own_go (fun _ k_ => XS.astore X0.here hx rfl (hb hby at_33) rfl rfl (l' := #[.val (.int k), .val (.long p1), .second, .val (.long p2), .second, .val (.long p3), .second, .val (.int (2 : Int32)), .val (.int (1 : Int32)), .val .null, .unset, .unset, .unset, .unset, .unset]) rfl k_) ?_
      show own_Goes p e below (s₁.setTop (mkF m 35 #[.val (.int k), .val (.long p1), .second, .val (.long p2), .second, .val (.long p3), .second, .val (.int (2 : Int32)), .val (.int (1 : Int32)), .val .null, .unset, .unset, .unset, .unset, .unset] [])) (G_own_law Z k p1 p2 p3 ac cl h0 n0 s)
      refine own_go (fun _ k_ => XS.lloadN X0.here hx rfl (hb hby at_35) rfl k_) ?_
      show own_Goes p e below (s₁.setTop (mkF m 36 #[.val (.int k), .val (.long p1), .second, .val (.long p2), .second, .val (.long p3), .second, .val (.int (2 : Int32)), .val (.int (1 : Int32)), .val .null, .unset, .unset, .unset, .unset, .unset] [(.long p2)])) (G_own_law Z k p1 p2 p3 ac cl h0 n0 s)
      obtain ⟨_, _, ⟨T194, L194, k194, n194⟩, -, X194, ⟨Lc194, hQ194, l194, y194, z194⟩, st194⟩ := Jvm.LawKit.callS X0 hx (y := (⟨"java/lang/Long", "valueOf", "(J)Ljava/lang/Long;"⟩ : MethodName)) hown (mvT hZ (hw _ (List.mem_of_getElem? (i := 0) rfl))) (mvT hZ (hw _ (List.mem_of_getElem? (i := 1) rfl))) (mvT hZ (hw _ (List.mem_of_getElem? (i := 2) rfl))) (mvT hZ (hw _ (List.mem_of_getElem? (i := 3) rfl))) (by decide) (backOf (W := 0) (own_voM l Z a0 hw [] p2 ac cl h0 n0 Z0 O0 S0 A0 hsz hel) hZ (hw _ (List.mem_of_getElem? (i := 3) rfl)) (hw _ (List.mem_of_getElem? (i := 2) rfl)) (by decide) (by decide)) (g := (mkF m 36 #[.val (.int k), .val (.long p1), .second, .val (.long p2), .second, .val (.long p3), .second, .val (.int (2 : Int32)), .val (.int (1 : Int32)), .val .null, .unset, .unset, .unset, .unset, .unset] [(.long p2)])) rfl (by rw [hml]; rfl) (argsL := [(.long p2)]) (rest := []) (lenOf own_pd3 rfl) rfl (by show 2 * 0 + _ ≤ _; exact Nat.le_of_eq rfl) (hb hby at_36) (fun _ _ => ⟨rfl, e0, (by decide : 0 + 1 ≤ _), (by decide : 0 + 1 ≤ _)⟩)
      dsimp only [Pt.U, Pt.locs, Pt.cells, Pt.slots] at X194 l194 y194 z194 st194 hQ194
      subst l194 y194 z194
      obtain ⟨⟨av194, rfl, Ev194⟩, N194q, Kq194⟩ := hQ194
      have N194 := Fr.app N0 N194q
      have O0_195 := O0.keep Kq194 all0
      have Z194 : n0 ≤ T194.heap.size := Nat.le_trans Z0 Kq194.1
      refine own_go st194 ?_
      show own_Goes p e below (T194.setTop (mkF m 39 #[.val (.int k), .val (.long p1), .second, .val (.long p2), .second, .val (.long p3), .second, .val (.int (2 : Int32)), .val (.int (1 : Int32)), .val .null, .unset, .unset, .unset, .unset, .unset] [(.ref av194)])) (G_own_law Z k p1 p2 p3 ac cl h0 n0 s)
      refine own_go (fun _ k_ => XS.astore X194.here hx rfl (hb hby at_39) rfl rfl (l' := #[.val (.int k), .val (.long p1), .second, .val (.long p2), .second, .val (.long p3), .second, .val (.int (2 : Int32)), .val (.int (1 : Int32)), .val .null, .val (.ref av194), .unset, .unset, .unset, .unset]) rfl k_) ?_
      show own_Goes p e below (T194.setTop (mkF m 41 #[.val (.int k), .val (.long p1), .second, .val (.long p2), .second, .val (.long p3), .second, .val (.int (2 : Int32)), .val (.int (1 : Int32)), .val .null, .val (.ref av194), .unset, .unset, .unset, .unset] [])) (G_own_law Z k p1 p2 p3 ac cl h0 n0 s)
      refine own_go (fun _ k_ => XS.lload X194.here hx rfl (hb hby at_41) rfl k_) ?_
      show own_Goes p e below (T194.setTop (mkF m 43 #[.val (.int k), .val (.long p1), .second, .val (.long p2), .second, .val (.long p3), .second, .val (.int (2 : Int32)), .val (.int (1 : Int32)), .val .null, .val (.ref av194), .unset, .unset, .unset, .unset] [(.long p3)])) (G_own_law Z k p1 p2 p3 ac cl h0 n0 s)
      obtain ⟨_, _, ⟨T196, L196, k196, n196⟩, -, X196, ⟨Lc196, hQ196, l196, y196, z196⟩, st196⟩ := Jvm.LawKit.callS X194 hx (y := (⟨"java/lang/Long", "valueOf", "(J)Ljava/lang/Long;"⟩ : MethodName)) hown (mvT hZ (hw _ (List.mem_of_getElem? (i := 0) rfl))) (mvT hZ (hw _ (List.mem_of_getElem? (i := 1) rfl))) (mvT hZ (hw _ (List.mem_of_getElem? (i := 2) rfl))) (mvT hZ (hw _ (List.mem_of_getElem? (i := 3) rfl))) (by decide) (backOf (W := 0) (own_voM l Z a0 hw [] p3 ac cl T194.heap n0 Z194 O0_195 S0 A0 hsz hel) hZ (hw _ (List.mem_of_getElem? (i := 3) rfl)) (hw _ (List.mem_of_getElem? (i := 2) rfl)) (by decide) (by decide)) (g := (mkF m 43 #[.val (.int k), .val (.long p1), .second, .val (.long p2), .second, .val (.long p3), .second, .val (.int (2 : Int32)), .val (.int (1 : Int32)), .val .null, .val (.ref av194), .unset, .unset, .unset, .unset] [(.long p3)])) rfl (by rw [hml]; rfl) (argsL := [(.long p3)]) (rest := []) (lenOf own_pd3 rfl) rfl (by show 2 * 0 + _ ≤ _; exact Nat.le_of_eq rfl) (hb hby at_43) (fun _ _ => ⟨rfl, rfl, (by decide : 1 + 1 ≤ _), (by decide : 1 + 1 ≤ _)⟩)
      dsimp only [Pt.U, Pt.locs, Pt.cells, Pt.slots] at X196 l196 y196 z196 st196 hQ196
      subst l196 y196 z196
      obtain ⟨⟨av196, rfl, Ev196⟩, N196q, Kq196⟩ := hQ196
      have N196 := Fr.app N194 N196q
      have O0_197 := O0_195.keep Kq196 all0
      have Ev194_198 := Ev194.keep Kq196
      have Z196 : n0 ≤ T196.heap.size := Nat.le_trans Z194 Kq196.1
      refine own_go st196 ?_
      show own_Goes p e below (T196.setTop (mkF m 46 #[.val (.int k), .val (.long p1), .second, .val (.long p2), .second, .val (.long p3), .second, .val (.int (2 : Int32)), .val (.int (1 : Int32)), .val .null, .val (.ref av194), .unset, .unset, .unset, .unset] [(.ref av196)])) (G_own_law Z k p1 p2 p3 ac cl h0 n0 s)
      refine own_go (fun _ k_ => XS.astore X196.here hx rfl (hb hby at_46) rfl rfl (l' := #[.val (.int k), .val (.long p1), .second, .val (.long p2), .second, .val (.long p3), .second, .val (.int (2 : Int32)), .val (.int (1 : Int32)), .val .null, .val (.ref av194), .val (.ref av196), .unset, .unset, .unset]) rfl k_) ?_
      show own_Goes p e below (T196.setTop (mkF m 48 #[.val (.int k), .val (.long p1), .second, .val (.long p2), .second, .val (.long p3), .second, .val (.int (2 : Int32)), .val (.int (1 : Int32)), .val .null, .val (.ref av194), .val (.ref av196), .unset, .unset, .unset] [])) (G_own_law Z k p1 p2 p3 ac cl h0 n0 s)
      refine own_go (fun _ k_ => XS.iload X196.here hx rfl (hb hby at_48) rfl k_) ?_
      show own_Goes p e below (T196.setTop (mkF m 50 #[.val (.int k), .val (.long p1), .second, .val (.long p2), .second, .val (.long p3), .second, .val (.int (2 : Int32)), .val (.int (1 : Int32)), .val .null, .val (.ref av194), .val (.ref av196), .unset, .unset, .unset] [(.int (2 : Int32))])) (G_own_law Z k p1 p2 p3 ac cl h0 n0 s)
      obtain ⟨T199, h199, cA199, X199, e199, E199, A199, O199, st199⟩ := newR X196 hx hZ hown (hw _ (List.mem_of_getElem? (i := 25) rfl)) (hw _ (List.mem_of_getElem? (i := 26) rfl)) rfl (g := (mkF m 50 #[.val (.int k), .val (.long p1), .second, .val (.long p2), .second, .val (.long p3), .second, .val (.int (2 : Int32)), .val (.int (1 : Int32)), .val .null, .val (.ref av194), .val (.ref av196), .unset, .unset, .unset] [(.int (2 : Int32))])) rfl (hb hby at_50) rfl (by decide) (cap := 2) (by decide) (by decide) (by decide) (by decide)
      obtain ⟨b199, g199⟩ : ∃ z, z = T196.heap.size := ⟨_, rfl⟩
      rw [← g199] at A199 st199
      have ne_av194_b199 : av194 ≠ b199 := by rw [g199]; exact Nat.ne_of_lt Ev194_198.lt
      have ne_av196_b199 : av196 ≠ b199 := by rw [g199]; exact Nat.ne_of_lt Ev196.lt
      have O0_201 := O0_197.ext E199
      have Ev194_202 := Ev194_198.ext E199
      have Ev196_203 := Ev196.ext E199
      have g_b199 : n0 ≤ b199 := by rw [g199]; exact Z196
      have Z199 : n0 ≤ h199.size := Nat.le_trans Z196 E199.1
      have Av199 : Arv Z h199 b199 cA199 (.object "java/lang/Object") (2 : Int32) [] .null := Arv.new A199 (by decide)
      have Aw199 : Arv Z h199 b199 cA199 (.object "java/lang/Object") (2 : Int32) [.null, .null] (.null) := Av199.pad (pad_rep [] _ 2)
      refine own_go st199 ?_
      show own_Goes p e below (T199.setTop (mkF m 53 #[.val (.int k), .val (.long p1), .second, .val (.long p2), .second, .val (.long p3), .second, .val (.int (2 : Int32)), .val (.int (1 : Int32)), .val .null, .val (.ref av194), .val (.ref av196), .unset, .unset, .unset] [(.ref b199)])) (G_own_law Z k p1 p2 p3 ac cl h0 n0 s)
      refine own_go (fun _ k_ => XS.astore X199.here hx rfl (hb hby at_53) rfl rfl (l' := #[.val (.int k), .val (.long p1), .second, .val (.long p2), .second, .val (.long p3), .second, .val (.int (2 : Int32)), .val (.int (1 : Int32)), .val .null, .val (.ref av194), .val (.ref av196), .val (.ref b199), .unset, .unset]) rfl k_) ?_
      show own_Goes p e below (T199.setTop (mkF m 55 #[.val (.int k), .val (.long p1), .second, .val (.long p2), .second, .val (.long p3), .second, .val (.int (2 : Int32)), .val (.int (1 : Int32)), .val .null, .val (.ref av194), .val (.ref av196), .val (.ref b199), .unset, .unset] [])) (G_own_law Z k p1 p2 p3 ac cl h0 n0 s)
      refine own_go (fun _ k_ => XS.iload X199.here hx rfl (hb hby at_55) rfl k_) ?_
      show own_Goes p e below (T199.setTop (mkF m 57 #[.val (.int k), .val (.long p1), .second, .val (.long p2), .second, .val (.long p3), .second, .val (.int (2 : Int32)), .val (.int (1 : Int32)), .val .null, .val (.ref av194), .val (.ref av196), .val (.ref b199), .unset, .unset] [(.int (2 : Int32))])) (G_own_law Z k p1 p2 p3 ac cl h0 n0 s)
      refine own_go (fun _ k_ => XS.ifNo X199.here hx rfl (hb hby at_57) rfl (XT.i0_le_f (by decide)) k_) ?_
      show own_Goes p e below (T199.setTop (mkF m 60 #[.val (.int k), .val (.long p1), .second, .val (.long p2), .second, .val (.long p3), .second, .val (.int (2 : Int32)), .val (.int (1 : Int32)), .val .null, .val (.ref av194), .val (.ref av196), .val (.ref b199), .unset, .unset] [])) (G_own_law Z k p1 p2 p3 ac cl h0 n0 s)
      refine own_go (fun _ k_ => XS.aload X199.here hx rfl (hb hby at_60) rfl rfl k_) ?_
      show own_Goes p e below (T199.setTop (mkF m 62 #[.val (.int k), .val (.long p1), .second, .val (.long p2), .second, .val (.long p3), .second, .val (.int (2 : Int32)), .val (.int (1 : Int32)), .val .null, .val (.ref av194), .val (.ref av196), .val (.ref b199), .unset, .unset] [(.ref b199)])) (G_own_law Z k p1 p2 p3 ac cl h0 n0 s)
      refine own_go (fun _ k_ => XS.iconst X199.here hx rfl (hb hby at_62) k_) ?_
      show own_Goes p e below (T199.setTop (mkF m 63 #[.val (.int k), .val (.long p1), .second, .val (.long p2), .second, .val (.long p3), .second, .val (.int (2 : Int32)), .val (.int (1 : Int32)), .val .null, .val (.ref av194), .val (.ref av196), .val (.ref b199), .unset, .unset] [(.int (0 : Int32)), (.ref b199)])) (G_own_law Z k p1 p2 p3 ac cl h0 n0 s)
      refine own_go (fun _ k_ => XS.aload X199.here hx rfl (hb hby at_63) rfl rfl k_) ?_
      show own_Goes p e below (T199.setTop (mkF m 65 #[.val (.int k), .val (.long p1), .second, .val (.long p2), .second, .val (.long p3), .second, .val (.int (2 : Int32)), .val (.int (1 : Int32)), .val .null, .val (.ref av194), .val (.ref av196), .val (.ref b199), .unset, .unset] [.null, (.int (0 : Int32)), (.ref b199)])) (G_own_law Z k p1 p2 p3 ac cl h0 n0 s)
      obtain ⟨c204, Ar204, q204, s204, z204, H204, G204⟩ := id Aw199
      have hin204 := inb_of s204 (j := (0 : Int32)) (by decide)
      obtain ⟨T204, h204, X204, e204, W204, st204⟩ := stR X199 hx hZ e199 Ar204 hin204 rfl (Or.inl rfl) (g := (mkF m 65 #[.val (.int k), .val (.long p1), .second, .val (.long p2), .second, .val (.long p3), .second, .val (.int (2 : Int32)), .val (.int (1 : Int32)), .val .null, .val (.ref av194), .val (.ref av196), .val (.ref b199), .unset, .unset] [.null, (.int (0 : Int32)), (.ref b199)])) rfl rfl (hb hby at_65)
      have O0_205 := O0_201.wr W204 g_b199
      have Ev194_206 := Ev194_202.wr W204
      have Ev196_207 := Ev196_203.wr W204
      have Av204 : Arv Z h204 b199 cA199 (.object "java/lang/Object") (2 : Int32) [.null, .null] (.null) := Arv.set Ar204 q204 s204 z204 H204 G204 (v := .null) rfl W204 0 rfl (by first | decide | simp)
      have N204 := Fr.snoc X204 N196 g_b199
      have Z204 : n0 ≤ h204.size := by rw [W204.size]; exact Z199
      refine own_go st204 ?_
      show own_Goes p e below (T204.setTop (mkF m 66 #[.val (.int k), .val (.long p1), .second, .val (.long p2), .second, .val (.long p3), .second, .val (.int (2 : Int32)), .val (.int (1 : Int32)), .val .null, .val (.ref av194), .val (.ref av196), .val (.ref b199), .unset, .unset] [])) (G_own_law Z k p1 p2 p3 ac cl h0 n0 s)
      refine own_go (fun _ k_ => XS.iload X204.here hx rfl (hb hby at_66) rfl k_) ?_
      show own_Goes p e below (T204.setTop (mkF m 68 #[.val (.int k), .val (.long p1), .second, .val (.long p2), .second, .val (.long p3), .second, .val (.int (2 : Int32)), .val (.int (1 : Int32)), .val .null, .val (.ref av194), .val (.ref av196), .val (.ref b199), .unset, .unset] [(.int (2 : Int32))])) (G_own_law Z k p1 p2 p3 ac cl h0 n0 s)
      refine own_go (fun _ k_ => XS.iconst X204.here hx rfl (hb hby at_68) k_) ?_
      show own_Goes p e below (T204.setTop (mkF m 69 #[.val (.int k), .val (.long p1), .second, .val (.long p2), .second, .val (.long p3), .second, .val (.int (2 : Int32)), .val (.int (1 : Int32)), .val .null, .val (.ref av194), .val (.ref av196), .val (.ref b199), .unset, .unset] [(.int (1 : Int32)), (.int (2 : Int32))])) (G_own_law Z k p1 p2 p3 ac cl h0 n0 s)
      refine own_go (fun _ k_ => XS.icmpNo X204.here hx rfl (hb hby at_69) rfl (XT.ii_le_f (by decide)) k_) ?_
      show own_Goes p e below (T204.setTop (mkF m 72 #[.val (.int k), .val (.long p1), .second, .val (.long p2), .second, .val (.long p3), .second, .val (.int (2 : Int32)), .val (.int (1 : Int32)), .val .null, .val (.ref av194), .val (.ref av196), .val (.ref b199), .unset, .unset] [])) (G_own_law Z k p1 p2 p3 ac cl h0 n0 s)
      refine own_go (fun _ k_ => XS.aload X204.here hx rfl (hb hby at_72) rfl rfl k_) ?_
      show own_Goes p e below (T204.setTop (mkF m 74 #[.val (.int k), .val (.long p1), .second, .val (.long p2), .second, .val (.long p3), .second, .val (.int (2 : Int32)), .val (.int (1 : Int32)), .val .null, .val (.ref av194), .val (.ref av196), .val (.ref b199), .unset, .unset] [(.ref b199)])) (G_own_law Z k p1 p2 p3 ac cl h0 n0 s)
      refine own_go (fun _ k_ => XS.iconst X204.here hx rfl (hb hby at_74) k_) ?_
      show own_Goes p e below (T204.setTop (mkF m 75 #[.val (.int k), .val (.long p1), .second, .val (.long p2), .second, .val (.long p3), .second, .val (.int (2 : Int32)), .val (.int (1 : Int32)), .val .null, .val (.ref av194), .val (.ref av196), .val (.ref b199), .unset, .unset] [(.int (1 : Int32)), (.ref b199)])) (G_own_law Z k p1 p2 p3 ac cl h0 n0 s)
      refine own_go (fun _ k_ => XS.aload X204.here hx rfl (hb hby at_75) rfl rfl k_) ?_
      show own_Goes p e below (T204.setTop (mkF m 77 #[.val (.int k), .val (.long p1), .second, .val (.long p2), .second, .val (.long p3), .second, .val (.int (2 : Int32)), .val (.int (1 : Int32)), .val .null, .val (.ref av194), .val (.ref av196), .val (.ref b199), .unset, .unset] [(.ref av194), (.int (1 : Int32)), (.ref b199)])) (G_own_law Z k p1 p2 p3 ac cl h0 n0 s)
      obtain ⟨c208, Ar208, q208, s208, z208, H208, G208⟩ := id Av204
      have hin208 := inb_of s208 (j := (1 : Int32)) (by decide)
      obtain ⟨T208, h208, X208, e208, W208, st208⟩ := stR X204 hx hZ e204 Ar208 hin208 rfl (Sto.ofV Ar208 q208 O199 (Ins.of_exa Ev194_206 (hw _ (List.mem_of_getElem? (i := 43) rfl)))) (g := (mkF m 77 #[.val (.int k), .val (.long p1), .second, .val (.long p2), .second, .val (.long p3), .second, .val (.int (2 : Int32)), .val (.int (1 : Int32)), .val .null, .val (.ref av194), .val (.ref av196), .val (.ref b199), .unset, .unset] [(.ref av194), (.int (1 : Int32)), (.ref b199)])) rfl rfl (hb hby at_77)
      have O0_209 := O0_205.wr W208 g_b199
      have Ev194_210 := Ev194_206.wr W208
      have Ev196_211 := Ev196_207.wr W208
      have Av208 : Arv Z h208 b199 cA199 (.object "java/lang/Object") (2 : Int32) [.null, (.ref av194)] (.null) := Arv.set Ar208 q208 s208 z208 H208 G208 (v := (.ref av194)) rfl W208 1 rfl (by first | decide | simp)
      have N208 := Fr.snoc X208 N204 g_b199
      have Z208 : n0 ≤ h208.size := by rw [W208.size]; exact Z204
      refine own_go st208 ?_
      show own_Goes p e below (T208.setTop (mkF m 78 #[.val (.int k), .val (.long p1), .second, .val (.long p2), .second, .val (.long p3), .second, .val (.int (2 : Int32)), .val (.int (1 : Int32)), .val .null, .val (.ref av194), .val (.ref av196), .val (.ref b199), .unset, .unset] [])) (G_own_law Z k p1 p2 p3 ac cl h0 n0 s)
      refine own_go (fun _ k_ => XS.iload X208.here hx rfl (hb hby at_78) rfl k_) ?_
      show own_Goes p e below (T208.setTop (mkF m 80 #[.val (.int k), .val (.long p1), .second, .val (.long p2), .second, .val (.long p3), .second, .val (.int (2 : Int32)), .val (.int (1 : Int32)), .val .null, .val (.ref av194), .val (.ref av196), .val (.ref b199), .unset, .unset] [(.int (2 : Int32))])) (G_own_law Z k p1 p2 p3 ac cl h0 n0 s)
      refine own_go (fun _ k_ => XS.iconst X208.here hx rfl (hb hby at_80) k_) ?_
      show own_Goes p e below (T208.setTop (mkF m 81 #[.val (.int k), .val (.long p1), .second, .val (.long p2), .second, .val (.long p3), .second, .val (.int (2 : Int32)), .val (.int (1 : Int32)), .val .null, .val (.ref av194), .val (.ref av196), .val (.ref b199), .unset, .unset] [(.int (2 : Int32)), (.int (2 : Int32))])) (G_own_law Z k p1 p2 p3 ac cl h0 n0 s)
      refine own_go (fun _ k_ => XS.icmpYes X208.here hx rfl (pc0 := 81) (pc' := 90) rfl (hb hby at_81) rfl (XT.ii_le_t Int32.lt_irrefl) (by decide) (by decide) k_) ?_
      show own_Goes p e below (T208.setTop (mkF m 90 #[.val (.int k), .val (.long p1), .second, .val (.long p2), .second, .val (.long p3), .second, .val (.int (2 : Int32)), .val (.int (1 : Int32)), .val .null, .val (.ref av194), .val (.ref av196), .val (.ref b199), .unset, .unset] [])) (G_own_law Z k p1 p2 p3 ac cl h0 n0 s)
      refine own_go (fun _ k_ => XS.aload X208.here hx rfl (hb hby at_90) rfl rfl k_) ?_
      show own_Goes p e below (T208.setTop (mkF m 92 #[.val (.int k), .val (.long p1), .second, .val (.long p2), .second, .val (.long p3), .second, .val (.int (2 : Int32)), .val (.int (1 : Int32)), .val .null, .val (.ref av194), .val (.ref av196), .val (.ref b199), .unset, .unset] [(.ref b199)])) (G_own_law Z k p1 p2 p3 ac cl h0 n0 s)
      obtain ⟨_, _, ⟨T212, L212, k212, n212⟩, -, X212, ⟨Lc212, hQ212, l212, y212, z212⟩, st212⟩ := Jvm.LawKit.callS X208 hx (y := (⟨"com/example/remnant/remnant/core/MultipleValues", "of", "([Ljava/lang/Object;)Ljava/lang/Object;"⟩ : MethodName)) hown (mvT hZ (hw _ (List.mem_of_getElem? (i := 27) rfl))) (mvT hZ (hw _ (List.mem_of_getElem? (i := 28) rfl))) (mvT hZ (hw _ (List.mem_of_getElem? (i := 29) rfl))) (mvT hZ (hw _ (List.mem_of_getElem? (i := 30) rfl))) (by decide) (backOf (W := 0) (own_ofNM l Z a0 hw [] b199 cA199 (2 : Int32) [.null, (.ref av194)] h208 n0 Z208 Av208 (by decide)) hZ (hw _ (List.mem_of_getElem? (i := 30) rfl)) (hw _ (List.mem_of_getElem? (i := 29) rfl)) (by decide) (by decide)) (g := (mkF m 92 #[.val (.int k), .val (.long p1), .second, .val (.long p2), .second, .val (.long p3), .second, .val (.int (2 : Int32)), .val (.int (1 : Int32)), .val .null, .val (.ref av194), .val (.ref av196), .val (.ref b199), .unset, .unset] [(.ref b199)])) rfl (by rw [hml]; rfl) (argsL := [(.ref b199)]) (rest := []) (lenOf own_pd4 rfl) rfl (by show 2 * 0 + _ ≤ _; exact Nat.le_of_eq rfl) (hb hby at_92) (fun _ _ => ⟨rfl, e208, (by decide : 3 + 1 ≤ _), (by decide : 4 + 1 ≤ _)⟩)
      dsimp only [Pt.U, Pt.locs, Pt.cells, Pt.slots] at X212 l212 y212 z212 st212 hQ212
      subst l212 y212 z212
      obtain ⟨⟨mv212, rfl, Em212, Fm212⟩, N212q, Kq212⟩ := hQ212
      have N212 := Fr.app N208 N212q
      have O0_213 := O0_209.keep Kq212 all0
      have Ev194_214 := Ev194_210.keep Kq212
      have Ev196_215 := Ev196_211.keep Kq212
      have Av208_216 := Av208.keep Kq212 nin0
      have Z212 : n0 ≤ T212.heap.size := Nat.le_trans Z208 Kq212.1
      refine own_go st212 ?_
      show own_Goes p e below (T212.setTop (mkF m 95 #[.val (.int k), .val (.long p1), .second, .val (.long p2), .second, .val (.long p3), .second, .val (.int (2 : Int32)), .val (.int (1 : Int32)), .val .null, .val (.ref av194), .val (.ref av196), .val (.ref b199), .unset, .unset] [(.ref mv212)])) (G_own_law Z k p1 p2 p3 ac cl h0 n0 s)
      refine own_go (fun _ k_ => XS.astore X212.here hx rfl (hb hby at_95) rfl rfl (l' := #[.val (.int k), .val (.long p1), .second, .val (.long p2), .second, .val (.long p3), .second, .val (.int (2 : Int32)), .val (.int (1 : Int32)), .val .null, .val (.ref av194), .val (.ref av196), .val (.ref b199), .val (.ref mv212), .unset]) rfl k_) ?_
      show own_Goes p e below (T212.setTop (mkF m 97 #[.val (.int k), .val (.long p1), .second, .val (.long p2), .second, .val (.long p3), .second, .val (.int (2 : Int32)), .val (.int (1 : Int32)), .val .null, .val (.ref av194), .val (.ref av196), .val (.ref b199), .val (.ref mv212), .unset] [])) (G_own_law Z k p1 p2 p3 ac cl h0 n0 s)
      refine own_go (fun _ k_ => XS.aload X212.here hx rfl (hb hby at_97) rfl rfl k_) ?_
      show own_Goes p e below (T212.setTop (mkF m 99 #[.val (.int k), .val (.long p1), .second, .val (.long p2), .second, .val (.long p3), .second, .val (.int (2 : Int32)), .val (.int (1 : Int32)), .val .null, .val (.ref av194), .val (.ref av196), .val (.ref b199), .val (.ref mv212), .unset] [(.ref mv212)])) (G_own_law Z k p1 p2 p3 ac cl h0 n0 s)
      obtain ⟨_, _, ⟨T217, L217, k217, n217⟩, -, X217, ⟨Lc217, hQ217, l217, y217, z217⟩, st217⟩ := Jvm.LawKit.callS X212 hx (y := (⟨"com/example/remnant/remnant/core/MultipleValues", "spread", "(Ljava/lang/Object;)[Ljava/lang/Object;"⟩ : MethodName)) hown (mvT hZ (hw _ (List.mem_of_getElem? (i := 39) rfl))) (mvT hZ (hw _ (List.mem_of_getElem? (i := 40) rfl))) (mvT hZ (hw _ (List.mem_of_getElem? (i := 29) rfl))) (mvT hZ (hw _ (List.mem_of_getElem? (i := 41) rfl))) (by decide) (backOf (W := 0) (own_spMVM l Z a0 hw [] mv212 b199 T212.heap n0 Z212 Em212 Fm212) hZ (hw _ (List.mem_of_getElem? (i := 41) rfl)) (hw _ (List.mem_of_getElem? (i := 29) rfl)) (by decide) (by decide)) (g := (mkF m 99 #[.val (.int k), .val (.long p1), .second, .val (.long p2), .second, .val (.long p3), .second, .val (.int (2 : Int32)), .val (.int (1 : Int32)), .val .null, .val (.ref av194), .val (.ref av196), .val (.ref b199), .val (.ref mv212), .unset] [(.ref mv212)])) rfl (by rw [hml]; rfl) (argsL := [(.ref mv212)]) (rest := []) (lenOf own_pd5 rfl) rfl (by show 2 * 0 + _ ≤ _; exact Nat.le_of_eq rfl) (hb hby at_99) (fun _ _ => ⟨rfl, rfl, (by decide : 4 + 0 ≤ _), (by decide : 5 + 0 ≤ _)⟩)
      dsimp only [Pt.U, Pt.locs, Pt.cells, Pt.slots] at X217 l217 y217 z217 st217 hQ217
      subst l217 y217 z217
      obtain ⟨rfl, N217q, e217⟩ := hQ217
      have N217 := Fr.app N212 N217q
      refine own_go st217 ?_
      show own_Goes p e below (T217.setTop (mkF m 102 #[.val (.int k), .val (.long p1), .second, .val (.long p2), .second, .val (.long p3), .second, .val (.int (2 : Int32)), .val (.int (1 : Int32)), .val .null, .val (.ref av194), .val (.ref av196), .val (.ref b199), .val (.ref mv212), .unset] [(.ref b199)])) (G_own_law Z k p1 p2 p3 ac cl h0 n0 s)
      refine own_go (fun _ k_ => XS.astore X217.here hx rfl (hb hby at_102) rfl rfl (l' := #[.val (.int k), .val (.long p1), .second, .val (.long p2), .second, .val (.long p3), .second, .val (.int (2 : Int32)), .val (.int (1 : Int32)), .val .null, .val (.ref av194), .val (.ref av196), .val (.ref b199), .val (.ref mv212), .val (.ref b199)]) rfl k_) ?_
      show own_Goes p e below (T217.setTop (mkF m 104 #[.val (.int k), .val (.long p1), .second, .val (.long p2), .second, .val (.long p3), .second, .val (.int (2 : Int32)), .val (.int (1 : Int32)), .val .null, .val (.ref av194), .val (.ref av196), .val (.ref b199), .val (.ref mv212), .val (.ref b199)] [])) (G_own_law Z k p1 p2 p3 ac cl h0 n0 s)
      refine own_go (fun _ k_ => XS.aload X217.here hx rfl (hb hby at_104) rfl rfl k_) ?_
      show own_Goes p e below (T217.setTop (mkF m 106 #[.val (.int k), .val (.long p1), .second, .val (.long p2), .second, .val (.long p3), .second, .val (.int (2 : Int32)), .val (.int (1 : Int32)), .val .null, .val (.ref av194), .val (.ref av196), .val (.ref b199), .val (.ref mv212), .val (.ref b199)] [(.ref b199)])) (G_own_law Z k p1 p2 p3 ac cl h0 n0 s)
      refine own_go (fun _ k_ => XS.ifnullNo X217.here hx rfl (hb hby at_106) rfl k_) ?_
      show own_Goes p e below (T217.setTop (mkF m 109 #[.val (.int k), .val (.long p1), .second, .val (.long p2), .second, .val (.long p3), .second, .val (.int (2 : Int32)), .val (.int (1 : Int32)), .val .null, .val (.ref av194), .val (.ref av196), .val (.ref b199), .val (.ref mv212), .val (.ref b199)] [])) (G_own_law Z k p1 p2 p3 ac cl h0 n0 s)
      refine own_go (fun _ k_ => XS.aload X217.here hx rfl (hb hby at_109) rfl rfl k_) ?_
      show own_Goes p e below (T217.setTop (mkF m 111 #[.val (.int k), .val (.long p1), .second, .val (.long p2), .second, .val (.long p3), .second, .val (.int (2 : Int32)), .val (.int (1 : Int32)), .val .null, .val (.ref av194), .val (.ref av196), .val (.ref b199), .val (.ref mv212), .val (.ref b199)] [(.ref b199)])) (G_own_law Z k p1 p2 p3 ac cl h0 n0 s)
      obtain ⟨c218, Ar218, q218, s218, z218, H218, G218⟩ := id Av208_216
      refine own_go (fun _ k_ => X217.arraylength hx (by rw [e217]; exact Ar218.1) (State.isArrayOf_alike hZ.alike Ar218.2.1) (g := (mkF m 111 #[.val (.int k), .val (.long p1), .second, .val (.long p2), .second, .val (.long p3), .second, .val (.int (2 : Int32)), .val (.int (1 : Int32)), .val .null, .val (.ref av194), .val (.ref av196), .val (.ref b199), .val (.ref mv212), .val (.ref b199)] [(.ref b199)])) rfl rfl (hb hby at_111) _ k_) ?_
      rw [len_of s218 z218]
      show own_Goes p e below (T217.setTop (mkF m 112 #[.val (.int k), .val (.long p1), .second, .val (.long p2), .second, .val (.long p3), .second, .val (.int (2 : Int32)), .val (.int (1 : Int32)), .val .null, .val (.ref av194), .val (.ref av196), .val (.ref b199), .val (.ref mv212), .val (.ref b199)] [(.int (2 : Int32))])) (G_own_law Z k p1 p2 p3 ac cl h0 n0 s)
      refine own_go (fun _ k_ => XS.iload X217.here hx rfl (hb hby at_112) rfl k_) ?_
      show own_Goes p e below (T217.setTop (mkF m 114 #[.val (.int k), .val (.long p1), .second, .val (.long p2), .second, .val (.long p3), .second, .val (.int (2 : Int32)), .val (.int (1 : Int32)), .val .null, .val (.ref av194), .val (.ref av196), .val (.ref b199), .val (.ref mv212), .val (.ref b199)] [(.int (2 : Int32)), (.int (2 : Int32))])) (G_own_law Z k p1 p2 p3 ac cl h0 n0 s)
      refine own_go (fun _ k_ => XS.icmpYes X217.here hx rfl (pc0 := 114) (pc' := 119) rfl (hb hby at_114) rfl (XT.ii_eq_t (rfl : (2 : Int32) = (2 : Int32))) (by decide) (by decide) k_) ?_
      show own_Goes p e below (T217.setTop (mkF m 119 #[.val (.int k), .val (.long p1), .second, .val (.long p2), .second, .val (.long p3), .second, .val (.int (2 : Int32)), .val (.int (1 : Int32)), .val .null, .val (.ref av194), .val (.ref av196), .val (.ref b199), .val (.ref mv212), .val (.ref b199)] [])) (G_own_law Z k p1 p2 p3 ac cl h0 n0 s)
      refine own_go (fun _ k_ => XS.iload X217.here hx rfl (hb hby at_119) rfl k_) ?_
      show own_Goes p e below (T217.setTop (mkF m 121 #[.val (.int k), .val (.long p1), .second, .val (.long p2), .second, .val (.long p3), .second, .val (.int (2 : Int32)), .val (.int (1 : Int32)), .val .null, .val (.ref av194), .val (.ref av196), .val (.ref b199), .val (.ref mv212), .val (.ref b199)] [(.int (2 : Int32))])) (G_own_law Z k p1 p2 p3 ac cl h0 n0 s)
      refine own_go (fun _ k_ => XS.iconst X217.here hx rfl (hb hby at_121) k_) ?_
      show own_Goes p e below (T217.setTop (mkF m 122 #[.val (.int k), .val (.long p1), .second, .val (.long p2), .second, .val (.long p3), .second, .val (.int (2 : Int32)), .val (.int (1 : Int32)), .val .null, .val (.ref av194), .val (.ref av196), .val (.ref b199), .val (.ref mv212), .val (.ref b199)] [(.int (1 : Int32)), (.int (2 : Int32))])) (G_own_law Z k p1 p2 p3 ac cl h0 n0 s)
      refine own_go (fun _ k_ => XS.icmpNo X217.here hx rfl (hb hby at_122) rfl (XT.ii_eq_f (by decide)) k_) ?_
      show own_Goes p e below (T217.setTop (mkF m 125 #[.val (.int k), .val (.long p1), .second, .val (.long p2), .second, .val (.long p3), .second, .val (.int (2 : Int32)), .val (.int (1 : Int32)), .val .null, .val (.ref av194), .val (.ref av196), .val (.ref b199), .val (.ref mv212), .val (.ref b199)] [])) (G_own_law Z k p1 p2 p3 ac cl h0 n0 s)
      refine own_go (fun _ k_ => XS.aload X217.here hx rfl (hb hby at_125) rfl rfl k_) ?_
      show own_Goes p e below (T217.setTop (mkF m 127 #[.val (.int k), .val (.long p1), .second, .val (.long p2), .second, .val (.long p3), .second, .val (.int (2 : Int32)), .val (.int (1 : Int32)), .val .null, .val (.ref av194), .val (.ref av196), .val (.ref b199), .val (.ref mv212), .val (.ref b199)] [(.ref b199)])) (G_own_law Z k p1 p2 p3 ac cl h0 n0 s)
      refine own_go (fun _ k_ => XS.aload X217.here hx rfl (hb hby at_127) rfl rfl k_) ?_
      show own_Goes p e below (T217.setTop (mkF m 129 #[.val (.int k), .val (.long p1), .second, .val (.long p2), .second, .val (.long p3), .second, .val (.int (2 : Int32)), .val (.int (1 : Int32)), .val .null, .val (.ref av194), .val (.ref av196), .val (.ref b199), .val (.ref mv212), .val (.ref b199)] [(.ref b199), (.ref b199)])) (G_own_law Z k p1 p2 p3 ac cl h0 n0 s)
      refine own_go (fun _ k_ => Jvm.RoadKit.acmp (g := (mkF m 129 #[.val (.int k), .val (.long p1), .second, .val (.long p2), .second, .val (.long p3), .second, .val (.int (2 : Int32)), .val (.int (1 : Int32)), .val .null, .val (.ref av194), .val (.ref av196), .val (.ref b199), .val (.ref mv212), .val (.ref b199)] [(.ref b199), (.ref b199)])) X217 hx rfl rfl rfl (pc0 := 129) (pc' := 134) (same := true) rfl (hb hby at_129) rfl (decide_eq_true rfl) (by decide) (by decide) k_) ?_
      show own_Goes p e below (T217.setTop (mkF m 134 #[.val (.int k), .val (.long p1), .second, .val (.long p2), .second, .val (.long p3), .second, .val (.int (2 : Int32)), .val (.int (1 : Int32)), .val .null, .val (.ref av194), .val (.ref av196), .val (.ref b199), .val (.ref mv212), .val (.ref b199)] [])) (G_own_law Z k p1 p2 p3 ac cl h0 n0 s)
      refine own_go (fun _ k_ => XS.iload X217.here hx rfl (hb hby at_134) rfl k_) ?_
      show own_Goes p e below (T217.setTop (mkF m 136 #[.val (.int k), .val (.long p1), .second, .val (.long p2), .second, .val (.long p3), .second, .val (.int (2 : Int32)), .val (.int (1 : Int32)), .val .null, .val (.ref av194), .val (.ref av196), .val (.ref b199), .val (.ref mv212), .val (.ref b199)] [(.int (2 : Int32))])) (G_own_law Z k p1 p2 p3 ac cl h0 n0 s)
      refine own_go (fun _ k_ => XS.ifNo X217.here hx rfl (hb hby at_136) rfl (XT.i0_le_f (by decide)) k_) ?_
      show own_Goes p e below (T217.setTop (mkF m 139 #[.val (.int k), .val (.long p1), .second, .val (.long p2), .second, .val (.long p3), .second, .val (.int (2 : Int32)), .val (.int (1 : Int32)), .val .null, .val (.ref av194), .val (.ref av196), .val (.ref b199), .val (.ref mv212), .val (.ref b199)] [])) (G_own_law Z k p1 p2 p3 ac cl h0 n0 s)
      refine own_go (fun _ k_ => XS.aload X217.here hx rfl (hb hby at_139) rfl rfl k_) ?_
      show own_Goes p e below (T217.setTop (mkF m 141 #[.val (.int k), .val (.long p1), .second, .val (.long p2), .second, .val (.long p3), .second, .val (.int (2 : Int32)), .val (.int (1 : Int32)), .val .null, .val (.ref av194), .val (.ref av196), .val (.ref b199), .val (.ref mv212), .val (.ref b199)] [(.ref b199)])) (G_own_law Z k p1 p2 p3 ac cl h0 n0 s)
      refine own_go (fun _ k_ => XS.iconst X217.here hx rfl (hb hby at_141) k_) ?_
      show own_Goes p e below (T217.setTop (mkF m 142 #[.val (.int k), .val (.long p1), .second, .val (.long p2), .second, .val (.long p3), .second, .val (.int (2 : Int32)), .val (.int (1 : Int32)), .val .null, .val (.ref av194), .val (.ref av196), .val (.ref b199), .val (.ref mv212), .val (.ref b199)] [(.int (0 : Int32)), (.ref b199)])) (G_own_law Z k p1 p2 p3 ac cl h0 n0 s)
      obtain ⟨c219, Ar219, q219, s219, z219, H219, G219⟩ := id Av208_216
      have hin219 := inb_of s219 (j := (0 : Int32)) (by decide)
      have hat219 := H219.at hin219 (v := .null) rfl
      refine own_go (fun _ k_ => X217.aaload hx (j := (0 : Int32)) (v := .null) (by rw [e217]; exact Ar219.1) (State.isArrayOf_alike hZ.alike Ar219.2.1) rfl Ar219.2.2 hin219 hat219 (g := (mkF m 142 #[.val (.int k), .val (.long p1), .second, .val (.long p2), .second, .val (.long p3), .second, .val (.int (2 : Int32)), .val (.int (1 : Int32)), .val .null, .val (.ref av194), .val (.ref av196), .val (.ref b199), .val (.ref mv212), .val (.ref b199)] [(.int (0 : Int32)), (.ref b199)])) rfl rfl (hb hby at_142) _ k_) ?_
      show own_Goes p e below (T217.setTop (mkF m 143 #[.val (.int k), .val (.long p1), .second, .val (.long p2), .second, .val (.long p3), .second, .val (.int (2 : Int32)), .val (.int (1 : Int32)), .val .null, .val (.ref av194), .val (.ref av196), .val (.ref b199), .val (.ref mv212), .val (.ref b199)] [.null])) (G_own_law Z k p1 p2 p3 ac cl h0 n0 s)
      refine own_go (fun _ k_ => XS.aload X217.here hx rfl (hb hby at_143) rfl rfl k_) ?_
      show own_Goes p e below (T217.setTop (mkF m 145 #[.val (.int k), .val (.long p1), .second, .val (.long p2), .second, .val (.long p3), .second, .val (.int (2 : Int32)), .val (.int (1 : Int32)), .val .null, .val (.ref av194), .val (.ref av196), .val (.ref b199), .val (.ref mv212), .val (.ref b199)] [.null, .null])) (G_own_law Z k p1 p2 p3 ac cl h0 n0 s)
      refine own_go (fun _ k_ => Jvm.RoadKit.acmp (g := (mkF m 145 #[.val (.int k), .val (.long p1), .second, .val (.long p2), .second, .val (.long p3), .second, .val (.int (2 : Int32)), .val (.int (1 : Int32)), .val .null, .val (.ref av194), .val (.ref av196), .val (.ref b199), .val (.ref mv212), .val (.ref b199)] [.null, .null])) X217 hx rfl rfl rfl (pc0 := 145) (pc' := 148) (same := true) rfl (hb hby at_145) rfl (decide_eq_true rfl) (by decide) (by decide) k_) ?_
      show own_Goes p e below (T217.setTop (mkF m 148 #[.val (.int k), .val (.long p1), .second, .val (.long p2), .second, .val (.long p3), .second, .val (.int (2 : Int32)), .val (.int (1 : Int32)), .val .null, .val (.ref av194), .val (.ref av196), .val (.ref b199), .val (.ref mv212), .val (.ref b199)] [])) (G_own_law Z k p1 p2 p3 ac cl h0 n0 s)
      refine own_go (fun _ k_ => XS.aload X217.here hx rfl (hb hby at_148) rfl rfl k_) ?_
      show own_Goes p e below (T217.setTop (mkF m 150 #[.val (.int k), .val (.long p1), .second, .val (.long p2), .second, .val (.long p3), .second, .val (.int (2 : Int32)), .val (.int (1 : Int32)), .val .null, .val (.ref av194), .val (.ref av196), .val (.ref b199), .val (.ref mv212), .val (.ref b199)] [(.ref b199)])) (G_own_law Z k p1 p2 p3 ac cl h0 n0 s)
      refine own_go (fun _ k_ => XS.iconst X217.here hx rfl (hb hby at_150) k_) ?_
      show own_Goes p e below (T217.setTop (mkF m 151 #[.val (.int k), .val (.long p1), .second, .val (.long p2), .second, .val (.long p3), .second, .val (.int (2 : Int32)), .val (.int (1 : Int32)), .val .null, .val (.ref av194), .val (.ref av196), .val (.ref b199), .val (.ref mv212), .val (.ref b199)] [(.int (0 : Int32)), (.ref b199)])) (G_own_law Z k p1 p2 p3 ac cl h0 n0 s)
      obtain ⟨c220, Ar220, q220, s220, z220, H220, G220⟩ := id Av208_216
      have hin220 := inb_of s220 (j := (0 : Int32)) (by decide)
      have hat220 := H220.at hin220 (v := .null) rfl
      refine own_go (fun _ k_ => X217.aaload hx (j := (0 : Int32)) (v := .null) (by rw [e217]; exact Ar220.1) (State.isArrayOf_alike hZ.alike Ar220.2.1) rfl Ar220.2.2 hin220 hat220 (g := (mkF m 151 #[.val (.int k), .val (.long p1), .second, .val (.long p2), .second, .val (.long p3), .second, .val (.int (2 : Int32)), .val (.int (1 : Int32)), .val .null, .val (.ref av194), .val (.ref av196), .val (.ref b199), .val (.ref mv212), .val (.ref b199)] [(.int (0 : Int32)), (.ref b199)])) rfl rfl (hb hby at_151) _ k_) ?_
      show own_Goes p e below (T217.setTop (mkF m 152 #[.val (.int k), .val (.long p1), .second, .val (.long p2), .second, .val (.long p3), .second, .val (.int (2 : Int32)), .val (.int (1 : Int32)), .val .null, .val (.ref av194), .val (.ref av196), .val (.ref b199), .val (.ref mv212), .val (.ref b199)] [.null])) (G_own_law Z k p1 p2 p3 ac cl h0 n0 s)
      refine own_go (fun _ k_ => XS.aload X217.here hx rfl (hb hby at_152) rfl rfl k_) ?_
      show own_Goes p e below (T217.setTop (mkF m 154 #[.val (.int k), .val (.long p1), .second, .val (.long p2), .second, .val (.long p3), .second, .val (.int (2 : Int32)), .val (.int (1 : Int32)), .val .null, .val (.ref av194), .val (.ref av196), .val (.ref b199), .val (.ref mv212), .val (.ref b199)] [.null, .null])) (G_own_law Z k p1 p2 p3 ac cl h0 n0 s)
      refine own_go (fun _ k_ => Jvm.RoadKit.acmp (g := (mkF m 154 #[.val (.int k), .val (.long p1), .second, .val (.long p2), .second, .val (.long p3), .second, .val (.int (2 : Int32)), .val (.int (1 : Int32)), .val .null, .val (.ref av194), .val (.ref av196), .val (.ref b199), .val (.ref mv212), .val (.ref b199)] [.null, .null])) X217 hx rfl rfl rfl (pc0 := 154) (pc' := 159) (same := true) rfl (hb hby at_154) rfl (decide_eq_true rfl) (by decide) (by decide) k_) ?_
      show own_Goes p e below (T217.setTop (mkF m 159 #[.val (.int k), .val (.long p1), .second, .val (.long p2), .second, .val (.long p3), .second, .val (.int (2 : Int32)), .val (.int (1 : Int32)), .val .null, .val (.ref av194), .val (.ref av196), .val (.ref b199), .val (.ref mv212), .val (.ref b199)] [])) (G_own_law Z k p1 p2 p3 ac cl h0 n0 s)
      refine own_go (fun _ k_ => XS.iload X217.here hx rfl (hb hby at_159) rfl k_) ?_
      show own_Goes p e below (T217.setTop (mkF m 161 #[.val (.int k), .val (.long p1), .second, .val (.long p2), .second, .val (.long p3), .second, .val (.int (2 : Int32)), .val (.int (1 : Int32)), .val .null, .val (.ref av194), .val (.ref av196), .val (.ref b199), .val (.ref mv212), .val (.ref b199)] [(.int (2 : Int32))])) (G_own_law Z k p1 p2 p3 ac cl h0 n0 s)
      refine own_go (fun _ k_ => XS.iconst X217.here hx rfl (hb hby at_161) k_) ?_
      show own_Goes p e below (T217.setTop (mkF m 162 #[.val (.int k), .val (.long p1), .second, .val (.long p2), .second, .val (.long p3), .second, .val (.int (2 : Int32)), .val (.int (1 : Int32)), .val .null, .val (.ref av194), .val (.ref av196), .val (.ref b199), .val (.ref mv212), .val (.ref b199)] [(.int (1 : Int32)), (.int (2 : Int32))])) (G_own_law Z k p1 p2 p3 ac cl h0 n0 s)
      refine own_go (fun _ k_ => XS.icmpNo X217.here hx rfl (hb hby at_162) rfl (XT.ii_le_f (by decide)) k_) ?_
      show own_Goes p e below (T217.setTop (mkF m 165 #[.val (.int k), .val (.long p1), .second, .val (.long p2), .second, .val (.long p3), .second, .val (.int (2 : Int32)), .val (.int (1 : Int32)), .val .null, .val (.ref av194), .val (.ref av196), .val (.ref b199), .val (.ref mv212), .val (.ref b199)] [])) (G_own_law Z k p1 p2 p3 ac cl h0 n0 s)
      refine own_go (fun _ k_ => XS.aload X217.here hx rfl (hb hby at_165) rfl rfl k_) ?_
      show own_Goes p e below (T217.setTop (mkF m 167 #[.val (.int k), .val (.long p1), .second, .val (.long p2), .second, .val (.long p3), .second, .val (.int (2 : Int32)), .val (.int (1 : Int32)), .val .null, .val (.ref av194), .val (.ref av196), .val (.ref b199), .val (.ref mv212), .val (.ref b199)] [(.ref b199)])) (G_own_law Z k p1 p2 p3 ac cl h0 n0 s)
      refine own_go (fun _ k_ => XS.iconst X217.here hx rfl (hb hby at_167) k_) ?_
      show own_Goes p e below (T217.setTop (mkF m 168 #[.val (.int k), .val (.long p1), .second, .val (.long p2), .second, .val (.long p3), .second, .val (.int (2 : Int32)), .val (.int (1 : Int32)), .val .null, .val (.ref av194), .val (.ref av196), .val (.ref b199), .val (.ref mv212), .val (.ref b199)] [(.int (1 : Int32)), (.ref b199)])) (G_own_law Z k p1 p2 p3 ac cl h0 n0 s)
      obtain ⟨c221, Ar221, q221, s221, z221, H221, G221⟩ := id Av208_216
      have hin221 := inb_of s221 (j := (1 : Int32)) (by decide)
      have hat221 := H221.at hin221 (v := (.ref av194)) rfl
      refine own_go (fun _ k_ => X217.aaload hx (j := (1 : Int32)) (v := (.ref av194)) (by rw [e217]; exact Ar221.1) (State.isArrayOf_alike hZ.alike Ar221.2.1) rfl Ar221.2.2 hin221 hat221 (g := (mkF m 168 #[.val (.int k), .val (.long p1), .second, .val (.long p2), .second, .val (.long p3), .second, .val (.int (2 : Int32)), .val (.int (1 : Int32)), .val .null, .val (.ref av194), .val (.ref av196), .val (.ref b199), .val (.ref mv212), .val (.ref b199)] [(.int (1 : Int32)), (.ref b199)])) rfl rfl (hb hby at_168) _ k_) ?_
      show own_Goes p e below (T217.setTop (mkF m 169 #[.val (.int k), .val (.long p1), .second, .val (.long p2), .second, .val (.long p3), .second, .val (.int (2 : Int32)), .val (.int (1 : Int32)), .val .null, .val (.ref av194), .val (.ref av196), .val (.ref b199), .val (.ref mv212), .val (.ref b199)] [(.ref av194)])) (G_own_law Z k p1 p2 p3 ac cl h0 n0 s)
      refine own_go (fun _ k_ => XS.aload X217.here hx rfl (hb hby at_169) rfl rfl k_) ?_
      show own_Goes p e below (T217.setTop (mkF m 171 #[.val (.int k), .val (.long p1), .second, .val (.long p2), .second, .val (.long p3), .second, .val (.int (2 : Int32)), .val (.int (1 : Int32)), .val .null, .val (.ref av194), .val (.ref av196), .val (.ref b199), .val (.ref mv212), .val (.ref b199)] [(.ref av194), (.ref av194)])) (G_own_law Z k p1 p2 p3 ac cl h0 n0 s)
      refine own_go (fun _ k_ => Jvm.RoadKit.acmp (g := (mkF m 171 #[.val (.int k), .val (.long p1), .second, .val (.long p2), .second, .val (.long p3), .second, .val (.int (2 : Int32)), .val (.int (1 : Int32)), .val .null, .val (.ref av194), .val (.ref av196), .val (.ref b199), .val (.ref mv212), .val (.ref b199)] [(.ref av194), (.ref av194)])) X217 hx rfl rfl rfl (pc0 := 171) (pc' := 174) (same := true) rfl (hb hby at_171) rfl (decide_eq_true rfl) (by decide) (by decide) k_) ?_
      show own_Goes p e below (T217.setTop (mkF m 174 #[.val (.int k), .val (.long p1), .second, .val (.long p2), .second, .val (.long p3), .second, .val (.int (2 : Int32)), .val (.int (1 : Int32)), .val .null, .val (.ref av194), .val (.ref av196), .val (.ref b199), .val (.ref mv212), .val (.ref b199)] [])) (G_own_law Z k p1 p2 p3 ac cl h0 n0 s)
      refine own_go (fun _ k_ => XS.aload X217.here hx rfl (hb hby at_174) rfl rfl k_) ?_
      show own_Goes p e below (T217.setTop (mkF m 176 #[.val (.int k), .val (.long p1), .second, .val (.long p2), .second, .val (.long p3), .second, .val (.int (2 : Int32)), .val (.int (1 : Int32)), .val .null, .val (.ref av194), .val (.ref av196), .val (.ref b199), .val (.ref mv212), .val (.ref b199)] [(.ref b199)])) (G_own_law Z k p1 p2 p3 ac cl h0 n0 s)
      refine own_go (fun _ k_ => XS.iconst X217.here hx rfl (hb hby at_176) k_) ?_
      show own_Goes p e below (T217.setTop (mkF m 177 #[.val (.int k), .val (.long p1), .second, .val (.long p2), .second, .val (.long p3), .second, .val (.int (2 : Int32)), .val (.int (1 : Int32)), .val .null, .val (.ref av194), .val (.ref av196), .val (.ref b199), .val (.ref mv212), .val (.ref b199)] [(.int (1 : Int32)), (.ref b199)])) (G_own_law Z k p1 p2 p3 ac cl h0 n0 s)
      obtain ⟨c222, Ar222, q222, s222, z222, H222, G222⟩ := id Av208_216
      have hin222 := inb_of s222 (j := (1 : Int32)) (by decide)
      have hat222 := H222.at hin222 (v := (.ref av194)) rfl
      refine own_go (fun _ k_ => X217.aaload hx (j := (1 : Int32)) (v := (.ref av194)) (by rw [e217]; exact Ar222.1) (State.isArrayOf_alike hZ.alike Ar222.2.1) rfl Ar222.2.2 hin222 hat222 (g := (mkF m 177 #[.val (.int k), .val (.long p1), .second, .val (.long p2), .second, .val (.long p3), .second, .val (.int (2 : Int32)), .val (.int (1 : Int32)), .val .null, .val (.ref av194), .val (.ref av196), .val (.ref b199), .val (.ref mv212), .val (.ref b199)] [(.int (1 : Int32)), (.ref b199)])) rfl rfl (hb hby at_177) _ k_) ?_
      show own_Goes p e below (T217.setTop (mkF m 178 #[.val (.int k), .val (.long p1), .second, .val (.long p2), .second, .val (.long p3), .second, .val (.int (2 : Int32)), .val (.int (1 : Int32)), .val .null, .val (.ref av194), .val (.ref av196), .val (.ref b199), .val (.ref mv212), .val (.ref b199)] [(.ref av194)])) (G_own_law Z k p1 p2 p3 ac cl h0 n0 s)
      refine own_go (fun _ k_ => XS.aload X217.here hx rfl (hb hby at_178) rfl rfl k_) ?_
      show own_Goes p e below (T217.setTop (mkF m 180 #[.val (.int k), .val (.long p1), .second, .val (.long p2), .second, .val (.long p3), .second, .val (.int (2 : Int32)), .val (.int (1 : Int32)), .val .null, .val (.ref av194), .val (.ref av196), .val (.ref b199), .val (.ref mv212), .val (.ref b199)] [(.ref av194), (.ref av194)])) (G_own_law Z k p1 p2 p3 ac cl h0 n0 s)
      refine own_go (fun _ k_ => Jvm.RoadKit.acmp (g := (mkF m 180 #[.val (.int k), .val (.long p1), .second, .val (.long p2), .second, .val (.long p3), .second, .val (.int (2 : Int32)), .val (.int (1 : Int32)), .val .null, .val (.ref av194), .val (.ref av196), .val (.ref b199), .val (.ref mv212), .val (.ref b199)] [(.ref av194), (.ref av194)])) X217 hx rfl rfl rfl (pc0 := 180) (pc' := 185) (same := true) rfl (hb hby at_180) rfl (decide_eq_true rfl) (by decide) (by decide) k_) ?_
      show own_Goes p e below (T217.setTop (mkF m 185 #[.val (.int k), .val (.long p1), .second, .val (.long p2), .second, .val (.long p3), .second, .val (.int (2 : Int32)), .val (.int (1 : Int32)), .val .null, .val (.ref av194), .val (.ref av196), .val (.ref b199), .val (.ref mv212), .val (.ref b199)] [])) (G_own_law Z k p1 p2 p3 ac cl h0 n0 s)
      refine own_go (fun _ k_ => XS.iload X217.here hx rfl (hb hby at_185) rfl k_) ?_
      show own_Goes p e below (T217.setTop (mkF m 187 #[.val (.int k), .val (.long p1), .second, .val (.long p2), .second, .val (.long p3), .second, .val (.int (2 : Int32)), .val (.int (1 : Int32)), .val .null, .val (.ref av194), .val (.ref av196), .val (.ref b199), .val (.ref mv212), .val (.ref b199)] [(.int (2 : Int32))])) (G_own_law Z k p1 p2 p3 ac cl h0 n0 s)
      refine own_go (fun _ k_ => XS.iconst X217.here hx rfl (hb hby at_187) k_) ?_
      show own_Goes p e below (T217.setTop (mkF m 188 #[.val (.int k), .val (.long p1), .second, .val (.long p2), .second, .val (.long p3), .second, .val (.int (2 : Int32)), .val (.int (1 : Int32)), .val .null, .val (.ref av194), .val (.ref av196), .val (.ref b199), .val (.ref mv212), .val (.ref b199)] [(.int (2 : Int32)), (.int (2 : Int32))])) (G_own_law Z k p1 p2 p3 ac cl h0 n0 s)
      refine own_go (fun _ k_ => XS.icmpYes X217.here hx rfl (pc0 := 188) (pc' := 211) rfl (hb hby at_188) rfl (XT.ii_le_t Int32.lt_irrefl) (by decide) (by decide) k_) ?_
      show own_Goes p e below (T217.setTop (mkF m 211 #[.val (.int k), .val (.long p1), .second, .val (.long p2), .second, .val (.long p3), .second, .val (.int (2 : Int32)), .val (.int (1 : Int32)), .val .null, .val (.ref av194), .val (.ref av196), .val (.ref b199), .val (.ref mv212), .val (.ref b199)] [])) (G_own_law Z k p1 p2 p3 ac cl h0 n0 s)
      refine own_go (fun _ k_ => XS.iconst X217.here hx rfl (hb hby at_211) k_) ?_
      show own_Goes p e below (T217.setTop (mkF m 212 #[.val (.int k), .val (.long p1), .second, .val (.long p2), .second, .val (.long p3), .second, .val (.int (2 : Int32)), .val (.int (1 : Int32)), .val .null, .val (.ref av194), .val (.ref av196), .val (.ref b199), .val (.ref mv212), .val (.ref b199)] [(.int (1 : Int32))])) (G_own_law Z k p1 p2 p3 ac cl h0 n0 s)
      obtain ⟨fs, hr, hrun, hended, hW, hsame⟩ := X217.leave (v := some (.int (1 : Int32))) (fun h => by rw [Bd.returns] at h; cases h) Bd.notSynchronized
      refine ⟨_, _, retN X217 hx (t := .boolean) Bd.returns (by simp) (hb hby at_212) hr, hrun, hended, _, _, rfl, ?_, ⟨_, rfl⟩, hW, hsame.mono (by decide) (by decide)⟩
      show Q_own_law Z k p1 p2 p3 ac cl h0 n0 _ T217.heap _
      rw [e217]
      exact ⟨rfl, N217⟩
  · show own_Goes p e below (s₁.setTop (mkF m 5 #[.val (.int k), .val (.long p1), .second, .val (.long p2), .second, .val (.long p3), .second, .val (.int (3 : Int32)), .unset, .unset, .unset, .unset, .unset, .unset, .unset] [])) (G_own_law Z k p1 p2 p3 ac cl h0 n0 s)
    refine own_go (fun _ k_ => XS.iloadN X0.here hx rfl (hb hby at_5) rfl k_) ?_
    show own_Goes p e below (s₁.setTop (mkF m 6 #[.val (.int k), .val (.long p1), .second, .val (.long p2), .second, .val (.long p3), .second, .val (.int (3 : Int32)), .unset, .unset, .unset, .unset, .unset, .unset, .unset] [(.int k)])) (G_own_law Z k p1 p2 p3 ac cl h0 n0 s)
    refine own_go (fun _ k_ => XS.iconst X0.here hx rfl (hb hby at_6) k_) ?_
    show own_Goes p e below (s₁.setTop (mkF m 7 #[.val (.int k), .val (.long p1), .second, .val (.long p2), .second, .val (.long p3), .second, .val (.int (3 : Int32)), .unset, .unset, .unset, .unset, .unset, .unset, .unset] [(.int (2 : Int32)), (.int k)])) (G_own_law Z k p1 p2 p3 ac cl h0 n0 s)
    refine own_go (fun _ k_ => XS.ishr X0.here hx rfl (hb hby at_7) rfl k_) ?_
    show own_Goes p e below (s₁.setTop (mkF m 8 #[.val (.int k), .val (.long p1), .second, .val (.long p2), .second, .val (.long p3), .second, .val (.int (3 : Int32)), .unset, .unset, .unset, .unset, .unset, .unset, .unset] [(.int (k >>> ((2 : Int32) &&& 31)))])) (G_own_law Z k p1 p2 p3 ac cl h0 n0 s)
    refine own_go (fun _ k_ => XS.iconst X0.here hx rfl (hb hby at_8) k_) ?_
    show own_Goes p e below (s₁.setTop (mkF m 9 #[.val (.int k), .val (.long p1), .second, .val (.long p2), .second, .val (.long p3), .second, .val (.int (3 : Int32)), .unset, .unset, .unset, .unset, .unset, .unset, .unset] [(.int (1 : Int32)), (.int (k >>> ((2 : Int32) &&& 31)))])) (G_own_law Z k p1 p2 p3 ac cl h0 n0 s)
    refine own_go (fun _ k_ => XS.iand X0.here hx rfl (hb hby at_9) rfl k_) ?_
    show own_Goes p e below (s₁.setTop (mkF m 10 #[.val (.int k), .val (.long p1), .second, .val (.long p2), .second, .val (.long p3), .second, .val (.int (3 : Int32)), .unset, .unset, .unset, .unset, .unset, .unset, .unset] [(.int ((k >>> ((2 : Int32) &&& 31)) &&& (1 : Int32)))])) (G_own_law Z k p1 p2 p3 ac cl h0 n0 s)
    by_cases hc10_223 : ((k >>> ((2 : Int32) &&& 31)) &&& (1 : Int32)) = (0 : Int32)
    · refine own_go (fun _ k_ => XS.ifYes X0.here hx rfl (pc0 := 10) (pc' := 17) rfl (hb hby at_10) rfl (XT.i0_eq_t hc10_223) (by decide) (by decide) k_) ?_
      show own_Goes p e below (s₁.setTop (mkF m 17 #[.val (.int k), .val (.long p1), .second, .val (.long p2), .second, .val (.long p3), .second, .val (.int (3 : Int32)), .unset, .unset, .unset, .unset, .unset, .unset, .unset] [])) (G_own_law Z k p1 p2 p3 ac cl h0 n0 s)
      refine own_go (fun _ k_ => XS.iconst X0.here hx rfl (hb hby at_17) k_) ?_
      show own_Goes p e below (s₁.setTop (mkF m 18 #[.val (.int k), .val (.long p1), .second, .val (.long p2), .second, .val (.long p3), .second, .val (.int (3 : Int32)), .unset, .unset, .unset, .unset, .unset, .unset, .unset] [(.int (0 : Int32))])) (G_own_law Z k p1 p2 p3 ac cl h0 n0 s)
      refine own_go (fun _ k_ => XS.istore X0.here hx rfl (hb hby at_18) rfl (l' := #[.val (.int k), .val (.long p1), .second, .val (.long p2), .second, .val (.long p3), .second, .val (.int (3 : Int32)), .val (.int (0 : Int32)), .unset, .unset, .unset, .unset, .unset, .unset]) rfl k_) ?_
      show own_Goes p e below (s₁.setTop (mkF m 20 #[.val (.int k), .val (.long p1), .second, .val (.long p2), .second, .val (.long p3), .second, .val (.int (3 : Int32)), .val (.int (0 : Int32)), .unset, .unset, .unset, .unset, .unset, .unset] [])) (G_own_law Z k p1 p2 p3 ac cl h0 n0 s)
      refine own_go (fun _ k_ => XS.iload X0.here hx rfl (hb hby at_20) rfl k_) ?_
      show own_Goes p e below (s₁.setTop (mkF m 22 #[.val (.int k), .val (.long p1), .second, .val (.long p2), .second, .val (.long p3), .second, .val (.int (3 : Int32)), .val (.int (0 : Int32)), .unset, .unset, .unset, .unset, .unset, .unset] [(.int (0 : Int32))])) (G_own_law Z k p1 p2 p3 ac cl h0 n0 s)
      refine own_go (fun _ k_ => XS.ifYes X0.here hx rfl (pc0 := 22) (pc' := 29) rfl (hb hby at_22) rfl (XT.i0_eq_t (rfl : (0 : Int32) = (0 : Int32))) (by decide) (by decide) k_) ?_
      show own_Goes p e below (s₁.setTop (mkF m 29 #[.val (.int k), .val (.long p1), .second, .val (.long p2), .second, .val (.long p3), .second, .val (.int (3 : Int32)), .val (.int (0 : Int32)), .unset, .unset, .unset, .unset, .unset, .unset] [])) (G_own_law Z k p1 p2 p3 ac cl h0 n0 s)
      refine own_go (fun _ k_ => XS.lloadN X0.here hx rfl (hb hby at_29) rfl k_) ?_
      show own_Goes p e below (s₁.setTop (mkF m 30 #[.val (.int k), .val (.long p1), .second, .val (.long p2), .second, .val (.long p3), .second, .val (.int (3 : Int32)), .val (.int (0 : Int32)), .unset, .unset, .unset, .unset, .unset, .unset] [(.long p1)])) (G_own_law Z k p1 p2 p3 ac cl h0 n0 s)
      obtain ⟨_, _, ⟨T224, L224, k224, n224⟩, -, X224, ⟨Lc224, hQ224, l224, y224, z224⟩, st224⟩ := Jvm.LawKit.callS X0 hx (y := (⟨"java/lang/Long", "valueOf", "(J)Ljava/lang/Long;"⟩ : MethodName)) hown (mvT hZ (hw _ (List.mem_of_getElem? (i := 0) rfl))) (mvT hZ (hw _ (List.mem_of_getElem? (i := 1) rfl))) (mvT hZ (hw _ (List.mem_of_getElem? (i := 2) rfl))) (mvT hZ (hw _ (List.mem_of_getElem? (i := 3) rfl))) (by decide) (backOf (W := 0) (own_voM l Z a0 hw [] p1 ac cl h0 n0 Z0 O0 S0 A0 hsz hel) hZ (hw _ (List.mem_of_getElem? (i := 3) rfl)) (hw _ (List.mem_of_getElem? (i := 2) rfl)) (by decide) (by decide)) (g := (mkF m 30 #[.val (.int k), .val (.long p1), .second, .val (.long p2), .second, .val (.long p3), .second, .val (.int (3 : Int32)), .val (.int (0 : Int32)), .unset, .unset, .unset, .unset, .unset, .unset] [(.long p1)])) rfl (by rw [hml]; rfl) (argsL := [(.long p1)]) (rest := []) (lenOf own_pd3 rfl) rfl (by show 2 * 0 + _ ≤ _; exact Nat.le_of_eq rfl) (hb hby at_30) (fun _ _ => ⟨rfl, e0, (by decide : 0 + 1 ≤ _), (by decide : 0 + 1 ≤ _)⟩)
      dsimp only [Pt.U, Pt.locs, Pt.cells, Pt.slots] at X224 l224 y224 z224 st224 hQ224
      subst l224 y224 z224
      obtain ⟨⟨av224, rfl, Ev224⟩, N224q, Kq224⟩ := hQ224
      have N224 := Fr.app N0 N224q
      have O0_225 := O0.keep Kq224 all0
      have Z224 : n0 ≤ T224.heap.size := Nat.le_trans Z0 Kq224.1
      refine own_go st224 ?_
      show own_Goes p e below (T224.setTop (mkF m 33 #[.val (.int k), .val (.long p1), .second, .val (.long p2), .second, .val (.long p3), .second, .val (.int (3 : Int32)), .val (.int (0 : Int32)), .unset, .unset, .unset, .unset, .unset, .unset] [(.ref av224)])) (G_own_law Z k p1 p2 p3 ac cl h0 n0 s)
      refine own_go (fun _ k_ => XS.astore X224.here hx rfl (hb hby at_33) rfl rfl (l' := #[.val (.int k), .val (.long p1), .second, .val (.long p2), .second, .val (.long p3), .second, .val (.int (3 : Int32)), .val (.int (0 : Int32)), .val (.ref av224), .unset, .unset, .unset, .unset, .unset]) rfl k_) ?_
      show own_Goes p e below (T224.setTop (mkF m 35 #[.val (.int k), .val (.long p1), .second, .val (.long p2), .second, .val (.long p3), .second, .val (.int (3 : Int32)), .val (.int (0 : Int32)), .val (.ref av224), .unset, .unset, .unset, .unset, .unset] [])) (G_own_law Z k p1 p2 p3 ac cl h0 n0 s)
      refine own_go (fun _ k_ => XS.lloadN X224.here hx rfl (hb hby at_35) rfl k_) ?_
      show own_Goes p e below (T224.setTop (mkF m 36 #[.val (.int k), .val (.long p1), .second, .val (.long p2), .second, .val (.long p3), .second, .val (.int (3 : Int32)), .val (.int (0 : Int32)), .val (.ref av224), .unset, .unset, .unset, .unset, .unset] [(.long p2)])) (G_own_law Z k p1 p2 p3 ac cl h0 n0 s)
      obtain ⟨_, _, ⟨T226, L226, k226, n226⟩, -, X226, ⟨Lc226, hQ226, l226, y226, z226⟩, st226⟩ := Jvm.LawKit.callS X224 hx (y := (⟨"java/lang/Long", "valueOf", "(J)Ljava/lang/Long;"⟩ : MethodName)) hown (mvT hZ (hw _ (List.mem_of_getElem? (i := 0) rfl))) (mvT hZ (hw _ (List.mem_of_getElem? (i := 1) rfl))) (mvT hZ (hw _ (List.mem_of_getElem? (i := 2) rfl))) (mvT hZ (hw _ (List.mem_of_getElem? (i := 3) rfl))) (by decide) (backOf (W := 0) (own_voM l Z a0 hw [] p2 ac cl T224.heap n0 Z224 O0_225 S0 A0 hsz hel) hZ (hw _ (List.mem_of_getElem? (i := 3) rfl)) (hw _ (List.mem_of_getElem? (i := 2) rfl)) (by decide) (by decide)) (g := (mkF m 36 #[.val (.int k), .val (.long p1), .second, .val (.long p2), .second, .val (.long p3), .second, .val (.int (3 : Int32)), .val (.int (0 : Int32)), .val (.ref av224), .unset, .unset, .unset, .unset, .unset] [(.long p2)])) rfl (by rw [hml]; rfl) (argsL := [(.long p2)]) (rest := []) (lenOf own_pd3 rfl) rfl (by show 2 * 0 + _ ≤ _; exact Nat.le_of_eq rfl) (hb hby at_36) (fun _ _ => ⟨rfl, rfl, (by decide : 1 + 1 ≤ _), (by decide : 1 + 1 ≤ _)⟩)
      dsimp only [Pt.U, Pt.locs, Pt.cells, Pt.slots] at X226 l226 y226 z226 st226 hQ226
      subst l226 y226 z226
      obtain ⟨⟨av226, rfl, Ev226⟩, N226q, Kq226⟩ := hQ226
      have N226 := Fr.app N224 N226q
      have O0_227 := O0_225.keep Kq226 all0
      have Ev224_228 := Ev224.keep Kq226
      have Z226 : n0 ≤ T226.heap.size := Nat.le_trans Z224 Kq226.1
      refine own_go st226 ?_
      show own_Goes p e below (T226.setTop (mkF m 39 #[.val (.int k), .val (.long p1), .second, .val (.long p2), .second, .val (.long p3), .second, .val (.int (3 : Int32)), .val (.int (0 : Int32)), .val (.ref av224), .unset, .unset, .unset, .unset, .unset] [(.ref av226)])) (G_own_law Z k p1 p2 p3 ac cl h0 n0 s)
      refine own_go (fun _ k_ => XS.astore X226.here hx rfl (hb hby at_39) rfl rfl (l' := #[.val (.int k), .val (.long p1), .second, .val (.long p2), .second, .val (.long p3), .second, .val (.int (3 : Int32)), .val (.int (0 : Int32)), .val (.ref av224), .val (.ref av226), .unset, .unset, .unset, .unset]) rfl k_) ?_
      show own_Goes p e below (T226.setTop (mkF m 41 #[.val (.int k), .val (.long p1), .second, .val (.long p2), .second, .val (.long p3), .second, .val (.int (3 : Int32)), .val (.int (0 : Int32)), .val (.ref av224), .val (.ref av226), .unset, .unset, .unset, .unset] [])) (G_own_law Z k p1 p2 p3 ac cl h0 n0 s)
      refine own_go (fun _ k_ => XS.lload X226.here hx rfl (hb hby at_41) rfl k_) ?_
      show own_Goes p e below (T226.setTop (mkF m 43 #[.val (.int k), .val (.long p1), .second, .val (.long p2), .second, .val (.long p3), .second, .val (.int (3 : Int32)), .val (.int (0 : Int32)), .val (.ref av224), .val (.ref av226), .unset, .unset, .unset, .unset] [(.long p3)])) (G_own_law Z k p1 p2 p3 ac cl h0 n0 s)
      obtain ⟨_, _, ⟨T229, L229, k229, n229⟩, -, X229, ⟨Lc229, hQ229, l229, y229, z229⟩, st229⟩ := Jvm.LawKit.callS X226 hx (y := (⟨"java/lang/Long", "valueOf", "(J)Ljava/lang/Long;"⟩ : MethodName)) hown (mvT hZ (hw _ (List.mem_of_getElem? (i := 0) rfl))) (mvT hZ (hw _ (List.mem_of_getElem? (i := 1) rfl))) (mvT hZ (hw _ (List.mem_of_getElem? (i := 2) rfl))) (mvT hZ (hw _ (List.mem_of_getElem? (i := 3) rfl))) (by decide) (backOf (W := 0) (own_voM l Z a0 hw [] p3 ac cl T226.heap n0 Z226 O0_227 S0 A0 hsz hel) hZ (hw _ (List.mem_of_getElem? (i := 3) rfl)) (hw _ (List.mem_of_getElem? (i := 2) rfl)) (by decide) (by decide)) (g := (mkF m 43 #[.val (.int k), .val (.long p1), .second, .val (.long p2), .second, .val (.long p3), .second, .val (.int (3 : Int32)), .val (.int (0 : Int32)), .val (.ref av224), .val (.ref av226), .unset, .unset, .unset, .unset] [(.long p3)])) rfl (by rw [hml]; rfl) (argsL := [(.long p3)]) (rest := []) (lenOf own_pd3 rfl) rfl (by show 2 * 0 + _ ≤ _; exact Nat.le_of_eq rfl) (hb hby at_43) (fun _ _ => ⟨rfl, rfl, (by decide : 2 + 1 ≤ _), (by decide : 2 + 1 ≤ _)⟩)
      dsimp only [Pt.U, Pt.locs, Pt.cells, Pt.slots] at X229 l229 y229 z229 st229 hQ229
      subst l229 y229 z229
      obtain ⟨⟨av229, rfl, Ev229⟩, N229q, Kq229⟩ := hQ229
      have N229 := Fr.app N226 N229q
      have O0_230 := O0_227.keep Kq229 all0
      have Ev224_231 := Ev224_228.keep Kq229
      have Ev226_232 := Ev226.keep Kq229
      have Z229 : n0 ≤ T229.heap.size := Nat.le_trans Z226 Kq229.1
      refine own_go st229 ?_
      show own_Goes p e below (T229.setTop (mkF m 46 #[.val (.int k), .val (.long p1), .second, .val (.long p2), .second, .val (.long p3), .second, .val (.int (3 : Int32)), .val (.int (0 : Int32)), .val (.ref av224), .val (.ref av226), .unset, .unset, .unset, .unset] [(.ref av229)])) (G_own_law Z k p1 p2 p3 ac cl h0 n0 s)
      refine own_go (fun _ k_ => XS.astore X229.here hx rfl (hb hby at_46) rfl rfl (l' := #[.val (.int k), .val (.long p1), .second, .val (.long p2), .second, .val (.long p3), .second, .val (.int (3 : Int32)), .val (.int (0 : Int32)), .val (.ref av224), .val (.ref av226), .val (.ref av229), .unset, .unset, .unset]) rfl k_) ?_
      show own_Goes p e below (T229.setTop (mkF m 48 #[.val (.int k), .val (.long p1), .second, .val (.long p2), .second, .val (.long p3), .second, .val (.int (3 : Int32)), .val (.int (0 : Int32)), .val (.ref av224), .val (.ref av226), .val (.ref av229), .unset, .unset, .unset] [])) (G_own_law Z k p1 p2 p3 ac cl h0 n0 s)
      refine own_go (fun _ k_ => XS.iload X229.here hx rfl (hb hby at_48) rfl k_) ?_
      show own_Goes p e below (T229.setTop (mkF m 50 #[.val (.int k), .val (.long p1), .second, .val (.long p2), .second, .val (.long p3), .second, .val (.int (3 : Int32)), .val (.int (0 : Int32)), .val (.ref av224), .val (.ref av226), .val (.ref av229), .unset, .unset, .unset] [(.int (3 : Int32))])) (G_own_law Z k p1 p2 p3 ac cl h0 n0 s)
      obtain ⟨T233, h233, cA233, X233, e233, E233, A233, O233, st233⟩ := newR X229 hx hZ hown (hw _ (List.mem_of_getElem? (i := 25) rfl)) (hw _ (List.mem_of_getElem? (i := 26) rfl)) rfl (g := (mkF m 50 #[.val (.int k), .val (.long p1), .second, .val (.long p2), .second, .val (.long p3), .second, .val (.int (3 : Int32)), .val (.int (0 : Int32)), .val (.ref av224), .val (.ref av226), .val (.ref av229), .unset, .unset, .unset] [(.int (3 : Int32))])) rfl (hb hby at_50) rfl (by decide) (cap := 3) (by decide) (by decide) (by decide) (by decide)
      obtain ⟨b233, g233⟩ : ∃ z, z = T229.heap.size := ⟨_, rfl⟩
      rw [← g233] at A233 st233
      have ne_av224_b233 : av224 ≠ b233 := by rw [g233]; exact Nat.ne_of_lt Ev224_231.lt
      have ne_av226_b233 : av226 ≠ b233 := by rw [g233]; exact Nat.ne_of_lt Ev226_232.lt
      have ne_av229_b233 : av229 ≠ b233 := by rw [g233]; exact Nat.ne_of_lt Ev229.lt
      have O0_235 := O0_230.ext E233
      have Ev224_236 := Ev224_231.ext E233
      have Ev226_237 := Ev226_232.ext E233
      have Ev229_238 := Ev229.ext E233
      have g_b233 : n0 ≤ b233 := by rw [g233]; exact Z229
      have Z233 : n0 ≤ h233.size := Nat.le_trans Z229 E233.1
      have Av233 : Arv Z h233 b233 cA233 (.object "java/lang/Object") (3 : Int32) [] .null := Arv.new A233 (by decide)
      have Aw233 : Arv Z h233 b233 cA233 (.object "java/lang/Object") (3 : Int32) [.null, .null, .null] (.null) := Av233.pad (pad_rep [] _ 3)
      refine own_go st233 ?_
      show own_Goes p e below (T233.setTop (mkF m 53 #[.val (.int k), .val (.long p1), .second, .val (.long p2), .second, .val (.long p3), .second, .val (.int (3 : Int32)), .val (.int (0 : Int32)), .val (.ref av224), .val (.ref av226), .val (.ref av229), .unset, .unset, .unset] [(.ref b233)])) (G_own_law Z k p1 p2 p3 ac cl h0 n0 s)
      refine own_go (fun _ k_ => XS.astore X233.here hx rfl (hb hby at_53) rfl rfl (l' := #[.val (.int k), .val (.long p1), .second, .val (.long p2), .second, .val (.long p3), .second, .val (.int (3 : Int32)), .val (.int (0 : Int32)), .val (.ref av224), .val (.ref av226), .val (.ref av229), .val (.ref b233), .unset, .unset]) rfl k_) ?_
      show own_Goes p e below (T233.setTop (mkF m 55 #[.val (.int k), .val (.long p1), .second, .val (.long p2), .second, .val (.long p3), .second, .val (.int (3 : Int32)), .val (.int (0 : Int32)), .val (.ref av224), .val (.ref av226), .val (.ref av229), .val (.ref b233), .unset, .unset] [])) (G_own_law Z k p1 p2 p3 ac cl h0 n0 s)
      refine own_go (fun _ k_ => XS.iload X233.here hx rfl (hb hby at_55) rfl k_) ?_
      show own_Goes p e below (T233.setTop (mkF m 57 #[.val (.int k), .val (.long p1), .second, .val (.long p2), .second, .val (.long p3), .second, .val (.int (3 : Int32)), .val (.int (0 : Int32)), .val (.ref av224), .val (.ref av226), .val (.ref av229), .val (.ref b233), .unset, .unset] [(.int (3 : Int32))])) (G_own_law Z k p1 p2 p3 ac cl h0 n0 s)
      refine own_go (fun _ k_ => XS.ifNo X233.here hx rfl (hb hby at_57) rfl (XT.i0_le_f (by decide)) k_) ?_
      show own_Goes p e below (T233.setTop (mkF m 60 #[.val (.int k), .val (.long p1), .second, .val (.long p2), .second, .val (.long p3), .second, .val (.int (3 : Int32)), .val (.int (0 : Int32)), .val (.ref av224), .val (.ref av226), .val (.ref av229), .val (.ref b233), .unset, .unset] [])) (G_own_law Z k p1 p2 p3 ac cl h0 n0 s)
      refine own_go (fun _ k_ => XS.aload X233.here hx rfl (hb hby at_60) rfl rfl k_) ?_
      show own_Goes p e below (T233.setTop (mkF m 62 #[.val (.int k), .val (.long p1), .second, .val (.long p2), .second, .val (.long p3), .second, .val (.int (3 : Int32)), .val (.int (0 : Int32)), .val (.ref av224), .val (.ref av226), .val (.ref av229), .val (.ref b233), .unset, .unset] [(.ref b233)])) (G_own_law Z k p1 p2 p3 ac cl h0 n0 s)
      refine own_go (fun _ k_ => XS.iconst X233.here hx rfl (hb hby at_62) k_) ?_
      show own_Goes p e below (T233.setTop (mkF m 63 #[.val (.int k), .val (.long p1), .second, .val (.long p2), .second, .val (.long p3), .second, .val (.int (3 : Int32)), .val (.int (0 : Int32)), .val (.ref av224), .val (.ref av226), .val (.ref av229), .val (.ref b233), .unset, .unset] [(.int (0 : Int32)), (.ref b233)])) (G_own_law Z k p1 p2 p3 ac cl h0 n0 s)
      refine own_go (fun _ k_ => XS.aload X233.here hx rfl (hb hby at_63) rfl rfl k_) ?_
      show own_Goes p e below (T233.setTop (mkF m 65 #[.val (.int k), .val (.long p1), .second, .val (.long p2), .second, .val (.long p3), .second, .val (.int (3 : Int32)), .val (.int (0 : Int32)), .val (.ref av224), .val (.ref av226), .val (.ref av229), .val (.ref b233), .unset, .unset] [(.ref av224), (.int (0 : Int32)), (.ref b233)])) (G_own_law Z k p1 p2 p3 ac cl h0 n0 s)
      obtain ⟨c239, Ar239, q239, s239, z239, H239, G239⟩ := id Aw233
      have hin239 := inb_of s239 (j := (0 : Int32)) (by decide)
      obtain ⟨T239, h239, X239, e239, W239, st239⟩ := stR X233 hx hZ e233 Ar239 hin239 rfl (Sto.ofV Ar239 q239 O233 (Ins.of_exa Ev224_236 (hw _ (List.mem_of_getElem? (i := 43) rfl)))) (g := (mkF m 65 #[.val (.int k), .val (.long p1), .second, .val (.long p2), .second, .val (.long p3), .second, .val (.int (3 : Int32)), .val (.int (0 : Int32)), .val (.ref av224), .val (.ref av226), .val (.ref av229), .val (.ref b233), .unset, .unset] [(.ref av224), (.int (0 : Int32)), (.ref b233)])) rfl rfl (hb hby at_65)
      have O0_240 := O0_235.wr W239 g_b233
      have Ev224_241 := Ev224_236.wr W239
      have Ev226_242 := Ev226_237.wr W239
      have Ev229_243 := Ev229_238.wr W239
      have Av239 : Arv Z h239 b233 cA233 (.object "java/lang/Object") (3 : Int32) [(.ref av224), .null, .null] (.null) := Arv.set Ar239 q239 s239 z239 H239 G239 (v := (.ref av224)) rfl W239 0 rfl (by first | decide | simp)
      have N239 := Fr.snoc X239 N229 g_b233
      have Z239 : n0 ≤ h239.size := by rw [W239.size]; exact Z233
      refine own_go st239 ?_
      show own_Goes p e below (T239.setTop (mkF m 66 #[.val (.int k), .val (.long p1), .second, .val (.long p2), .second, .val (.long p3), .second, .val (.int (3 : Int32)), .val (.int (0 : Int32)), .val (.ref av224), .val (.ref av226), .val (.ref av229), .val (.ref b233), .unset, .unset] [])) (G_own_law Z k p1 p2 p3 ac cl h0 n0 s)
      refine own_go (fun _ k_ => XS.iload X239.here hx rfl (hb hby at_66) rfl k_) ?_
      show own_Goes p e below (T239.setTop (mkF m 68 #[.val (.int k), .val (.long p1), .second, .val (.long p2), .second, .val (.long p3), .second, .val (.int (3 : Int32)), .val (.int (0 : Int32)), .val (.ref av224), .val (.ref av226), .val (.ref av229), .val (.ref b233), .unset, .unset] [(.int (3 : Int32))])) (G_own_law Z k p1 p2 p3 ac cl h0 n0 s)
      refine own_go (fun _ k_ => XS.iconst X239.here hx rfl (hb hby at_68) k_) ?_
      show own_Goes p e below (T239.setTop (mkF m 69 #[.val (.int k), .val (.long p1), .second, .val (.long p2), .second, .val (.long p3), .second, .val (.int (3 : Int32)), .val (.int (0 : Int32)), .val (.ref av224), .val (.ref av226), .val (.ref av229), .val (.ref b233), .unset, .unset] [(.int (1 : Int32)), (.int (3 : Int32))])) (G_own_law Z k p1 p2 p3 ac cl h0 n0 s)
      refine own_go (fun _ k_ => XS.icmpNo X239.here hx rfl (hb hby at_69) rfl (XT.ii_le_f (by decide)) k_) ?_
      show own_Goes p e below (T239.setTop (mkF m 72 #[.val (.int k), .val (.long p1), .second, .val (.long p2), .second, .val (.long p3), .second, .val (.int (3 : Int32)), .val (.int (0 : Int32)), .val (.ref av224), .val (.ref av226), .val (.ref av229), .val (.ref b233), .unset, .unset] [])) (G_own_law Z k p1 p2 p3 ac cl h0 n0 s)
      refine own_go (fun _ k_ => XS.aload X239.here hx rfl (hb hby at_72) rfl rfl k_) ?_
      show own_Goes p e below (T239.setTop (mkF m 74 #[.val (.int k), .val (.long p1), .second, .val (.long p2), .second, .val (.long p3), .second, .val (.int (3 : Int32)), .val (.int (0 : Int32)), .val (.ref av224), .val (.ref av226), .val (.ref av229), .val (.ref b233), .unset, .unset] [(.ref b233)])) (G_own_law Z k p1 p2 p3 ac cl h0 n0 s)
      refine own_go (fun _ k_ => XS.iconst X239.here hx rfl (hb hby at_74) k_) ?_
      show own_Goes p e below (T239.setTop (mkF m 75 #[.val (.int k), .val (.long p1), .second, .val (.long p2), .second, .val (.long p3), .second, .val (.int (3 : Int32)), .val (.int (0 : Int32)), .val (.ref av224), .val (.ref av226), .val (.ref av229), .val (.ref b233), .unset, .unset] [(.int (1 : Int32)), (.ref b233)])) (G_own_law Z k p1 p2 p3 ac cl h0 n0 s)
      refine own_go (fun _ k_ => XS.aload X239.here hx rfl (hb hby at_75) rfl rfl k_) ?_
      show own_Goes p e below (T239.setTop (mkF m 77 #[.val (.int k), .val (.long p1), .second, .val (.long p2), .second, .val (.long p3), .second, .val (.int (3 : Int32)), .val (.int (0 : Int32)), .val (.ref av224), .val (.ref av226), .val (.ref av229), .val (.ref b233), .unset, .unset] [(.ref av226), (.int (1 : Int32)), (.ref b233)])) (G_own_law Z k p1 p2 p3 ac cl h0 n0 s)
      obtain ⟨c244, Ar244, q244, s244, z244, H244, G244⟩ := id Av239
      have hin244 := inb_of s244 (j := (1 : Int32)) (by decide)
      obtain ⟨T244, h244, X244, e244, W244, st244⟩ := stR X239 hx hZ e239 Ar244 hin244 rfl (Sto.ofV Ar244 q244 O233 (Ins.of_exa Ev226_242 (hw _ (List.mem_of_getElem? (i := 43) rfl)))) (g := (mkF m 77 #[.val (.int k), .val (.long p1), .second, .val (.long p2), .second, .val (.long p3), .second, .val (.int (3 : Int32)), .val (.int (0 : Int32)), .val (.ref av224), .val (.ref av226), .val (.ref av229), .val (.ref b233), .unset, .unset] [(.ref av226), (.int (1 : Int32)), (.ref b233)])) rfl rfl (hb hby at_77)
      have O0_245 := O0_240.wr W244 g_b233
      have Ev224_246 := Ev224_241.wr W244
      have Ev226_247 := Ev226_242.wr W244
      have Ev229_248 := Ev229_243.wr W244
      have Av244 : Arv Z h244 b233 cA233 (.object "java/lang/Object") (3 : Int32) [(.ref av224), (.ref av226), .null] (.null) := Arv.set Ar244 q244 s244 z244 H244 G244 (v := (.ref av226)) rfl W244 1 rfl (by first | decide | simp)
      have N244 := Fr.snoc X244 N239 g_b233
      have Z244 : n0 ≤ h244.size := by rw [W244.size]; exact Z239
      refine own_go st244 ?_
      show own_Goes p e below (T244.setTop (mkF m 78 #[.val (.int k), .val (.long p1), .second, .val (.long p2), .second, .val (.long p3), .second, .val (.int (3 : Int32)), .val (.int (0 : Int32)), .val (.ref av224), .val (.ref av226), .val (.ref av229), .val (.ref b233), .unset, .unset] [])) (G_own_law Z k p1 p2 p3 ac cl h0 n0 s)
      refine own_go (fun _ k_ => XS.iload X244.here hx rfl (hb hby at_78) rfl k_) ?_
      show own_Goes p e below (T244.setTop (mkF m 80 #[.val (.int k), .val (.long p1), .second, .val (.long p2), .second, .val (.long p3), .second, .val (.int (3 : Int32)), .val (.int (0 : Int32)), .val (.ref av224), .val (.ref av226), .val (.ref av229), .val (.ref b233), .unset, .unset] [(.int (3 : Int32))])) (G_own_law Z k p1 p2 p3 ac cl h0 n0 s)
      refine own_go (fun _ k_ => XS.iconst X244.here hx rfl (hb hby at_80) k_) ?_
      show own_Goes p e below (T244.setTop (mkF m 81 #[.val (.int k), .val (.long p1), .second, .val (.long p2), .second, .val (.long p3), .second, .val (.int (3 : Int32)), .val (.int (0 : Int32)), .val (.ref av224), .val (.ref av226), .val (.ref av229), .val (.ref b233), .unset, .unset] [(.int (2 : Int32)), (.int (3 : Int32))])) (G_own_law Z k p1 p2 p3 ac cl h0 n0 s)
      refine own_go (fun _ k_ => XS.icmpNo X244.here hx rfl (hb hby at_81) rfl (XT.ii_le_f (by decide)) k_) ?_
      show own_Goes p e below (T244.setTop (mkF m 84 #[.val (.int k), .val (.long p1), .second, .val (.long p2), .second, .val (.long p3), .second, .val (.int (3 : Int32)), .val (.int (0 : Int32)), .val (.ref av224), .val (.ref av226), .val (.ref av229), .val (.ref b233), .unset, .unset] [])) (G_own_law Z k p1 p2 p3 ac cl h0 n0 s)
      refine own_go (fun _ k_ => XS.aload X244.here hx rfl (hb hby at_84) rfl rfl k_) ?_
      show own_Goes p e below (T244.setTop (mkF m 86 #[.val (.int k), .val (.long p1), .second, .val (.long p2), .second, .val (.long p3), .second, .val (.int (3 : Int32)), .val (.int (0 : Int32)), .val (.ref av224), .val (.ref av226), .val (.ref av229), .val (.ref b233), .unset, .unset] [(.ref b233)])) (G_own_law Z k p1 p2 p3 ac cl h0 n0 s)
      refine own_go (fun _ k_ => XS.iconst X244.here hx rfl (hb hby at_86) k_) ?_
      show own_Goes p e below (T244.setTop (mkF m 87 #[.val (.int k), .val (.long p1), .second, .val (.long p2), .second, .val (.long p3), .second, .val (.int (3 : Int32)), .val (.int (0 : Int32)), .val (.ref av224), .val (.ref av226), .val (.ref av229), .val (.ref b233), .unset, .unset] [(.int (2 : Int32)), (.ref b233)])) (G_own_law Z k p1 p2 p3 ac cl h0 n0 s)
      refine own_go (fun _ k_ => XS.aload X244.here hx rfl (hb hby at_87) rfl rfl k_) ?_
      show own_Goes p e below (T244.setTop (mkF m 89 #[.val (.int k), .val (.long p1), .second, .val (.long p2), .second, .val (.long p3), .second, .val (.int (3 : Int32)), .val (.int (0 : Int32)), .val (.ref av224), .val (.ref av226), .val (.ref av229), .val (.ref b233), .unset, .unset] [(.ref av229), (.int (2 : Int32)), (.ref b233)])) (G_own_law Z k p1 p2 p3 ac cl h0 n0 s)
      obtain ⟨c249, Ar249, q249, s249, z249, H249, G249⟩ := id Av244
      have hin249 := inb_of s249 (j := (2 : Int32)) (by decide)
      obtain ⟨T249, h249, X249, e249, W249, st249⟩ := stR X244 hx hZ e244 Ar249 hin249 rfl (Sto.ofV Ar249 q249 O233 (Ins.of_exa Ev229_248 (hw _ (List.mem_of_getElem? (i := 43) rfl)))) (g := (mkF m 89 #[.val (.int k), .val (.long p1), .second, .val (.long p2), .second, .val (.long p3), .second, .val (.int (3 : Int32)), .val (.int (0 : Int32)), .val (.ref av224), .val (.ref av226), .val (.ref av229), .val (.ref b233), .unset, .unset] [(.ref av229), (.int (2 : Int32)), (.ref b233)])) rfl rfl (hb hby at_89)
      have O0_250 := O0_245.wr W249 g_b233
      have Ev224_251 := Ev224_246.wr W249
      have Ev226_252 := Ev226_247.wr W249
      have Ev229_253 := Ev229_248.wr W249
      have Av249 : Arv Z h249 b233 cA233 (.object "java/lang/Object") (3 : Int32) [(.ref av224), (.ref av226), (.ref av229)] (.null) := Arv.set Ar249 q249 s249 z249 H249 G249 (v := (.ref av229)) rfl W249 2 rfl (by first | decide | simp)
      have N249 := Fr.snoc X249 N244 g_b233
      have Z249 : n0 ≤ h249.size := by rw [W249.size]; exact Z244
      refine own_go st249 ?_
      show own_Goes p e below (T249.setTop (mkF m 90 #[.val (.int k), .val (.long p1), .second, .val (.long p2), .second, .val (.long p3), .second, .val (.int (3 : Int32)), .val (.int (0 : Int32)), .val (.ref av224), .val (.ref av226), .val (.ref av229), .val (.ref b233), .unset, .unset] [])) (G_own_law Z k p1 p2 p3 ac cl h0 n0 s)
      refine own_go (fun _ k_ => XS.aload X249.here hx rfl (hb hby at_90) rfl rfl k_) ?_
      show own_Goes p e below (T249.setTop (mkF m 92 #[.val (.int k), .val (.long p1), .second, .val (.long p2), .second, .val (.long p3), .second, .val (.int (3 : Int32)), .val (.int (0 : Int32)), .val (.ref av224), .val (.ref av226), .val (.ref av229), .val (.ref b233), .unset, .unset] [(.ref b233)])) (G_own_law Z k p1 p2 p3 ac cl h0 n0 s)
      obtain ⟨_, _, ⟨T254, L254, k254, n254⟩, -, X254, ⟨Lc254, hQ254, l254, y254, z254⟩, st254⟩ := Jvm.LawKit.callS X249 hx (y := (⟨"com/example/remnant/remnant/core/MultipleValues", "of", "([Ljava/lang/Object;)Ljava/lang/Object;"⟩ : MethodName)) hown (mvT hZ (hw _ (List.mem_of_getElem? (i := 27) rfl))) (mvT hZ (hw _ (List.mem_of_getElem? (i := 28) rfl))) (mvT hZ (hw _ (List.mem_of_getElem? (i := 29) rfl))) (mvT hZ (hw _ (List.mem_of_getElem? (i := 30) rfl))) (by decide) (backOf (W := 0) (own_ofNM l Z a0 hw [] b233 cA233 (3 : Int32) [(.ref av224), (.ref av226), (.ref av229)] h249 n0 Z249 Av249 (by decide)) hZ (hw _ (List.mem_of_getElem? (i := 30) rfl)) (hw _ (List.mem_of_getElem? (i := 29) rfl)) (by decide) (by decide)) (g := (mkF m 92 #[.val (.int k), .val (.long p1), .second, .val (.long p2), .second, .val (.long p3), .second, .val (.int (3 : Int32)), .val (.int (0 : Int32)), .val (.ref av224), .val (.ref av226), .val (.ref av229), .val (.ref b233), .unset, .unset] [(.ref b233)])) rfl (by rw [hml]; rfl) (argsL := [(.ref b233)]) (rest := []) (lenOf own_pd4 rfl) rfl (by show 2 * 0 + _ ≤ _; exact Nat.le_of_eq rfl) (hb hby at_92) (fun _ _ => ⟨rfl, e249, (by decide : 4 + 1 ≤ _), (by decide : 6 + 1 ≤ _)⟩)
      dsimp only [Pt.U, Pt.locs, Pt.cells, Pt.slots] at X254 l254 y254 z254 st254 hQ254
      subst l254 y254 z254
      obtain ⟨⟨mv254, rfl, Em254, Fm254⟩, N254q, Kq254⟩ := hQ254
      have N254 := Fr.app N249 N254q
      have O0_255 := O0_250.keep Kq254 all0
      have Ev224_256 := Ev224_251.keep Kq254
      have Ev226_257 := Ev226_252.keep Kq254
      have Ev229_258 := Ev229_253.keep Kq254
      have Av249_259 := Av249.keep Kq254 nin0
      have Z254 : n0 ≤ T254.heap.size := Nat.le_trans Z249 Kq254.1
      refine own_go st254 ?_
      show own_Goes p e below (T254.setTop (mkF m 95 #[.val (.int k), .val (.long p1), .second, .val (.long p2), .second, .val (.long p3), .second, .val (.int (3 : Int32)), .val (.int (0 : Int32)), .val (.ref av224), .val (.ref av226), .val (.ref av229), .val (.ref b233), .unset, .unset] [(.ref mv254)])) (G_own_law Z k p1 p2 p3 ac cl h0 n0 s)
      refine own_go (fun _ k_ => XS.astore X254.here hx rfl (hb hby at_95) rfl rfl (l' := #[.val (.int k), .val (.long p1), .second, .val (.long p2), .second, .val (.long p3), .second, .val (.int (3 : Int32)), .val (.int (0 : Int32)), .val (.ref av224), .val (.ref av226), .val (.ref av229), .val (.ref b233), .val (.ref mv254), .unset]) rfl k_) ?_
      show own_Goes p e below (T254.setTop (mkF m 97 #[.val (.int k), .val (.long p1), .second, .val (.long p2), .second, .val (.long p3), .second, .val (.int (3 : Int32)), .val (.int (0 : Int32)), .val (.ref av224), .val (.ref av226), .val (.ref av229), .val (.ref b233), .val (.ref mv254), .unset] [])) (G_own_law Z k p1 p2 p3 ac cl h0 n0 s)
      refine own_go (fun _ k_ => XS.aload X254.here hx rfl (hb hby at_97) rfl rfl k_) ?_
      show own_Goes p e below (T254.setTop (mkF m 99 #[.val (.int k), .val (.long p1), .second, .val (.long p2), .second, .val (.long p3), .second, .val (.int (3 : Int32)), .val (.int (0 : Int32)), .val (.ref av224), .val (.ref av226), .val (.ref av229), .val (.ref b233), .val (.ref mv254), .unset] [(.ref mv254)])) (G_own_law Z k p1 p2 p3 ac cl h0 n0 s)
      obtain ⟨_, _, ⟨T260, L260, k260, n260⟩, -, X260, ⟨Lc260, hQ260, l260, y260, z260⟩, st260⟩ := Jvm.LawKit.callS X254 hx (y := (⟨"com/example/remnant/remnant/core/MultipleValues", "spread", "(Ljava/lang/Object;)[Ljava/lang/Object;"⟩ : MethodName)) hown (mvT hZ (hw _ (List.mem_of_getElem? (i := 39) rfl))) (mvT hZ (hw _ (List.mem_of_getElem? (i := 40) rfl))) (mvT hZ (hw _ (List.mem_of_getElem? (i := 29) rfl))) (mvT hZ (hw _ (List.mem_of_getElem? (i := 41) rfl))) (by decide) (backOf (W := 0) (own_spMVM l Z a0 hw [] mv254 b233 T254.heap n0 Z254 Em254 Fm254) hZ (hw _ (List.mem_of_getElem? (i := 41) rfl)) (hw _ (List.mem_of_getElem? (i := 29) rfl)) (by decide) (by decide)) (g := (mkF m 99 #[.val (.int k), .val (.long p1), .second, .val (.long p2), .second, .val (.long p3), .second, .val (.int (3 : Int32)), .val (.int (0 : Int32)), .val (.ref av224), .val (.ref av226), .val (.ref av229), .val (.ref b233), .val (.ref mv254), .unset] [(.ref mv254)])) rfl (by rw [hml]; rfl) (argsL := [(.ref mv254)]) (rest := []) (lenOf own_pd5 rfl) rfl (by show 2 * 0 + _ ≤ _; exact Nat.le_of_eq rfl) (hb hby at_99) (fun _ _ => ⟨rfl, rfl, (by decide : 5 + 0 ≤ _), (by decide : 7 + 0 ≤ _)⟩)
      dsimp only [Pt.U, Pt.locs, Pt.cells, Pt.slots] at X260 l260 y260 z260 st260 hQ260
      subst l260 y260 z260
      obtain ⟨rfl, N260q, e260⟩ := hQ260
      have N260 := Fr.app N254 N260q
      refine own_go st260 ?_
      show own_Goes p e below (T260.setTop (mkF m 102 #[.val (.int k), .val (.long p1), .second, .val (.long p2), .second, .val (.long p3), .second, .val (.int (3 : Int32)), .val (.int (0 : Int32)), .val (.ref av224), .val (.ref av226), .val (.ref av229), .val (.ref b233), .val (.ref mv254), .unset] [(.ref b233)])) (G_own_law Z k p1 p2 p3 ac cl h0 n0 s)
      refine own_go (fun _ k_ => XS.astore X260.here hx rfl (hb hby at_102) rfl rfl (l' := #[.val (.int k), .val (.long p1), .second, .val (.long p2), .second, .val (.long p3), .second, .val (.int (3 : Int32)), .val (.int (0 : Int32)), .val (.ref av224), .val (.ref av226), .val (.ref av229), .val (.ref b233), .val (.ref mv254), .val (.ref b233)]) rfl k_) ?_
      show own_Goes p e below (T260.setTop (mkF m 104 #[.val (.int k), .val (.long p1), .second, .val (.long p2), .second, .val (.long p3), .second, .val (.int (3 : Int32)), .val (.int (0 : Int32)), .val (.ref av224), .val (.ref av226), .val (.ref av229), .val (.ref b233), .val (.ref mv254), .val (.ref b233)] [])) (G_own_law Z k p1 p2 p3 ac cl h0 n0 s)
      refine own_go (fun _ k_ => XS.aload X260.here hx rfl (hb hby at_104) rfl rfl k_) ?_
      show own_Goes p e below (T260.setTop (mkF m 106 #[.val (.int k), .val (.long p1), .second, .val (.long p2), .second, .val (.long p3), .second, .val (.int (3 : Int32)), .val (.int (0 : Int32)), .val (.ref av224), .val (.ref av226), .val (.ref av229), .val (.ref b233), .val (.ref mv254), .val (.ref b233)] [(.ref b233)])) (G_own_law Z k p1 p2 p3 ac cl h0 n0 s)
      refine own_go (fun _ k_ => XS.ifnullNo X260.here hx rfl (hb hby at_106) rfl k_) ?_
      show own_Goes p e below (T260.setTop (mkF m 109 #[.val (.int k), .val (.long p1), .second, .val (.long p2), .second, .val (.long p3), .second, .val (.int (3 : Int32)), .val (.int (0 : Int32)), .val (.ref av224), .val (.ref av226), .val (.ref av229), .val (.ref b233), .val (.ref mv254), .val (.ref b233)] [])) (G_own_law Z k p1 p2 p3 ac cl h0 n0 s)
      refine own_go (fun _ k_ => XS.aload X260.here hx rfl (hb hby at_109) rfl rfl k_) ?_
      show own_Goes p e below (T260.setTop (mkF m 111 #[.val (.int k), .val (.long p1), .second, .val (.long p2), .second, .val (.long p3), .second, .val (.int (3 : Int32)), .val (.int (0 : Int32)), .val (.ref av224), .val (.ref av226), .val (.ref av229), .val (.ref b233), .val (.ref mv254), .val (.ref b233)] [(.ref b233)])) (G_own_law Z k p1 p2 p3 ac cl h0 n0 s)
      obtain ⟨c261, Ar261, q261, s261, z261, H261, G261⟩ := id Av249_259
      refine own_go (fun _ k_ => X260.arraylength hx (by rw [e260]; exact Ar261.1) (State.isArrayOf_alike hZ.alike Ar261.2.1) (g := (mkF m 111 #[.val (.int k), .val (.long p1), .second, .val (.long p2), .second, .val (.long p3), .second, .val (.int (3 : Int32)), .val (.int (0 : Int32)), .val (.ref av224), .val (.ref av226), .val (.ref av229), .val (.ref b233), .val (.ref mv254), .val (.ref b233)] [(.ref b233)])) rfl rfl (hb hby at_111) _ k_) ?_
      rw [len_of s261 z261]
      show own_Goes p e below (T260.setTop (mkF m 112 #[.val (.int k), .val (.long p1), .second, .val (.long p2), .second, .val (.long p3), .second, .val (.int (3 : Int32)), .val (.int (0 : Int32)), .val (.ref av224), .val (.ref av226), .val (.ref av229), .val (.ref b233), .val (.ref mv254), .val (.ref b233)] [(.int (3 : Int32))])) (G_own_law Z k p1 p2 p3 ac cl h0 n0 s)
      refine own_go (fun _ k_ => XS.iload X260.here hx rfl (hb hby at_112) rfl k_) ?_
      show own_Goes p e below (T260.setTop (mkF m 114 #[.val (.int k), .val (.long p1), .second, .val (.long p2), .second, .val (.long p3), .second, .val (.int (3 : Int32)), .val (.int (0 : Int32)), .val (.ref av224), .val (.ref av226), .val (.ref av229), .val (.ref b233), .val (.ref mv254), .val (.ref b233)] [(.int (3 : Int32)), (.int (3 : Int32))])) (G_own_law Z k p1 p2 p3 ac cl h0 n0 s)
      refine own_go (fun _ k_ => XS.icmpYes X260.here hx rfl (pc0 := 114) (pc' := 119) rfl (hb hby at_114) rfl (XT.ii_eq_t (rfl : (3 : Int32) = (3 : Int32))) (by decide) (by decide) k_) ?_
      show own_Goes p e below (T260.setTop (mkF m 119 #[.val (.int k), .val (.long p1), .second, .val (.long p2), .second, .val (.long p3), .second, .val (.int (3 : Int32)), .val (.int (0 : Int32)), .val (.ref av224), .val (.ref av226), .val (.ref av229), .val (.ref b233), .val (.ref mv254), .val (.ref b233)] [])) (G_own_law Z k p1 p2 p3 ac cl h0 n0 s)
      refine own_go (fun _ k_ => XS.iload X260.here hx rfl (hb hby at_119) rfl k_) ?_
      show own_Goes p e below (T260.setTop (mkF m 121 #[.val (.int k), .val (.long p1), .second, .val (.long p2), .second, .val (.long p3), .second, .val (.int (3 : Int32)), .val (.int (0 : Int32)), .val (.ref av224), .val (.ref av226), .val (.ref av229), .val (.ref b233), .val (.ref mv254), .val (.ref b233)] [(.int (3 : Int32))])) (G_own_law Z k p1 p2 p3 ac cl h0 n0 s)
      refine own_go (fun _ k_ => XS.iconst X260.here hx rfl (hb hby at_121) k_) ?_
      show own_Goes p e below (T260.setTop (mkF m 122 #[.val (.int k), .val (.long p1), .second, .val (.long p2), .second, .val (.long p3), .second, .val (.int (3 : Int32)), .val (.int (0 : Int32)), .val (.ref av224), .val (.ref av226), .val (.ref av229), .val (.ref b233), .val (.ref mv254), .val (.ref b233)] [(.int (1 : Int32)), (.int (3 : Int32))])) (G_own_law Z k p1 p2 p3 ac cl h0 n0 s)
      refine own_go (fun _ k_ => XS.icmpNo X260.here hx rfl (hb hby at_122) rfl (XT.ii_eq_f (by decide)) k_) ?_
      show own_Goes p e below (T260.setTop (mkF m 125 #[.val (.int k), .val (.long p1), .second, .val (.long p2), .second, .val (.long p3), .second, .val (.int (3 : Int32)), .val (.int (0 : Int32)), .val (.ref av224), .val (.ref av226), .val (.ref av229), .val (.ref b233), .val (.ref mv254), .val (.ref b233)] [])) (G_own_law Z k p1 p2 p3 ac cl h0 n0 s)
      refine own_go (fun _ k_ => XS.aload X260.here hx rfl (hb hby at_125) rfl rfl k_) ?_
      show own_Goes p e below (T260.setTop (mkF m 127 #[.val (.int k), .val (.long p1), .second, .val (.long p2), .second, .val (.long p3), .second, .val (.int (3 : Int32)), .val (.int (0 : Int32)), .val (.ref av224), .val (.ref av226), .val (.ref av229), .val (.ref b233), .val (.ref mv254), .val (.ref b233)] [(.ref b233)])) (G_own_law Z k p1 p2 p3 ac cl h0 n0 s)
      refine own_go (fun _ k_ => XS.aload X260.here hx rfl (hb hby at_127) rfl rfl k_) ?_
      show own_Goes p e below (T260.setTop (mkF m 129 #[.val (.int k), .val (.long p1), .second, .val (.long p2), .second, .val (.long p3), .second, .val (.int (3 : Int32)), .val (.int (0 : Int32)), .val (.ref av224), .val (.ref av226), .val (.ref av229), .val (.ref b233), .val (.ref mv254), .val (.ref b233)] [(.ref b233), (.ref b233)])) (G_own_law Z k p1 p2 p3 ac cl h0 n0 s)
      refine own_go (fun _ k_ => Jvm.RoadKit.acmp (g := (mkF m 129 #[.val (.int k), .val (.long p1), .second, .val (.long p2), .second, .val (.long p3), .second, .val (.int (3 : Int32)), .val (.int (0 : Int32)), .val (.ref av224), .val (.ref av226), .val (.ref av229), .val (.ref b233), .val (.ref mv254), .val (.ref b233)] [(.ref b233), (.ref b233)])) X260 hx rfl rfl rfl (pc0 := 129) (pc' := 134) (same := true) rfl (hb hby at_129) rfl (decide_eq_true rfl) (by decide) (by decide) k_) ?_
      show own_Goes p e below (T260.setTop (mkF m 134 #[.val (.int k), .val (.long p1), .second, .val (.long p2), .second, .val (.long p3), .second, .val (.int (3 : Int32)), .val (.int (0 : Int32)), .val (.ref av224), .val (.ref av226), .val (.ref av229), .val (.ref b233), .val (.ref mv254), .val (.ref b233)] [])) (G_own_law Z k p1 p2 p3 ac cl h0 n0 s)
      refine own_go (fun _ k_ => XS.iload X260.here hx rfl (hb hby at_134) rfl k_) ?_
      show own_Goes p e below (T260.setTop (mkF m 136 #[.val (.int k), .val (.long p1), .second, .val (.long p2), .second, .val (.long p3), .second, .val (.int (3 : Int32)), .val (.int (0 : Int32)), .val (.ref av224), .val (.ref av226), .val (.ref av229), .val (.ref b233), .val (.ref mv254), .val (.ref b233)] [(.int (3 : Int32))])) (G_own_law Z k p1 p2 p3 ac cl h0 n0 s)
      refine own_go (fun _ k_ => XS.ifNo X260.here hx rfl (hb hby at_136) rfl (XT.i0_le_f (by decide)) k_) ?_
      show own_Goes p e below (T260.setTop (mkF m 139 #[.val (.int k), .val (.long p1), .second, .val (.long p2), .second, .val (.long p3), .second, .val (.int (3 : Int32)), .val (.int (0 : Int32)), .val (.ref av224), .val (.ref av226), .val (.ref av229), .val (.ref b233), .val (.ref mv254), .val (.ref b233)] [])) (G_own_law Z k p1 p2 p3 ac cl h0 n0 s)
      refine own_go (fun _ k_ => XS.aload X260.here hx rfl (hb hby at_139) rfl rfl k_) ?_
      show own_Goes p e below (T260.setTop (mkF m 141 #[.val (.int k), .val (.long p1), .second, .val (.long p2), .second, .val (.long p3), .second, .val (.int (3 : Int32)), .val (.int (0 : Int32)), .val (.ref av224), .val (.ref av226), .val (.ref av229), .val (.ref b233), .val (.ref mv254), .val (.ref b233)] [(.ref b233)])) (G_own_law Z k p1 p2 p3 ac cl h0 n0 s)
      refine own_go (fun _ k_ => XS.iconst X260.here hx rfl (hb hby at_141) k_) ?_
      show own_Goes p e below (T260.setTop (mkF m 142 #[.val (.int k), .val (.long p1), .second, .val (.long p2), .second, .val (.long p3), .second, .val (.int (3 : Int32)), .val (.int (0 : Int32)), .val (.ref av224), .val (.ref av226), .val (.ref av229), .val (.ref b233), .val (.ref mv254), .val (.ref b233)] [(.int (0 : Int32)), (.ref b233)])) (G_own_law Z k p1 p2 p3 ac cl h0 n0 s)
      obtain ⟨c262, Ar262, q262, s262, z262, H262, G262⟩ := id Av249_259
      have hin262 := inb_of s262 (j := (0 : Int32)) (by decide)
      have hat262 := H262.at hin262 (v := (.ref av224)) rfl
      refine own_go (fun _ k_ => X260.aaload hx (j := (0 : Int32)) (v := (.ref av224)) (by rw [e260]; exact Ar262.1) (State.isArrayOf_alike hZ.alike Ar262.2.1) rfl Ar262.2.2 hin262 hat262 (g := (mkF m 142 #[.val (.int k), .val (.long p1), .second, .val (.long p2), .second, .val (.long p3), .second, .val (.int (3 : Int32)), .val (.int (0 : Int32)), .val (.ref av224), .val (.ref av226), .val (.ref av229), .val (.ref b233), .val (.ref mv254), .val (.ref b233)] [(.int (0 : Int32)), (.ref b233)])) rfl rfl (hb hby at_142) _ k_) ?_
      show own_Goes p e below (T260.setTop (mkF m 143 #[.val (.int k), .val (.long p1), .second, .val (.long p2), .second, .val (.long p3), .second, .val (.int (3 : Int32)), .val (.int (0 : Int32)), .val (.ref av224), .val (.ref av226), .val (.ref av229), .val (.ref b233), .val (.ref mv254), .val (.ref b233)] [(.ref av224)])) (G_own_law Z k p1 p2 p3 ac cl h0 n0 s)
      refine own_go (fun _ k_ => XS.aload X260.here hx rfl (hb hby at_143) rfl rfl k_) ?_
      show own_Goes p e below (T260.setTop (mkF m 145 #[.val (.int k), .val (.long p1), .second, .val (.long p2), .second, .val (.long p3), .second, .val (.int (3 : Int32)), .val (.int (0 : Int32)), .val (.ref av224), .val (.ref av226), .val (.ref av229), .val (.ref b233), .val (.ref mv254), .val (.ref b233)] [(.ref av224), (.ref av224)])) (G_own_law Z k p1 p2 p3 ac cl h0 n0 s)
      refine own_go (fun _ k_ => Jvm.RoadKit.acmp (g := (mkF m 145 #[.val (.int k), .val (.long p1), .second, .val (.long p2), .second, .val (.long p3), .second, .val (.int (3 : Int32)), .val (.int (0 : Int32)), .val (.ref av224), .val (.ref av226), .val (.ref av229), .val (.ref b233), .val (.ref mv254), .val (.ref b233)] [(.ref av224), (.ref av224)])) X260 hx rfl rfl rfl (pc0 := 145) (pc' := 148) (same := true) rfl (hb hby at_145) rfl (decide_eq_true rfl) (by decide) (by decide) k_) ?_
      show own_Goes p e below (T260.setTop (mkF m 148 #[.val (.int k), .val (.long p1), .second, .val (.long p2), .second, .val (.long p3), .second, .val (.int (3 : Int32)), .val (.int (0 : Int32)), .val (.ref av224), .val (.ref av226), .val (.ref av229), .val (.ref b233), .val (.ref mv254), .val (.ref b233)] [])) (G_own_law Z k p1 p2 p3 ac cl h0 n0 s)
      refine own_go (fun _ k_ => XS.aload X260.here hx rfl (hb hby at_148) rfl rfl k_) ?_
      show own_Goes p e below (T260.setTop (mkF m 150 #[.val (.int k), .val (.long p1), .second, .val (.long p2), .second, .val (.long p3), .second, .val (.int (3 : Int32)), .val (.int (0 : Int32)), .val (.ref av224), .val (.ref av226), .val (.ref av229), .val (.ref b233), .val (.ref mv254), .val (.ref b233)] [(.ref b233)])) (G_own_law Z k p1 p2 p3 ac cl h0 n0 s)
      refine own_go (fun _ k_ => XS.iconst X260.here hx rfl (hb hby at_150) k_) ?_
      show own_Goes p e below (T260.setTop (mkF m 151 #[.val (.int k), .val (.long p1), .second, .val (.long p2), .second, .val (.long p3), .second, .val (.int (3 : Int32)), .val (.int (0 : Int32)), .val (.ref av224), .val (.ref av226), .val (.ref av229), .val (.ref b233), .val (.ref mv254), .val (.ref b233)] [(.int (0 : Int32)), (.ref b233)])) (G_own_law Z k p1 p2 p3 ac cl h0 n0 s)
      obtain ⟨c263, Ar263, q263, s263, z263, H263, G263⟩ := id Av249_259
      have hin263 := inb_of s263 (j := (0 : Int32)) (by decide)
      have hat263 := H263.at hin263 (v := (.ref av224)) rfl
      refine own_go (fun _ k_ => X260.aaload hx (j := (0 : Int32)) (v := (.ref av224)) (by rw [e260]; exact Ar263.1) (State.isArrayOf_alike hZ.alike Ar263.2.1) rfl Ar263.2.2 hin263 hat263 (g := (mkF m 151 #[.val (.int k), .val (.long p1), .second, .val (.long p2), .second, .val (.long p3), .second, .val (.int (3 : Int32)), .val (.int (0 : Int32)), .val (.ref av224), .val (.ref av226), .val (.ref av229), .val (.ref b233), .val (.ref mv254), .val (.ref b233)] [(.int (0 : Int32)), (.ref b233)])) rfl rfl (hb hby at_151) _ k_) ?_
      show own_Goes p e below (T260.setTop (mkF m 152 #[.val (.int k), .val (.long p1), .second, .val (.long p2), .second, .val (.long p3), .second, .val (.int (3 : Int32)), .val (.int (0 : Int32)), .val (.ref av224), .val (.ref av226), .val (.ref av229), .val (.ref b233), .val (.ref mv254), .val (.ref b233)] [(.ref av224)])) (G_own_law Z k p1 p2 p3 ac cl h0 n0 s)
      refine own_go (fun _ k_ => XS.aload X260.here hx rfl (hb hby at_152) rfl rfl k_) ?_
      show own_Goes p e below (T260.setTop (mkF m 154 #[.val (.int k), .val (.long p1), .second, .val (.long p2), .second, .val (.long p3), .second, .val (.int (3 : Int32)), .val (.int (0 : Int32)), .val (.ref av224), .val (.ref av226), .val (.ref av229), .val (.ref b233), .val (.ref mv254), .val (.ref b233)] [(.ref av224), (.ref av224)])) (G_own_law Z k p1 p2 p3 ac cl h0 n0 s)
      refine own_go (fun _ k_ => Jvm.RoadKit.acmp (g := (mkF m 154 #[.val (.int k), .val (.long p1), .second, .val (.long p2), .second, .val (.long p3), .second, .val (.int (3 : Int32)), .val (.int (0 : Int32)), .val (.ref av224), .val (.ref av226), .val (.ref av229), .val (.ref b233), .val (.ref mv254), .val (.ref b233)] [(.ref av224), (.ref av224)])) X260 hx rfl rfl rfl (pc0 := 154) (pc' := 159) (same := true) rfl (hb hby at_154) rfl (decide_eq_true rfl) (by decide) (by decide) k_) ?_
      show own_Goes p e below (T260.setTop (mkF m 159 #[.val (.int k), .val (.long p1), .second, .val (.long p2), .second, .val (.long p3), .second, .val (.int (3 : Int32)), .val (.int (0 : Int32)), .val (.ref av224), .val (.ref av226), .val (.ref av229), .val (.ref b233), .val (.ref mv254), .val (.ref b233)] [])) (G_own_law Z k p1 p2 p3 ac cl h0 n0 s)
      refine own_go (fun _ k_ => XS.iload X260.here hx rfl (hb hby at_159) rfl k_) ?_
      show own_Goes p e below (T260.setTop (mkF m 161 #[.val (.int k), .val (.long p1), .second, .val (.long p2), .second, .val (.long p3), .second, .val (.int (3 : Int32)), .val (.int (0 : Int32)), .val (.ref av224), .val (.ref av226), .val (.ref av229), .val (.ref b233), .val (.ref mv254), .val (.ref b233)] [(.int (3 : Int32))])) (G_own_law Z k p1 p2 p3 ac cl h0 n0 s)
      refine own_go (fun _ k_ => XS.iconst X260.here hx rfl (hb hby at_161) k_) ?_
      show own_Goes p e below (T260.setTop (mkF m 162 #[.val (.int k), .val (.long p1), .second, .val (.long p2), .second, .val (.long p3), .second, .val (.int (3 : Int32)), .val (.int (0 : Int32)), .val (.ref av224), .val (.ref av226), .val (.ref av229), .val (.ref b233), .val (.ref mv254), .val (.ref b233)] [(.int (1 : Int32)), (.int (3 : Int32))])) (G_own_law Z k p1 p2 p3 ac cl h0 n0 s)
      refine own_go (fun _ k_ => XS.icmpNo X260.here hx rfl (hb hby at_162) rfl (XT.ii_le_f (by decide)) k_) ?_
      show own_Goes p e below (T260.setTop (mkF m 165 #[.val (.int k), .val (.long p1), .second, .val (.long p2), .second, .val (.long p3), .second, .val (.int (3 : Int32)), .val (.int (0 : Int32)), .val (.ref av224), .val (.ref av226), .val (.ref av229), .val (.ref b233), .val (.ref mv254), .val (.ref b233)] [])) (G_own_law Z k p1 p2 p3 ac cl h0 n0 s)
      refine own_go (fun _ k_ => XS.aload X260.here hx rfl (hb hby at_165) rfl rfl k_) ?_
      show own_Goes p e below (T260.setTop (mkF m 167 #[.val (.int k), .val (.long p1), .second, .val (.long p2), .second, .val (.long p3), .second, .val (.int (3 : Int32)), .val (.int (0 : Int32)), .val (.ref av224), .val (.ref av226), .val (.ref av229), .val (.ref b233), .val (.ref mv254), .val (.ref b233)] [(.ref b233)])) (G_own_law Z k p1 p2 p3 ac cl h0 n0 s)
      refine own_go (fun _ k_ => XS.iconst X260.here hx rfl (hb hby at_167) k_) ?_
      show own_Goes p e below (T260.setTop (mkF m 168 #[.val (.int k), .val (.long p1), .second, .val (.long p2), .second, .val (.long p3), .second, .val (.int (3 : Int32)), .val (.int (0 : Int32)), .val (.ref av224), .val (.ref av226), .val (.ref av229), .val (.ref b233), .val (.ref mv254), .val (.ref b233)] [(.int (1 : Int32)), (.ref b233)])) (G_own_law Z k p1 p2 p3 ac cl h0 n0 s)
      obtain ⟨c264, Ar264, q264, s264, z264, H264, G264⟩ := id Av249_259
      have hin264 := inb_of s264 (j := (1 : Int32)) (by decide)
      have hat264 := H264.at hin264 (v := (.ref av226)) rfl
      refine own_go (fun _ k_ => X260.aaload hx (j := (1 : Int32)) (v := (.ref av226)) (by rw [e260]; exact Ar264.1) (State.isArrayOf_alike hZ.alike Ar264.2.1) rfl Ar264.2.2 hin264 hat264 (g := (mkF m 168 #[.val (.int k), .val (.long p1), .second, .val (.long p2), .second, .val (.long p3), .second, .val (.int (3 : Int32)), .val (.int (0 : Int32)), .val (.ref av224), .val (.ref av226), .val (.ref av229), .val (.ref b233), .val (.ref mv254), .val (.ref b233)] [(.int (1 : Int32)), (.ref b233)])) rfl rfl (hb hby at_168) _ k_) ?_
      show own_Goes p e below (T260.setTop (mkF m 169 #[.val (.int k), .val (.long p1), .second, .val (.long p2), .second, .val (.long p3), .second, .val (.int (3 : Int32)), .val (.int (0 : Int32)), .val (.ref av224), .val (.ref av226), .val (.ref av229), .val (.ref b233), .val (.ref mv254), .val (.ref b233)] [(.ref av226)])) (G_own_law Z k p1 p2 p3 ac cl h0 n0 s)
      refine own_go (fun _ k_ => XS.aload X260.here hx rfl (hb hby at_169) rfl rfl k_) ?_
      show own_Goes p e below (T260.setTop (mkF m 171 #[.val (.int k), .val (.long p1), .second, .val (.long p2), .second, .val (.long p3), .second, .val (.int (3 : Int32)), .val (.int (0 : Int32)), .val (.ref av224), .val (.ref av226), .val (.ref av229), .val (.ref b233), .val (.ref mv254), .val (.ref b233)] [(.ref av226), (.ref av226)])) (G_own_law Z k p1 p2 p3 ac cl h0 n0 s)
      refine own_go (fun _ k_ => Jvm.RoadKit.acmp (g := (mkF m 171 #[.val (.int k), .val (.long p1), .second, .val (.long p2), .second, .val (.long p3), .second, .val (.int (3 : Int32)), .val (.int (0 : Int32)), .val (.ref av224), .val (.ref av226), .val (.ref av229), .val (.ref b233), .val (.ref mv254), .val (.ref b233)] [(.ref av226), (.ref av226)])) X260 hx rfl rfl rfl (pc0 := 171) (pc' := 174) (same := true) rfl (hb hby at_171) rfl (decide_eq_true rfl) (by decide) (by decide) k_) ?_
      show own_Goes p e below (T260.setTop (mkF m 174 #[.val (.int k), .val (.long p1), .second, .val (.long p2), .second, .val (.long p3), .second, .val (.int (3 : Int32)), .val (.int (0 : Int32)), .val (.ref av224), .val (.ref av226), .val (.ref av229), .val (.ref b233), .val (.ref mv254), .val (.ref b233)] [])) (G_own_law Z k p1 p2 p3 ac cl h0 n0 s)
      refine own_go (fun _ k_ => XS.aload X260.here hx rfl (hb hby at_174) rfl rfl k_) ?_
      show own_Goes p e below (T260.setTop (mkF m 176 #[.val (.int k), .val (.long p1), .second, .val (.long p2), .second, .val (.long p3), .second, .val (.int (3 : Int32)), .val (.int (0 : Int32)), .val (.ref av224), .val (.ref av226), .val (.ref av229), .val (.ref b233), .val (.ref mv254), .val (.ref b233)] [(.ref b233)])) (G_own_law Z k p1 p2 p3 ac cl h0 n0 s)
      refine own_go (fun _ k_ => XS.iconst X260.here hx rfl (hb hby at_176) k_) ?_
      show own_Goes p e below (T260.setTop (mkF m 177 #[.val (.int k), .val (.long p1), .second, .val (.long p2), .second, .val (.long p3), .second, .val (.int (3 : Int32)), .val (.int (0 : Int32)), .val (.ref av224), .val (.ref av226), .val (.ref av229), .val (.ref b233), .val (.ref mv254), .val (.ref b233)] [(.int (1 : Int32)), (.ref b233)])) (G_own_law Z k p1 p2 p3 ac cl h0 n0 s)
      obtain ⟨c265, Ar265, q265, s265, z265, H265, G265⟩ := id Av249_259
      have hin265 := inb_of s265 (j := (1 : Int32)) (by decide)
      have hat265 := H265.at hin265 (v := (.ref av226)) rfl
      refine own_go (fun _ k_ => X260.aaload hx (j := (1 : Int32)) (v := (.ref av226)) (by rw [e260]; exact Ar265.1) (State.isArrayOf_alike hZ.alike Ar265.2.1) rfl Ar265.2.2 hin265 hat265 (g := (mkF m 177 #[.val (.int k), .val (.long p1), .second, .val (.long p2), .second, .val (.long p3), .second, .val (.int (3 : Int32)), .val (.int (0 : Int32)), .val (.ref av224), .val (.ref av226), .val (.ref av229), .val (.ref b233), .val (.ref mv254), .val (.ref b233)] [(.int (1 : Int32)), (.ref b233)])) rfl rfl (hb hby at_177) _ k_) ?_
      show own_Goes p e below (T260.setTop (mkF m 178 #[.val (.int k), .val (.long p1), .second, .val (.long p2), .second, .val (.long p3), .second, .val (.int (3 : Int32)), .val (.int (0 : Int32)), .val (.ref av224), .val (.ref av226), .val (.ref av229), .val (.ref b233), .val (.ref mv254), .val (.ref b233)] [(.ref av226)])) (G_own_law Z k p1 p2 p3 ac cl h0 n0 s)
      refine own_go (fun _ k_ => XS.aload X260.here hx rfl (hb hby at_178) rfl rfl k_) ?_
      show own_Goes p e below (T260.setTop (mkF m 180 #[.val (.int k), .val (.long p1), .second, .val (.long p2), .second, .val (.long p3), .second, .val (.int (3 : Int32)), .val (.int (0 : Int32)), .val (.ref av224), .val (.ref av226), .val (.ref av229), .val (.ref b233), .val (.ref mv254), .val (.ref b233)] [(.ref av226), (.ref av226)])) (G_own_law Z k p1 p2 p3 ac cl h0 n0 s)
      refine own_go (fun _ k_ => Jvm.RoadKit.acmp (g := (mkF m 180 #[.val (.int k), .val (.long p1), .second, .val (.long p2), .second, .val (.long p3), .second, .val (.int (3 : Int32)), .val (.int (0 : Int32)), .val (.ref av224), .val (.ref av226), .val (.ref av229), .val (.ref b233), .val (.ref mv254), .val (.ref b233)] [(.ref av226), (.ref av226)])) X260 hx rfl rfl rfl (pc0 := 180) (pc' := 185) (same := true) rfl (hb hby at_180) rfl (decide_eq_true rfl) (by decide) (by decide) k_) ?_
      show own_Goes p e below (T260.setTop (mkF m 185 #[.val (.int k), .val (.long p1), .second, .val (.long p2), .second, .val (.long p3), .second, .val (.int (3 : Int32)), .val (.int (0 : Int32)), .val (.ref av224), .val (.ref av226), .val (.ref av229), .val (.ref b233), .val (.ref mv254), .val (.ref b233)] [])) (G_own_law Z k p1 p2 p3 ac cl h0 n0 s)
      refine own_go (fun _ k_ => XS.iload X260.here hx rfl (hb hby at_185) rfl k_) ?_
      show own_Goes p e below (T260.setTop (mkF m 187 #[.val (.int k), .val (.long p1), .second, .val (.long p2), .second, .val (.long p3), .second, .val (.int (3 : Int32)), .val (.int (0 : Int32)), .val (.ref av224), .val (.ref av226), .val (.ref av229), .val (.ref b233), .val (.ref mv254), .val (.ref b233)] [(.int (3 : Int32))])) (G_own_law Z k p1 p2 p3 ac cl h0 n0 s)
      refine own_go (fun _ k_ => XS.iconst X260.here hx rfl (hb hby at_187) k_) ?_
      show own_Goes p e below (T260.setTop (mkF m 188 #[.val (.int k), .val (.long p1), .second, .val (.long p2), .second, .val (.long p3), .second, .val (.int (3 : Int32)), .val (.int (0 : Int32)), .val (.ref av224), .val (.ref av226), .val (.ref av229), .val (.ref b233), .val (.ref mv254), .val (.ref b233)] [(.int (2 : Int32)), (.int (3 : Int32))])) (G_own_law Z k p1 p2 p3 ac cl h0 n0 s)
      refine own_go (fun _ k_ => XS.icmpNo X260.here hx rfl (hb hby at_188) rfl (XT.ii_le_f (by decide)) k_) ?_
      show own_Goes p e below (T260.setTop (mkF m 191 #[.val (.int k), .val (.long p1), .second, .val (.long p2), .second, .val (.long p3), .second, .val (.int (3 : Int32)), .val (.int (0 : Int32)), .val (.ref av224), .val (.ref av226), .val (.ref av229), .val (.ref b233), .val (.ref mv254), .val (.ref b233)] [])) (G_own_law Z k p1 p2 p3 ac cl h0 n0 s)
      refine own_go (fun _ k_ => XS.aload X260.here hx rfl (hb hby at_191) rfl rfl k_) ?_
      show own_Goes p e below (T260.setTop (mkF m 193 #[.val (.int k), .val (.long p1), .second, .val (.long p2), .second, .val (.long p3), .second, .val (.int (3 : Int32)), .val (.int (0 : Int32)), .val (.ref av224), .val (.ref av226), .val (.ref av229), .val (.ref b233), .val (.ref mv254), .val (.ref b233)] [(.ref b233)])) (G_own_law Z k p1 p2 p3 ac cl h0 n0 s)
      refine own_go (fun _ k_ => XS.iconst X260.here hx rfl (hb hby at_193) k_) ?_
      show own_Goes p e below (T260.setTop (mkF m 194 #[.val (.int k), .val (.long p1), .second, .val (.long p2), .second, .val (.long p3), .second, .val (.int (3 : Int32)), .val (.int (0 : Int32)), .val (.ref av224), .val (.ref av226), .val (.ref av229), .val (.ref b233), .val (.ref mv254), .val (.ref b233)] [(.int (2 : Int32)), (.ref b233)])) (G_own_law Z k p1 p2 p3 ac cl h0 n0 s)
      obtain ⟨c266, Ar266, q266, s266, z266, H266, G266⟩ := id Av249_259
      have hin266 := inb_of s266 (j := (2 : Int32)) (by decide)
      have hat266 := H266.at hin266 (v := (.ref av229)) rfl
      refine own_go (fun _ k_ => X260.aaload hx (j := (2 : Int32)) (v := (.ref av229)) (by rw [e260]; exact Ar266.1) (State.isArrayOf_alike hZ.alike Ar266.2.1) rfl Ar266.2.2 hin266 hat266 (g := (mkF m 194 #[.val (.int k), .val (.long p1), .second, .val (.long p2), .second, .val (.long p3), .second, .val (.int (3 : Int32)), .val (.int (0 : Int32)), .val (.ref av224), .val (.ref av226), .val (.ref av229), .val (.ref b233), .val (.ref mv254), .val (.ref b233)] [(.int (2 : Int32)), (.ref b233)])) rfl rfl (hb hby at_194) _ k_) ?_
      show own_Goes p e below (T260.setTop (mkF m 195 #[.val (.int k), .val (.long p1), .second, .val (.long p2), .second, .val (.long p3), .second, .val (.int (3 : Int32)), .val (.int (0 : Int32)), .val (.ref av224), .val (.ref av226), .val (.ref av229), .val (.ref b233), .val (.ref mv254), .val (.ref b233)] [(.ref av229)])) (G_own_law Z k p1 p2 p3 ac cl h0 n0 s)
      refine own_go (fun _ k_ => XS.aload X260.here hx rfl (hb hby at_195) rfl rfl k_) ?_
      show own_Goes p e below (T260.setTop (mkF m 197 #[.val (.int k), .val (.long p1), .second, .val (.long p2), .second, .val (.long p3), .second, .val (.int (3 : Int32)), .val (.int (0 : Int32)), .val (.ref av224), .val (.ref av226), .val (.ref av229), .val (.ref b233), .val (.ref mv254), .val (.ref b233)] [(.ref av229), (.ref av229)])) (G_own_law Z k p1 p2 p3 ac cl h0 n0 s)
      refine own_go (fun _ k_ => Jvm.RoadKit.acmp (g := (mkF m 197 #[.val (.int k), .val (.long p1), .second, .val (.long p2), .second, .val (.long p3), .second, .val (.int (3 : Int32)), .val (.int (0 : Int32)), .val (.ref av224), .val (.ref av226), .val (.ref av229), .val (.ref b233), .val (.ref mv254), .val (.ref b233)] [(.ref av229), (.ref av229)])) X260 hx rfl rfl rfl (pc0 := 197) (pc' := 200) (same := true) rfl (hb hby at_197) rfl (decide_eq_true rfl) (by decide) (by decide) k_) ?_
      show own_Goes p e below (T260.setTop (mkF m 200 #[.val (.int k), .val (.long p1), .second, .val (.long p2), .second, .val (.long p3), .second, .val (.int (3 : Int32)), .val (.int (0 : Int32)), .val (.ref av224), .val (.ref av226), .val (.ref av229), .val (.ref b233), .val (.ref mv254), .val (.ref b233)] [])) (G_own_law Z k p1 p2 p3 ac cl h0 n0 s)
      refine own_go (fun _ k_ => XS.aload X260.here hx rfl (hb hby at_200) rfl rfl k_) ?_
      show own_Goes p e below (T260.setTop (mkF m 202 #[.val (.int k), .val (.long p1), .second, .val (.long p2), .second, .val (.long p3), .second, .val (.int (3 : Int32)), .val (.int (0 : Int32)), .val (.ref av224), .val (.ref av226), .val (.ref av229), .val (.ref b233), .val (.ref mv254), .val (.ref b233)] [(.ref b233)])) (G_own_law Z k p1 p2 p3 ac cl h0 n0 s)
      refine own_go (fun _ k_ => XS.iconst X260.here hx rfl (hb hby at_202) k_) ?_
      show own_Goes p e below (T260.setTop (mkF m 203 #[.val (.int k), .val (.long p1), .second, .val (.long p2), .second, .val (.long p3), .second, .val (.int (3 : Int32)), .val (.int (0 : Int32)), .val (.ref av224), .val (.ref av226), .val (.ref av229), .val (.ref b233), .val (.ref mv254), .val (.ref b233)] [(.int (2 : Int32)), (.ref b233)])) (G_own_law Z k p1 p2 p3 ac cl h0 n0 s)
      obtain ⟨c267, Ar267, q267, s267, z267, H267, G267⟩ := id Av249_259
      have hin267 := inb_of s267 (j := (2 : Int32)) (by decide)
      have hat267 := H267.at hin267 (v := (.ref av229)) rfl
      refine own_go (fun _ k_ => X260.aaload hx (j := (2 : Int32)) (v := (.ref av229)) (by rw [e260]; exact Ar267.1) (State.isArrayOf_alike hZ.alike Ar267.2.1) rfl Ar267.2.2 hin267 hat267 (g := (mkF m 203 #[.val (.int k), .val (.long p1), .second, .val (.long p2), .second, .val (.long p3), .second, .val (.int (3 : Int32)), .val (.int (0 : Int32)), .val (.ref av224), .val (.ref av226), .val (.ref av229), .val (.ref b233), .val (.ref mv254), .val (.ref b233)] [(.int (2 : Int32)), (.ref b233)])) rfl rfl (hb hby at_203) _ k_) ?_
      show own_Goes p e below (T260.setTop (mkF m 204 #[.val (.int k), .val (.long p1), .second, .val (.long p2), .second, .val (.long p3), .second, .val (.int (3 : Int32)), .val (.int (0 : Int32)), .val (.ref av224), .val (.ref av226), .val (.ref av229), .val (.ref b233), .val (.ref mv254), .val (.ref b233)] [(.ref av229)])) (G_own_law Z k p1 p2 p3 ac cl h0 n0 s)
      refine own_go (fun _ k_ => XS.aload X260.here hx rfl (hb hby at_204) rfl rfl k_) ?_
      show own_Goes p e below (T260.setTop (mkF m 206 #[.val (.int k), .val (.long p1), .second, .val (.long p2), .second, .val (.long p3), .second, .val (.int (3 : Int32)), .val (.int (0 : Int32)), .val (.ref av224), .val (.ref av226), .val (.ref av229), .val (.ref b233), .val (.ref mv254), .val (.ref b233)] [(.ref av229), (.ref av229)])) (G_own_law Z k p1 p2 p3 ac cl h0 n0 s)
      refine own_go (fun _ k_ => Jvm.RoadKit.acmp (g := (mkF m 206 #[.val (.int k), .val (.long p1), .second, .val (.long p2), .second, .val (.long p3), .second, .val (.int (3 : Int32)), .val (.int (0 : Int32)), .val (.ref av224), .val (.ref av226), .val (.ref av229), .val (.ref b233), .val (.ref mv254), .val (.ref b233)] [(.ref av229), (.ref av229)])) X260 hx rfl rfl rfl (pc0 := 206) (pc' := 211) (same := true) rfl (hb hby at_206) rfl (decide_eq_true rfl) (by decide) (by decide) k_) ?_
      show own_Goes p e below (T260.setTop (mkF m 211 #[.val (.int k), .val (.long p1), .second, .val (.long p2), .second, .val (.long p3), .second, .val (.int (3 : Int32)), .val (.int (0 : Int32)), .val (.ref av224), .val (.ref av226), .val (.ref av229), .val (.ref b233), .val (.ref mv254), .val (.ref b233)] [])) (G_own_law Z k p1 p2 p3 ac cl h0 n0 s)
      refine own_go (fun _ k_ => XS.iconst X260.here hx rfl (hb hby at_211) k_) ?_
      show own_Goes p e below (T260.setTop (mkF m 212 #[.val (.int k), .val (.long p1), .second, .val (.long p2), .second, .val (.long p3), .second, .val (.int (3 : Int32)), .val (.int (0 : Int32)), .val (.ref av224), .val (.ref av226), .val (.ref av229), .val (.ref b233), .val (.ref mv254), .val (.ref b233)] [(.int (1 : Int32))])) (G_own_law Z k p1 p2 p3 ac cl h0 n0 s)
      obtain ⟨fs, hr, hrun, hended, hW, hsame⟩ := X260.leave (v := some (.int (1 : Int32))) (fun h => by rw [Bd.returns] at h; cases h) Bd.notSynchronized
      refine ⟨_, _, retN X260 hx (t := .boolean) Bd.returns (by simp) (hb hby at_212) hr, hrun, hended, _, _, rfl, ?_, ⟨_, rfl⟩, hW, hsame.mono (by decide) (by decide)⟩
      show Q_own_law Z k p1 p2 p3 ac cl h0 n0 _ T260.heap _
      rw [e260]
      exact ⟨rfl, N260⟩
    · refine own_go (fun _ k_ => XS.ifNo X0.here hx rfl (hb hby at_10) rfl (XT.i0_eq_f hc10_223) k_) ?_
      show own_Goes p e below (s₁.setTop (mkF m 13 #[.val (.int k), .val (.long p1), .second, .val (.long p2), .second, .val (.long p3), .second, .val (.int (3 : Int32)), .unset, .unset, .unset, .unset, .unset, .unset, .unset] [])) (G_own_law Z k p1 p2 p3 ac cl h0 n0 s)
      refine own_go (fun _ k_ => XS.iconst X0.here hx rfl (hb hby at_13) k_) ?_
      show own_Goes p e below (s₁.setTop (mkF m 14 #[.val (.int k), .val (.long p1), .second, .val (.long p2), .second, .val (.long p3), .second, .val (.int (3 : Int32)), .unset, .unset, .unset, .unset, .unset, .unset, .unset] [(.int (1 : Int32))])) (G_own_law Z k p1 p2 p3 ac cl h0 n0 s)
      refine own_go (fun _ k_ => XS.goto X0.here hx rfl (pc0 := 14) (pc' := 18) rfl (hb hby at_14) (by decide) (by decide) k_) ?_
      show own_Goes p e below (s₁.setTop (mkF m 18 #[.val (.int k), .val (.long p1), .second, .val (.long p2), .second, .val (.long p3), .second, .val (.int (3 : Int32)), .unset, .unset, .unset, .unset, .unset, .unset, .unset] [(.int (1 : Int32))])) (G_own_law Z k p1 p2 p3 ac cl h0 n0 s)
      refine own_go (fun _ k_ => XS.istore X0.here hx rfl (hb hby at_18) rfl (l' := #[.val (.int k), .val (.long p1), .second, .val (.long p2), .second, .val (.long p3), .second, .val (.int (3 : Int32)), .val (.int (1 : Int32)), .unset, .unset, .unset, .unset, .unset, .unset]) rfl k_) ?_
      show own_Goes p e below (s₁.setTop (mkF m 20 #[.val (.int k), .val (.long p1), .second, .val (.long p2), .second, .val (.long p3), .second, .val (.int (3 : Int32)), .val (.int (1 : Int32)), .unset, .unset, .unset, .unset, .unset, .unset] [])) (G_own_law Z k p1 p2 p3 ac cl h0 n0 s)
      refine own_go (fun _ k_ => XS.iload X0.here hx rfl (hb hby at_20) rfl k_) ?_
      show own_Goes p e below (s₁.setTop (mkF m 22 #[.val (.int k), .val (.long p1), .second, .val (.long p2), .second, .val (.long p3), .second, .val (.int (3 : Int32)), .val (.int (1 : Int32)), .unset, .unset, .unset, .unset, .unset, .unset] [(.int (1 : Int32))])) (G_own_law Z k p1 p2 p3 ac cl h0 n0 s)
      refine own_go (fun _ k_ => XS.ifNo X0.here hx rfl (hb hby at_22) rfl (XT.i0_eq_f (by decide)) k_) ?_
      show own_Goes p e below (s₁.setTop (mkF m 25 #[.val (.int k), .val (.long p1), .second, .val (.long p2), .second, .val (.long p3), .second, .val (.int (3 : Int32)), .val (.int (1 : Int32)), .unset, .unset, .unset, .unset, .unset, .unset] [])) (G_own_law Z k p1 p2 p3 ac cl h0 n0 s)
      refine own_go (fun _ k_ => XS.aconstNull X0.here hx rfl (hb hby at_25) k_) ?_
      show own_Goes p e below (s₁.setTop (mkF m 26 #[.val (.int k), .val (.long p1), .second, .val (.long p2), .second, .val (.long p3), .second, .val (.int (3 : Int32)), .val (.int (1 : Int32)), .unset, .unset, .unset, .unset, .unset, .unset] [.null])) (G_own_law Z k p1 p2 p3 ac cl h0 n0 s)
      refine own_go (fun _ k_ => XS.goto X0.here hx rfl (pc0 := 26) (pc' := 33) rfl (hb hby at_26) (by decide) (by decide) k_) ?_
      show own_Goes p e below (s₁.setTop (mkF m 33 #[.val (.int k), .val (.long p1), .second, .val (.long p2), .second, .val (.long p3), .second, .val (.int (3 : Int32)), .val (.int (1 : Int32)), .unset, .unset, .unset, .unset, .unset, .unset] [.null])) (G_own_law Z k p1 p2 p3 ac cl h0 n0 s)
      refine own_go (fun _ k_ => XS.astore X0.here hx rfl (hb hby at_33) rfl rfl (l' := #[.val (.int k), .val (.long p1), .second, .val (.long p2), .second, .val (.long p3), .second, .val (.int (3 : Int32)), .val (.int (1 : Int32)), .val .null, .unset, .unset, .unset, .unset, .unset]) rfl k_) ?_
      show own_Goes p e below (s₁.setTop (mkF m 35 #[.val (.int k), .val (.long p1), .second, .val (.long p2), .second, .val (.long p3), .second, .val (.int (3 : Int32)), .val (.int (1 : Int32)), .val .null, .unset, .unset, .unset, .unset, .unset] [])) (G_own_law Z k p1 p2 p3 ac cl h0 n0 s)
      refine own_go (fun _ k_ => XS.lloadN X0.here hx rfl (hb hby at_35) rfl k_) ?_
      show own_Goes p e below (s₁.setTop (mkF m 36 #[.val (.int k), .val (.long p1), .second, .val (.long p2), .second, .val (.long p3), .second, .val (.int (3 : Int32)), .val (.int (1 : Int32)), .val .null, .unset, .unset, .unset, .unset, .unset] [(.long p2)])) (G_own_law Z k p1 p2 p3 ac cl h0 n0 s)
      obtain ⟨_, _, ⟨T268, L268, k268, n268⟩, -, X268, ⟨Lc268, hQ268, l268, y268, z268⟩, st268⟩ := Jvm.LawKit.callS X0 hx (y := (⟨"java/lang/Long", "valueOf", "(J)Ljava/lang/Long;"⟩ : MethodName)) hown (mvT hZ (hw _ (List.mem_of_getElem? (i := 0) rfl))) (mvT hZ (hw _ (List.mem_of_getElem? (i := 1) rfl))) (mvT hZ (hw _ (List.mem_of_getElem? (i := 2) rfl))) (mvT hZ (hw _ (List.mem_of_getElem? (i := 3) rfl))) (by decide) (backOf (W := 0) (own_voM l Z a0 hw [] p2 ac cl h0 n0 Z0 O0 S0 A0 hsz hel) hZ (hw _ (List.mem_of_getElem? (i := 3) rfl)) (hw _ (List.mem_of_getElem? (i := 2) rfl)) (by decide) (by decide)) (g := (mkF m 36 #[.val (.int k), .val (.long p1), .second, .val (.long p2), .second, .val (.long p3), .second, .val (.int (3 : Int32)), .val (.int (1 : Int32)), .val .null, .unset, .unset, .unset, .unset, .unset] [(.long p2)])) rfl (by rw [hml]; rfl) (argsL := [(.long p2)]) (rest := []) (lenOf own_pd3 rfl) rfl (by show 2 * 0 + _ ≤ _; exact Nat.le_of_eq rfl) (hb hby at_36) (fun _ _ => ⟨rfl, e0, (by decide : 0 + 1 ≤ _), (by decide : 0 + 1 ≤ _)⟩)
      dsimp only [Pt.U, Pt.locs, Pt.cells, Pt.slots] at X268 l268 y268 z268 st268 hQ268
      subst l268 y268 z268
      obtain ⟨⟨av268, rfl, Ev268⟩, N268q, Kq268⟩ := hQ268
      have N268 := Fr.app N0 N268q
      have O0_269 := O0.keep Kq268 all0
      have Z268 : n0 ≤ T268.heap.size := Nat.le_trans Z0 Kq268.1
      refine own_go st268 ?_
      show own_Goes p e below (T268.setTop (mkF m 39 #[.val (.int k), .val (.long p1), .second, .val (.long p2), .second, .val (.long p3), .second, .val (.int (3 : Int32)), .val (.int (1 : Int32)), .val .null, .unset, .unset, .unset, .unset, .unset] [(.ref av268)])) (G_own_law Z k p1 p2 p3 ac cl h0 n0 s)
      refine own_go (fun _ k_ => XS.astore X268.here hx rfl (hb hby at_39) rfl rfl (l' := #[.val (.int k), .val (.long p1), .second, .val (.long p2), .second, .val (.long p3), .second, .val (.int (3 : Int32)), .val (.int (1 : Int32)), .val .null, .val (.ref av268), .unset, .unset, .unset, .unset]) rfl k_) ?_
      show own_Goes p e below (T268.setTop (mkF m 41 #[.val (.int k), .val (.long p1), .second, .val (.long p2), .second, .val (.long p3), .second, .val (.int (3 : Int32)), .val (.int (1 : Int32)), .val .null, .val (.ref av268), .unset, .unset, .unset, .unset] [])) (G_own_law Z k p1 p2 p3 ac cl h0 n0 s)
      refine own_go (fun _ k_ => XS.lload X268.here hx rfl (hb hby at_41) rfl k_) ?_
      show own_Goes p e below (T268.setTop (mkF m 43 #[.val (.int k), .val (.long p1), .second, .val (.long p2), .second, .val (.long p3), .second, .val (.int (3 : Int32)), .val (.int (1 : Int32)), .val .null, .val (.ref av268), .unset, .unset, .unset, .unset] [(.long p3)])) (G_own_law Z k p1 p2 p3 ac cl h0 n0 s)
      obtain ⟨_, _, ⟨T270, L270, k270, n270⟩, -, X270, ⟨Lc270, hQ270, l270, y270, z270⟩, st270⟩ := Jvm.LawKit.callS X268 hx (y := (⟨"java/lang/Long", "valueOf", "(J)Ljava/lang/Long;"⟩ : MethodName)) hown (mvT hZ (hw _ (List.mem_of_getElem? (i := 0) rfl))) (mvT hZ (hw _ (List.mem_of_getElem? (i := 1) rfl))) (mvT hZ (hw _ (List.mem_of_getElem? (i := 2) rfl))) (mvT hZ (hw _ (List.mem_of_getElem? (i := 3) rfl))) (by decide) (backOf (W := 0) (own_voM l Z a0 hw [] p3 ac cl T268.heap n0 Z268 O0_269 S0 A0 hsz hel) hZ (hw _ (List.mem_of_getElem? (i := 3) rfl)) (hw _ (List.mem_of_getElem? (i := 2) rfl)) (by decide) (by decide)) (g := (mkF m 43 #[.val (.int k), .val (.long p1), .second, .val (.long p2), .second, .val (.long p3), .second, .val (.int (3 : Int32)), .val (.int (1 : Int32)), .val .null, .val (.ref av268), .unset, .unset, .unset, .unset] [(.long p3)])) rfl (by rw [hml]; rfl) (argsL := [(.long p3)]) (rest := []) (lenOf own_pd3 rfl) rfl (by show 2 * 0 + _ ≤ _; exact Nat.le_of_eq rfl) (hb hby at_43) (fun _ _ => ⟨rfl, rfl, (by decide : 1 + 1 ≤ _), (by decide : 1 + 1 ≤ _)⟩)
      dsimp only [Pt.U, Pt.locs, Pt.cells, Pt.slots] at X270 l270 y270 z270 st270 hQ270
      subst l270 y270 z270
      obtain ⟨⟨av270, rfl, Ev270⟩, N270q, Kq270⟩ := hQ270
      have N270 := Fr.app N268 N270q
      have O0_271 := O0_269.keep Kq270 all0
      have Ev268_272 := Ev268.keep Kq270
      have Z270 : n0 ≤ T270.heap.size := Nat.le_trans Z268 Kq270.1
      refine own_go st270 ?_
      show own_Goes p e below (T270.setTop (mkF m 46 #[.val (.int k), .val (.long p1), .second, .val (.long p2), .second, .val (.long p3), .second, .val (.int (3 : Int32)), .val (.int (1 : Int32)), .val .null, .val (.ref av268), .unset, .unset, .unset, .unset] [(.ref av270)])) (G_own_law Z k p1 p2 p3 ac cl h0 n0 s)
      refine own_go (fun _ k_ => XS.astore X270.here hx rfl (hb hby at_46) rfl rfl (l' := #[.val (.int k), .val (.long p1), .second, .val (.long p2), .second, .val (.long p3), .second, .val (.int (3 : Int32)), .val (.int (1 : Int32)), .val .null, .val (.ref av268), .val (.ref av270), .unset, .unset, .unset]) rfl k_) ?_
      show own_Goes p e below (T270.setTop (mkF m 48 #[.val (.int k), .val (.long p1), .second, .val (.long p2), .second, .val (.long p3), .second, .val (.int (3 : Int32)), .val (.int (1 : Int32)), .val .null, .val (.ref av268), .val (.ref av270), .unset, .unset, .unset] [])) (G_own_law Z k p1 p2 p3 ac cl h0 n0 s)
      refine own_go (fun _ k_ => XS.iload X270.here hx rfl (hb hby at_48) rfl k_) ?_
      show own_Goes p e below (T270.setTop (mkF m 50 #[.val (.int k), .val (.long p1), .second, .val (.long p2), .second, .val (.long p3), .second, .val (.int (3 : Int32)), .val (.int (1 : Int32)), .val .null, .val (.ref av268), .val (.ref av270), .unset, .unset, .unset] [(.int (3 : Int32))])) (G_own_law Z k p1 p2 p3 ac cl h0 n0 s)
      obtain ⟨T273, h273, cA273, X273, e273, E273, A273, O273, st273⟩ := newR X270 hx hZ hown (hw _ (List.mem_of_getElem? (i := 25) rfl)) (hw _ (List.mem_of_getElem? (i := 26) rfl)) rfl (g := (mkF m 50 #[.val (.int k), .val (.long p1), .second, .val (.long p2), .second, .val (.long p3), .second, .val (.int (3 : Int32)), .val (.int (1 : Int32)), .val .null, .val (.ref av268), .val (.ref av270), .unset, .unset, .unset] [(.int (3 : Int32))])) rfl (hb hby at_50) rfl (by decide) (cap := 3) (by decide) (by decide) (by decide) (by decide)
      obtain ⟨b273, g273⟩ : ∃ z, z = T270.heap.size := ⟨_, rfl⟩
      rw [← g273] at A273 st273
      have ne_av268_b273 : av268 ≠ b273 := by rw [g273]; exact Nat.ne_of_lt Ev268_272.lt
      have ne_av270_b273 : av270 ≠ b273 := by rw [g273]; exact Nat.ne_of_lt Ev270.lt
      have O0_275 := O0_271.ext E273
      have Ev268_276 := Ev268_272.ext E273
      have Ev270_277 := Ev270.ext E273
      have g_b273 : n0 ≤ b273 := by rw [g273]; exact Z270
      have Z273 : n0 ≤ h273.size := Nat.le_trans Z270 E273.1
      have Av273 : Arv Z h273 b273 cA273 (.object "java/lang/Object") (3 : Int32) [] .null := Arv.new A273 (by decide)
      have Aw273 : Arv Z h273 b273 cA273 (.object "java/lang/Object") (3 : Int32) [.null, .null, .null] (.null) := Av273.pad (pad_rep [] _ 3)
      refine own_go st273 ?_
      show own_Goes p e below (T273.setTop (mkF m 53 #[.val (.int k), .val (.long p1), .second, .val (.long p2), .second, .val (.long p3), .second, .val (.int (3 : Int32)), .val (.int (1 : Int32)), .val .null, .val (.ref av268), .val (.ref av270), .unset, .unset, .unset] [(.ref b273)])) (G_own_law Z k p1 p2 p3 ac cl h0 n0 s)
      refine own_go (fun _ k_ => XS.astore X273.here hx rfl (hb hby at_53) rfl rfl (l' := #[.val (.int k), .val (.long p1), .second, .val (.long p2), .second, .val (.long p3), .second, .val (.int (3 : Int32)), .val (.int (1 : Int32)), .val .null, .val (.ref av268), .val (.ref av270), .val (.ref b273), .unset, .unset]) rfl k_) ?_
      show own_Goes p e below (T273.setTop (mkF m 55 #[.val (.int k), .val (.long p1), .second, .val (.long p2), .second, .val (.long p3), .second, .val (.int (3 : Int32)), .val (.int (1 : Int32)), .val .null, .val (.ref av268), .val (.ref av270), .val (.ref b273), .unset, .unset] [])) (G_own_law Z k p1 p2 p3 ac cl h0 n0 s)
      refine own_go (fun _ k_ => XS.iload X273.here hx rfl (hb hby at_55) rfl k_) ?_
      show own_Goes p e below (T273.setTop (mkF m 57 #[.val (.int k), .val (.long p1), .second, .val (.long p2), .second, .val (.long p3), .second, .val (.int (3 : Int32)), .val (.int (1 : Int32)), .val .null, .val (.ref av268), .val (.ref av270), .val (.ref b273), .unset, .unset] [(.int (3 : Int32))])) (G_own_law Z k p1 p2 p3 ac cl h0 n0 s)
      refine own_go (fun _ k_ => XS.ifNo X273.here hx rfl (hb hby at_57) rfl (XT.i0_le_f (by decide)) k_) ?_
      show own_Goes p e below (T273.setTop (mkF m 60 #[.val (.int k), .val (.long p1), .second, .val (.long p2), .second, .val (.long p3), .second, .val (.int (3 : Int32)), .val (.int (1 : Int32)), .val .null, .val (.ref av268), .val (.ref av270), .val (.ref b273), .unset, .unset] [])) (G_own_law Z k p1 p2 p3 ac cl h0 n0 s)
      refine own_go (fun _ k_ => XS.aload X273.here hx rfl (hb hby at_60) rfl rfl k_) ?_
      show own_Goes p e below (T273.setTop (mkF m 62 #[.val (.int k), .val (.long p1), .second, .val (.long p2), .second, .val (.long p3), .second, .val (.int (3 : Int32)), .val (.int (1 : Int32)), .val .null, .val (.ref av268), .val (.ref av270), .val (.ref b273), .unset, .unset] [(.ref b273)])) (G_own_law Z k p1 p2 p3 ac cl h0 n0 s)
      refine own_go (fun _ k_ => XS.iconst X273.here hx rfl (hb hby at_62) k_) ?_
      show own_Goes p e below (T273.setTop (mkF m 63 #[.val (.int k), .val (.long p1), .second, .val (.long p2), .second, .val (.long p3), .second, .val (.int (3 : Int32)), .val (.int (1 : Int32)), .val .null, .val (.ref av268), .val (.ref av270), .val (.ref b273), .unset, .unset] [(.int (0 : Int32)), (.ref b273)])) (G_own_law Z k p1 p2 p3 ac cl h0 n0 s)
      refine own_go (fun _ k_ => XS.aload X273.here hx rfl (hb hby at_63) rfl rfl k_) ?_
      show own_Goes p e below (T273.setTop (mkF m 65 #[.val (.int k), .val (.long p1), .second, .val (.long p2), .second, .val (.long p3), .second, .val (.int (3 : Int32)), .val (.int (1 : Int32)), .val .null, .val (.ref av268), .val (.ref av270), .val (.ref b273), .unset, .unset] [.null, (.int (0 : Int32)), (.ref b273)])) (G_own_law Z k p1 p2 p3 ac cl h0 n0 s)
      obtain ⟨c278, Ar278, q278, s278, z278, H278, G278⟩ := id Aw273
      have hin278 := inb_of s278 (j := (0 : Int32)) (by decide)
      obtain ⟨T278, h278, X278, e278, W278, st278⟩ := stR X273 hx hZ e273 Ar278 hin278 rfl (Or.inl rfl) (g := (mkF m 65 #[.val (.int k), .val (.long p1), .second, .val (.long p2), .second, .val (.long p3), .second, .val (.int (3 : Int32)), .val (.int (1 : Int32)), .val .null, .val (.ref av268), .val (.ref av270), .val (.ref b273), .unset, .unset] [.null, (.int (0 : Int32)), (.ref b273)])) rfl rfl (hb hby at_65)
      have O0_279 := O0_275.wr W278 g_b273
      have Ev268_280 := Ev268_276.wr W278
      have Ev270_281 := Ev270_277.wr W278
      have Av278 : Arv Z h278 b273 cA273 (.object "java/lang/Object") (3 : Int32) [.null, .null, .null] (.null) := Arv.set Ar278 q278 s278 z278 H278 G278 (v := .null) rfl W278 0 rfl (by first | decide | simp)
      have N278 := Fr.snoc X278 N270 g_b273
      have Z278 : n0 ≤ h278.size := by rw [W278.size]; exact Z273
      refine own_go st278 ?_
      show own_Goes p e below (T278.setTop (mkF m 66 #[.val (.int k), .val (.long p1), .second, .val (.long p2), .second, .val (.long p3), .second, .val (.int (3 : Int32)), .val (.int (1 : Int32)), .val .null, .val (.ref av268), .val (.ref av270), .val (.ref b273), .unset, .unset] [])) (G_own_law Z k p1 p2 p3 ac cl h0 n0 s)
      refine own_go (fun _ k_ => XS.iload X278.here hx rfl (hb hby at_66) rfl k_) ?_
      show own_Goes p e below (T278.setTop (mkF m 68 #[.val (.int k), .val (.long p1), .second, .val (.long p2), .second, .val (.long p3), .second, .val (.int (3 : Int32)), .val (.int (1 : Int32)), .val .null, .val (.ref av268), .val (.ref av270), .val (.ref b273), .unset, .unset] [(.int (3 : Int32))])) (G_own_law Z k p1 p2 p3 ac cl h0 n0 s)
      refine own_go (fun _ k_ => XS.iconst X278.here hx rfl (hb hby at_68) k_) ?_
      show own_Goes p e below (T278.setTop (mkF m 69 #[.val (.int k), .val (.long p1), .second, .val (.long p2), .second, .val (.long p3), .second, .val (.int (3 : Int32)), .val (.int (1 : Int32)), .val .null, .val (.ref av268), .val (.ref av270), .val (.ref b273), .unset, .unset] [(.int (1 : Int32)), (.int (3 : Int32))])) (G_own_law Z k p1 p2 p3 ac cl h0 n0 s)
      refine own_go (fun _ k_ => XS.icmpNo X278.here hx rfl (hb hby at_69) rfl (XT.ii_le_f (by decide)) k_) ?_
      show own_Goes p e below (T278.setTop (mkF m 72 #[.val (.int k), .val (.long p1), .second, .val (.long p2), .second, .val (.long p3), .second, .val (.int (3 : Int32)), .val (.int (1 : Int32)), .val .null, .val (.ref av268), .val (.ref av270), .val (.ref b273), .unset, .unset] [])) (G_own_law Z k p1 p2 p3 ac cl h0 n0 s)
      refine own_go (fun _ k_ => XS.aload X278.here hx rfl (hb hby at_72) rfl rfl k_) ?_
      show own_Goes p e below (T278.setTop (mkF m 74 #[.val (.int k), .val (.long p1), .second, .val (.long p2), .second, .val (.long p3), .second, .val (.int (3 : Int32)), .val (.int (1 : Int32)), .val .null, .val (.ref av268), .val (.ref av270), .val (.ref b273), .unset, .unset] [(.ref b273)])) (G_own_law Z k p1 p2 p3 ac cl h0 n0 s)
      refine own_go (fun _ k_ => XS.iconst X278.here hx rfl (hb hby at_74) k_) ?_
      show own_Goes p e below (T278.setTop (mkF m 75 #[.val (.int k), .val (.long p1), .second, .val (.long p2), .second, .val (.long p3), .second, .val (.int (3 : Int32)), .val (.int (1 : Int32)), .val .null, .val (.ref av268), .val (.ref av270), .val (.ref b273), .unset, .unset] [(.int (1 : Int32)), (.ref b273)])) (G_own_law Z k p1 p2 p3 ac cl h0 n0 s)
      refine own_go (fun _ k_ => XS.aload X278.here hx rfl (hb hby at_75) rfl rfl k_) ?_
      show own_Goes p e below (T278.setTop (mkF m 77 #[.val (.int k), .val (.long p1), .second, .val (.long p2), .second, .val (.long p3), .second, .val (.int (3 : Int32)), .val (.int (1 : Int32)), .val .null, .val (.ref av268), .val (.ref av270), .val (.ref b273), .unset, .unset] [(.ref av268), (.int (1 : Int32)), (.ref b273)])) (G_own_law Z k p1 p2 p3 ac cl h0 n0 s)
      obtain ⟨c282, Ar282, q282, s282, z282, H282, G282⟩ := id Av278
      have hin282 := inb_of s282 (j := (1 : Int32)) (by decide)
      obtain ⟨T282, h282, X282, e282, W282, st282⟩ := stR X278 hx hZ e278 Ar282 hin282 rfl (Sto.ofV Ar282 q282 O273 (Ins.of_exa Ev268_280 (hw _ (List.mem_of_getElem? (i := 43) rfl)))) (g := (mkF m 77 #[.val (.int k), .val (.long p1), .second, .val (.long p2), .second, .val (.long p3), .second, .val (.int (3 : Int32)), .val (.int (1 : Int32)), .val .null, .val (.ref av268), .val (.ref av270), .val (.ref b273), .unset, .unset] [(.ref av268), (.int (1 : Int32)), (.ref b273)])) rfl rfl (hb hby at_77)
      have O0_283 := O0_279.wr W282 g_b273
      have Ev268_284 := Ev268_280.wr W282
      have Ev270_285 := Ev270_281.wr W282
      have Av282 : Arv Z h282 b273 cA273 (.object "java/lang/Object") (3 : Int32) [.null, (.ref av268), .null] (.null) := Arv.set Ar282 q282 s282 z282 H282 G282 (v := (.ref av268)) rfl W282 1 rfl (by first | decide | simp)
      have N282 := Fr.snoc X282 N278 g_b273
      have Z282 : n0 ≤ h282.size := by rw [W282.size]; exact Z278
      refine own_go st282 ?_
      show own_Goes p e below (T282.setTop (mkF m 78 #[.val (.int k), .val (.long p1), .second, .val (.long p2), .second, .val (.long p3), .second, .val (.int (3 : Int32)), .val (.int (1 : Int32)), .val .null, .val (.ref av268), .val (.ref av270), .val (.ref b273), .unset, .unset] [])) (G_own_law Z k p1 p2 p3 ac cl h0 n0 s)
      refine own_go (fun _ k_ => XS.iload X282.here hx rfl (hb hby at_78) rfl k_) ?_
      show own_Goes p e below (T282.setTop (mkF m 80 #[.val (.int k), .val (.long p1), .second, .val (.long p2), .second, .val (.long p3), .second, .val (.int (3 : Int32)), .val (.int (1 : Int32)), .val .null, .val (.ref av268), .val (.ref av270), .val (.ref b273), .unset, .unset] [(.int (3 : Int32))])) (G_own_law Z k p1 p2 p3 ac cl h0 n0 s)
      refine own_go (fun _ k_ => XS.iconst X282.here hx rfl (hb hby at_80) k_) ?_
      show own_Goes p e below (T282.setTop (mkF m 81 #[.val (.int k), .val (.long p1), .second, .val (.long p2), .second, .val (.long p3), .second, .val (.int (3 : Int32)), .val (.int (1 : Int32)), .val .null, .val (.ref av268), .val (.ref av270), .val (.ref b273), .unset, .unset] [(.int (2 : Int32)), (.int (3 : Int32))])) (G_own_law Z k p1 p2 p3 ac cl h0 n0 s)
      refine own_go (fun _ k_ => XS.icmpNo X282.here hx rfl (hb hby at_81) rfl (XT.ii_le_f (by decide)) k_) ?_
      show own_Goes p e below (T282.setTop (mkF m 84 #[.val (.int k), .val (.long p1), .second, .val (.long p2), .second, .val (.long p3), .second, .val (.int (3 : Int32)), .val (.int (1 : Int32)), .val .null, .val (.ref av268), .val (.ref av270), .val (.ref b273), .unset, .unset] [])) (G_own_law Z k p1 p2 p3 ac cl h0 n0 s)
      refine own_go (fun _ k_ => XS.aload X282.here hx rfl (hb hby at_84) rfl rfl k_) ?_
      show own_Goes p e below (T282.setTop (mkF m 86 #[.val (.int k), .val (.long p1), .second, .val (.long p2), .second, .val (.long p3), .second, .val (.int (3 : Int32)), .val (.int (1 : Int32)), .val .null, .val (.ref av268), .val (.ref av270), .val (.ref b273), .unset, .unset] [(.ref b273)])) (G_own_law Z k p1 p2 p3 ac cl h0 n0 s)
      refine own_go (fun _ k_ => XS.iconst X282.here hx rfl (hb hby at_86) k_) ?_
      show own_Goes p e below (T282.setTop (mkF m 87 #[.val (.int k), .val (.long p1), .second, .val (.long p2), .second, .val (.long p3), .second, .val (.int (3 : Int32)), .val (.int (1 : Int32)), .val .null, .val (.ref av268), .val (.ref av270), .val (.ref b273), .unset, .unset] [(.int (2 : Int32)), (.ref b273)])) (G_own_law Z k p1 p2 p3 ac cl h0 n0 s)
      refine own_go (fun _ k_ => XS.aload X282.here hx rfl (hb hby at_87) rfl rfl k_) ?_
      show own_Goes p e below (T282.setTop (mkF m 89 #[.val (.int k), .val (.long p1), .second, .val (.long p2), .second, .val (.long p3), .second, .val (.int (3 : Int32)), .val (.int (1 : Int32)), .val .null, .val (.ref av268), .val (.ref av270), .val (.ref b273), .unset, .unset] [(.ref av270), (.int (2 : Int32)), (.ref b273)])) (G_own_law Z k p1 p2 p3 ac cl h0 n0 s)
      obtain ⟨c286, Ar286, q286, s286, z286, H286, G286⟩ := id Av282
      have hin286 := inb_of s286 (j := (2 : Int32)) (by decide)
      obtain ⟨T286, h286, X286, e286, W286, st286⟩ := stR X282 hx hZ e282 Ar286 hin286 rfl (Sto.ofV Ar286 q286 O273 (Ins.of_exa Ev270_285 (hw _ (List.mem_of_getElem? (i := 43) rfl)))) (g := (mkF m 89 #[.val (.int k), .val (.long p1), .second, .val (.long p2), .second, .val (.long p3), .second, .val (.int (3 : Int32)), .val (.int (1 : Int32)), .val .null, .val (.ref av268), .val (.ref av270), .val (.ref b273), .unset, .unset] [(.ref av270), (.int (2 : Int32)), (.ref b273)])) rfl rfl (hb hby at_89)
      have O0_287 := O0_283.wr W286 g_b273
      have Ev268_288 := Ev268_284.wr W286
      have Ev270_289 := Ev270_285.wr W286
      have Av286 : Arv Z h286 b273 cA273 (.object "java/lang/Object") (3 : Int32) [.null, (.ref av268), (.ref av270)] (.null) := Arv.set Ar286 q286 s286 z286 H286 G286 (v := (.ref av270)) rfl W286 2 rfl (by first | decide | simp)
      have N286 := Fr.snoc X286 N282 g_b273
      have Z286 : n0 ≤ h286.size := by rw [W286.size]; exact Z282
      refine own_go st286 ?_
      show own_Goes p e below (T286.setTop (mkF m 90 #[.val (.int k), .val (.long p1), .second, .val (.long p2), .second, .val (.long p3), .second, .val (.int (3 : Int32)), .val (.int (1 : Int32)), .val .null, .val (.ref av268), .val (.ref av270), .val (.ref b273), .unset, .unset] [])) (G_own_law Z k p1 p2 p3 ac cl h0 n0 s)
      refine own_go (fun _ k_ => XS.aload X286.here hx rfl (hb hby at_90) rfl rfl k_) ?_
      show own_Goes p e below (T286.setTop (mkF m 92 #[.val (.int k), .val (.long p1), .second, .val (.long p2), .second, .val (.long p3), .second, .val (.int (3 : Int32)), .val (.int (1 : Int32)), .val .null, .val (.ref av268), .val (.ref av270), .val (.ref b273), .unset, .unset] [(.ref b273)])) (G_own_law Z k p1 p2 p3 ac cl h0 n0 s)
      obtain ⟨_, _, ⟨T290, L290, k290, n290⟩, -, X290, ⟨Lc290, hQ290, l290, y290, z290⟩, st290⟩ := Jvm.LawKit.callS X286 hx (y := (⟨"com/example/remnant/remnant/core/MultipleValues", "of", "([Ljava/lang/Object;)Ljava/lang/Object;"⟩ : MethodName)) hown (mvT hZ (hw _ (List.mem_of_getElem? (i := 27) rfl))) (mvT hZ (hw _ (List.mem_of_getElem? (i := 28) rfl))) (mvT hZ (hw _ (List.mem_of_getElem? (i := 29) rfl))) (mvT hZ (hw _ (List.mem_of_getElem? (i := 30) rfl))) (by decide) (backOf (W := 0) (own_ofNM l Z a0 hw [] b273 cA273 (3 : Int32) [.null, (.ref av268), (.ref av270)] h286 n0 Z286 Av286 (by decide)) hZ (hw _ (List.mem_of_getElem? (i := 30) rfl)) (hw _ (List.mem_of_getElem? (i := 29) rfl)) (by decide) (by decide)) (g := (mkF m 92 #[.val (.int k), .val (.long p1), .second, .val (.long p2), .second, .val (.long p3), .second, .val (.int (3 : Int32)), .val (.int (1 : Int32)), .val .null, .val (.ref av268), .val (.ref av270), .val (.ref b273), .unset, .unset] [(.ref b273)])) rfl (by rw [hml]; rfl) (argsL := [(.ref b273)]) (rest := []) (lenOf own_pd4 rfl) rfl (by show 2 * 0 + _ ≤ _; exact Nat.le_of_eq rfl) (hb hby at_92) (fun _ _ => ⟨rfl, e286, (by decide : 3 + 1 ≤ _), (by decide : 5 + 1 ≤ _)⟩)
      dsimp only [Pt.U, Pt.locs, Pt.cells, Pt.slots] at X290 l290 y290 z290 st290 hQ290
      subst l290 y290 z290
      obtain ⟨⟨mv290, rfl, Em290, Fm290⟩, N290q, Kq290⟩ := hQ290
      have N290 := Fr.app N286 N290q
      have O0_291 := O0_287.keep Kq290 all0
      have Ev268_292 := Ev268_288.keep Kq290
      have Ev270_293 := Ev270_289.keep Kq290
      have Av286_294 := Av286.keep Kq290 nin0
      have Z290 : n0 ≤ T290.heap.size := Nat.le_trans Z286 Kq290.1
      refine own_go st290 ?_
      show own_Goes p e below (T290.setTop (mkF m 95 #[.val (.int k), .val (.long p1), .second, .val (.long p2), .second, .val (.long p3), .second, .val (.int (3 : Int32)), .val (.int (1 : Int32)), .val .null, .val (.ref av268), .val (.ref av270), .val (.ref b273), .unset, .unset] [(.ref mv290)])) (G_own_law Z k p1 p2 p3 ac cl h0 n0 s)
      refine own_go (fun _ k_ => XS.astore X290.here hx rfl (hb hby at_95) rfl rfl (l' := #[.val (.int k), .val (.long p1), .second, .val (.long p2), .second, .val (.long p3), .second, .val (.int (3 : Int32)), .val (.int (1 : Int32)), .val .null, .val (.ref av268), .val (.ref av270), .val (.ref b273), .val (.ref mv290), .unset]) rfl k_) ?_
      show own_Goes p e below (T290.setTop (mkF m 97 #[.val (.int k), .val (.long p1), .second, .val (.long p2), .second, .val (.long p3), .second, .val (.int (3 : Int32)), .val (.int (1 : Int32)), .val .null, .val (.ref av268), .val (.ref av270), .val (.ref b273), .val (.ref mv290), .unset] [])) (G_own_law Z k p1 p2 p3 ac cl h0 n0 s)
      refine own_go (fun _ k_ => XS.aload X290.here hx rfl (hb hby at_97) rfl rfl k_) ?_
      show own_Goes p e below (T290.setTop (mkF m 99 #[.val (.int k), .val (.long p1), .second, .val (.long p2), .second, .val (.long p3), .second, .val (.int (3 : Int32)), .val (.int (1 : Int32)), .val .null, .val (.ref av268), .val (.ref av270), .val (.ref b273), .val (.ref mv290), .unset] [(.ref mv290)])) (G_own_law Z k p1 p2 p3 ac cl h0 n0 s)
      obtain ⟨_, _, ⟨T295, L295, k295, n295⟩, -, X295, ⟨Lc295, hQ295, l295, y295, z295⟩, st295⟩ := Jvm.LawKit.callS X290 hx (y := (⟨"com/example/remnant/remnant/core/MultipleValues", "spread", "(Ljava/lang/Object;)[Ljava/lang/Object;"⟩ : MethodName)) hown (mvT hZ (hw _ (List.mem_of_getElem? (i := 39) rfl))) (mvT hZ (hw _ (List.mem_of_getElem? (i := 40) rfl))) (mvT hZ (hw _ (List.mem_of_getElem? (i := 29) rfl))) (mvT hZ (hw _ (List.mem_of_getElem? (i := 41) rfl))) (by decide) (backOf (W := 0) (own_spMVM l Z a0 hw [] mv290 b273 T290.heap n0 Z290 Em290 Fm290) hZ (hw _ (List.mem_of_getElem? (i := 41) rfl)) (hw _ (List.mem_of_getElem? (i := 29) rfl)) (by decide) (by decide)) (g := (mkF m 99 #[.val (.int k), .val (.long p1), .second, .val (.long p2), .second, .val (.long p3), .second, .val (.int (3 : Int32)), .val (.int (1 : Int32)), .val .null, .val (.ref av268), .val (.ref av270), .val (.ref b273), .val (.ref mv290), .unset] [(.ref mv290)])) rfl (by rw [hml]; rfl) (argsL := [(.ref mv290)]) (rest := []) (lenOf own_pd5 rfl) rfl (by show 2 * 0 + _ ≤ _; exact Nat.le_of_eq rfl) (hb hby at_99) (fun _ _ => ⟨rfl, rfl, (by decide : 4 + 0 ≤ _), (by decide : 6 + 0 ≤ _)⟩)
      dsimp only [Pt.U, Pt.locs, Pt.cells, Pt.slots] at X295 l295 y295 z295 st295 hQ295
      subst l295 y295 z295
      obtain ⟨rfl, N295q, e295⟩ := hQ295
      have N295 := Fr.app N290 N295q
      refine own_go st295 ?_
      show own_Goes p e below (T295.setTop (mkF m 102 #[.val (.int k), .val (.long p1), .second, .val (.long p2), .second, .val (.long p3), .second, .val (.int (3 : Int32)), .val (.int (1 : Int32)), .val .null, .val (.ref av268), .val (.ref av270), .val (.ref b273), .val (.ref mv290), .unset] [(.ref b273)])) (G_own_law Z k p1 p2 p3 ac cl h0 n0 s)
      refine own_go (fun _ k_ => XS.astore X295.here hx rfl (hb hby at_102) rfl rfl (l' := #[.val (.int k), .val (.long p1), .second, .val (.long p2), .second, .val (.long p3), .second, .val (.int (3 : Int32)), .val (.int (1 : Int32)), .val .null, .val (.ref av268), .val (.ref av270), .val (.ref b273), .val (.ref mv290), .val (.ref b273)]) rfl k_) ?_
      show own_Goes p e below (T295.setTop (mkF m 104 #[.val (.int k), .val (.long p1), .second, .val (.long p2), .second, .val (.long p3), .second, .val (.int (3 : Int32)), .val (.int (1 : Int32)), .val .null, .val (.ref av268), .val (.ref av270), .val (.ref b273), .val (.ref mv290), .val (.ref b273)] [])) (G_own_law Z k p1 p2 p3 ac cl h0 n0 s)
      refine own_go (fun _ k_ => XS.aload X295.here hx rfl (hb hby at_104) rfl rfl k_) ?_
      show own_Goes p e below (T295.setTop (mkF m 106 #[.val (.int k), .val (.long p1), .second, .val (.long p2), .second, .val (.long p3), .second, .val (.int (3 : Int32)), .val (.int (1 : Int32)), .val .null, .val (.ref av268), .val (.ref av270), .val (.ref b273), .val (.ref mv290), .val (.ref b273)] [(.ref b273)])) (G_own_law Z k p1 p2 p3 ac cl h0 n0 s)
      refine own_go (fun _ k_ => XS.ifnullNo X295.here hx rfl (hb hby at_106) rfl k_) ?_
      show own_Goes p e below (T295.setTop (mkF m 109 #[.val (.int k), .val (.long p1), .second, .val (.long p2), .second, .val (.long p3), .second, .val (.int (3 : Int32)), .val (.int (1 : Int32)), .val .null, .val (.ref av268), .val (.ref av270), .val (.ref b273), .val (.ref mv290), .val (.ref b273)] [])) (G_own_law Z k p1 p2 p3 ac cl h0 n0 s)
      refine own_go (fun _ k_ => XS.aload X295.here hx rfl (hb hby at_109) rfl rfl k_) ?_
      show own_Goes p e below (T295.setTop (mkF m 111 #[.val (.int k), .val (.long p1), .second, .val (.long p2), .second, .val (.long p3), .second, .val (.int (3 : Int32)), .val (.int (1 : Int32)), .val .null, .val (.ref av268), .val (.ref av270), .val (.ref b273), .val (.ref mv290), .val (.ref b273)] [(.ref b273)])) (G_own_law Z k p1 p2 p3 ac cl h0 n0 s)
      obtain ⟨c296, Ar296, q296, s296, z296, H296, G296⟩ := id Av286_294
      refine own_go (fun _ k_ => X295.arraylength hx (by rw [e295]; exact Ar296.1) (State.isArrayOf_alike hZ.alike Ar296.2.1) (g := (mkF m 111 #[.val (.int k), .val (.long p1), .second, .val (.long p2), .second, .val (.long p3), .second, .val (.int (3 : Int32)), .val (.int (1 : Int32)), .val .null, .val (.ref av268), .val (.ref av270), .val (.ref b273), .val (.ref mv290), .val (.ref b273)] [(.ref b273)])) rfl rfl (hb hby at_111) _ k_) ?_
      rw [len_of s296 z296]
      show own_Goes p e below (T295.setTop (mkF m 112 #[.val (.int k), .val (.long p1), .second, .val (.long p2), .second, .val (.long p3), .second, .val (.int (3 : Int32)), .val (.int (1 : Int32)), .val .null, .val (.ref av268), .val (.ref av270), .val (.ref b273), .val (.ref mv290), .val (.ref b273)] [(.int (3 : Int32))])) (G_own_law Z k p1 p2 p3 ac cl h0 n0 s)
      refine own_go (fun _ k_ => XS.iload X295.here hx rfl (hb hby at_112) rfl k_) ?_
      show own_Goes p e below (T295.setTop (mkF m 114 #[.val (.int k), .val (.long p1), .second, .val (.long p2), .second, .val (.long p3), .second, .val (.int (3 : Int32)), .val (.int (1 : Int32)), .val .null, .val (.ref av268), .val (.ref av270), .val (.ref b273), .val (.ref mv290), .val (.ref b273)] [(.int (3 : Int32)), (.int (3 : Int32))])) (G_own_law Z k p1 p2 p3 ac cl h0 n0 s)
      refine own_go (fun _ k_ => XS.icmpYes X295.here hx rfl (pc0 := 114) (pc' := 119) rfl (hb hby at_114) rfl (XT.ii_eq_t (rfl : (3 : Int32) = (3 : Int32))) (by decide) (by decide) k_) ?_
      show own_Goes p e below (T295.setTop (mkF m 119 #[.val (.int k), .val (.long p1), .second, .val (.long p2), .second, .val (.long p3), .second, .val (.int (3 : Int32)), .val (.int (1 : Int32)), .val .null, .val (.ref av268), .val (.ref av270), .val (.ref b273), .val (.ref mv290), .val (.ref b273)] [])) (G_own_law Z k p1 p2 p3 ac cl h0 n0 s)
      refine own_go (fun _ k_ => XS.iload X295.here hx rfl (hb hby at_119) rfl k_) ?_
      show own_Goes p e below (T295.setTop (mkF m 121 #[.val (.int k), .val (.long p1), .second, .val (.long p2), .second, .val (.long p3), .second, .val (.int (3 : Int32)), .val (.int (1 : Int32)), .val .null, .val (.ref av268), .val (.ref av270), .val (.ref b273), .val (.ref mv290), .val (.ref b273)] [(.int (3 : Int32))])) (G_own_law Z k p1 p2 p3 ac cl h0 n0 s)
      refine own_go (fun _ k_ => XS.iconst X295.here hx rfl (hb hby at_121) k_) ?_
      show own_Goes p e below (T295.setTop (mkF m 122 #[.val (.int k), .val (.long p1), .second, .val (.long p2), .second, .val (.long p3), .second, .val (.int (3 : Int32)), .val (.int (1 : Int32)), .val .null, .val (.ref av268), .val (.ref av270), .val (.ref b273), .val (.ref mv290), .val (.ref b273)] [(.int (1 : Int32)), (.int (3 : Int32))])) (G_own_law Z k p1 p2 p3 ac cl h0 n0 s)
      refine own_go (fun _ k_ => XS.icmpNo X295.here hx rfl (hb hby at_122) rfl (XT.ii_eq_f (by decide)) k_) ?_
      show own_Goes p e below (T295.setTop (mkF m 125 #[.val (.int k), .val (.long p1), .second, .val (.long p2), .second, .val (.long p3), .second, .val (.int (3 : Int32)), .val (.int (1 : Int32)), .val .null, .val (.ref av268), .val (.ref av270), .val (.ref b273), .val (.ref mv290), .val (.ref b273)] [])) (G_own_law Z k p1 p2 p3 ac cl h0 n0 s)
      refine own_go (fun _ k_ => XS.aload X295.here hx rfl (hb hby at_125) rfl rfl k_) ?_
      show own_Goes p e below (T295.setTop (mkF m 127 #[.val (.int k), .val (.long p1), .second, .val (.long p2), .second, .val (.long p3), .second, .val (.int (3 : Int32)), .val (.int (1 : Int32)), .val .null, .val (.ref av268), .val (.ref av270), .val (.ref b273), .val (.ref mv290), .val (.ref b273)] [(.ref b273)])) (G_own_law Z k p1 p2 p3 ac cl h0 n0 s)
      refine own_go (fun _ k_ => XS.aload X295.here hx rfl (hb hby at_127) rfl rfl k_) ?_
      show own_Goes p e below (T295.setTop (mkF m 129 #[.val (.int k), .val (.long p1), .second, .val (.long p2), .second, .val (.long p3), .second, .val (.int (3 : Int32)), .val (.int (1 : Int32)), .val .null, .val (.ref av268), .val (.ref av270), .val (.ref b273), .val (.ref mv290), .val (.ref b273)] [(.ref b273), (.ref b273)])) (G_own_law Z k p1 p2 p3 ac cl h0 n0 s)
      refine own_go (fun _ k_ => Jvm.RoadKit.acmp (g := (mkF m 129 #[.val (.int k), .val (.long p1), .second, .val (.long p2), .second, .val (.long p3), .second, .val (.int (3 : Int32)), .val (.int (1 : Int32)), .val .null, .val (.ref av268), .val (.ref av270), .val (.ref b273), .val (.ref mv290), .val (.ref b273)] [(.ref b273), (.ref b273)])) X295 hx rfl rfl rfl (pc0 := 129) (pc' := 134) (same := true) rfl (hb hby at_129) rfl (decide_eq_true rfl) (by decide) (by decide) k_) ?_
      show own_Goes p e below (T295.setTop (mkF m 134 #[.val (.int k), .val (.long p1), .second, .val (.long p2), .second, .val (.long p3), .second, .val (.int (3 : Int32)), .val (.int (1 : Int32)), .val .null, .val (.ref av268), .val (.ref av270), .val (.ref b273), .val (.ref mv290), .val (.ref b273)] [])) (G_own_law Z k p1 p2 p3 ac cl h0 n0 s)
      refine own_go (fun _ k_ => XS.iload X295.here hx rfl (hb hby at_134) rfl k_) ?_
      show own_Goes p e below (T295.setTop (mkF m 136 #[.val (.int k), .val (.long p1), .second, .val (.long p2), .second, .val (.long p3), .second, .val (.int (3 : Int32)), .val (.int (1 : Int32)), .val .null, .val (.ref av268), .val (.ref av270), .val (.ref b273), .val (.ref mv290), .val (.ref b273)] [(.int (3 : Int32))])) (G_own_law Z k p1 p2 p3 ac cl h0 n0 s)
      refine own_go (fun _ k_ => XS.ifNo X295.here hx rfl (hb hby at_136) rfl (XT.i0_le_f (by decide)) k_) ?_
      show own_Goes p e below (T295.setTop (mkF m 139 #[.val (.int k), .val (.long p1), .second, .val (.long p2), .second, .val (.long p3), .second, .val (.int (3 : Int32)), .val (.int (1 : Int32)), .val .null, .val (.ref av268), .val (.ref av270), .val (.ref b273), .val (.ref mv290), .val (.ref b273)] [])) (G_own_law Z k p1 p2 p3 ac cl h0 n0 s)
      refine own_go (fun _ k_ => XS.aload X295.here hx rfl (hb hby at_139) rfl rfl k_) ?_
      show own_Goes p e below (T295.setTop (mkF m 141 #[.val (.int k), .val (.long p1), .second, .val (.long p2), .second, .val (.long p3), .second, .val (.int (3 : Int32)), .val (.int (1 : Int32)), .val .null, .val (.ref av268), .val (.ref av270), .val (.ref b273), .val (.ref mv290), .val (.ref b273)] [(.ref b273)])) (G_own_law Z k p1 p2 p3 ac cl h0 n0 s)
      refine own_go (fun _ k_ => XS.iconst X295.here hx rfl (hb hby at_141) k_) ?_
      show own_Goes p e below (T295.setTop (mkF m 142 #[.val (.int k), .val (.long p1), .second, .val (.long p2), .second, .val (.long p3), .second, .val (.int (3 : Int32)), .val (.int (1 : Int32)), .val .null, .val (.ref av268), .val (.ref av270), .val (.ref b273), .val (.ref mv290), .val (.ref b273)] [(.int (0 : Int32)), (.ref b273)])) (G_own_law Z k p1 p2 p3 ac cl h0 n0 s)
      obtain ⟨c297, Ar297, q297, s297, z297, H297, G297⟩ := id Av286_294
      have hin297 := inb_of s297 (j := (0 : Int32)) (by decide)
      have hat297 := H297.at hin297 (v := .null) rfl
      refine own_go (fun _ k_ => X295.aaload hx (j := (0 : Int32)) (v := .null) (by rw [e295]; exact Ar297.1) (State.isArrayOf_alike hZ.alike Ar297.2.1) rfl Ar297.2.2 hin297 hat297 (g := (mkF m 142 #[.val (.int k), .val (.long p1), .second, .val (.long p2), .second, .val (.long p3), .second, .val (.int (3 : Int32)), .val (.int (1 : Int32)), .val .null, .val (.ref av268), .val (.ref av270), .val (.ref b273), .val (.ref mv290), .val (.ref b273)] [(.int (0 : Int32)), (.ref b273)])) rfl rfl (hb hby at_142) _ k_) ?_
      show own_Goes p e below (T295.setTop (mkF m 143 #[.val (.int k), .val (.long p1), .second, .val (.long p2), .second, .val (.long p3), .second, .val (.int (3 : Int32)), .val (.int (1 : Int32)), .val .null, .val (.ref av268), .val (.ref av270), .val (.ref b273), .val (.ref mv290), .val (.ref b273)] [.null])) (G_own_law Z k p1 p2 p3 ac cl h0 n0 s)
      refine own_go (fun _ k_ => XS.aload X295.here hx rfl (hb hby at_143) rfl rfl k_) ?_
      show own_Goes p e below (T295.setTop (mkF m 145 #[.val (.int k), .val (.long p1), .second, .val (.long p2), .second, .val (.long p3), .second, .val (.int (3 : Int32)), .val (.int (1 : Int32)), .val .null, .val (.ref av268), .val (.ref av270), .val (.ref b273), .val (.ref mv290), .val (.ref b273)] [.null, .null])) (G_own_law Z k p1 p2 p3 ac cl h0 n0 s)
      refine own_go (fun _ k_ => Jvm.RoadKit.acmp (g := (mkF m 145 #[.val (.int k), .val (.long p1), .second, .val (.long p2), .second, .val (.long p3), .second, .val (.int (3 : Int32)), .val (.int (1 : Int32)), .val .null, .val (.ref av268), .val (.ref av270), .val (.ref b273), .val (.ref mv290), .val (.ref b273)] [.null, .null])) X295 hx rfl rfl rfl (pc0 := 145) (pc' := 148) (same := true) rfl (hb hby at_145) rfl (decide_eq_true rfl) (by decide) (by decide) k_) ?_
      show own_Goes p e below (T295.setTop (mkF m 148 #[.val (.int k), .val (.long p1), .second, .val (.long p2), .second, .val (.long p3), .second, .val (.int (3 : Int32)), .val (.int (1 : Int32)), .val .null, .val (.ref av268), .val (.ref av270), .val (.ref b273), .val (.ref mv290), .val (.ref b273)] [])) (G_own_law Z k p1 p2 p3 ac cl h0 n0 s)
      refine own_go (fun _ k_ => XS.aload X295.here hx rfl (hb hby at_148) rfl rfl k_) ?_
      show own_Goes p e below (T295.setTop (mkF m 150 #[.val (.int k), .val (.long p1), .second, .val (.long p2), .second, .val (.long p3), .second, .val (.int (3 : Int32)), .val (.int (1 : Int32)), .val .null, .val (.ref av268), .val (.ref av270), .val (.ref b273), .val (.ref mv290), .val (.ref b273)] [(.ref b273)])) (G_own_law Z k p1 p2 p3 ac cl h0 n0 s)
      refine own_go (fun _ k_ => XS.iconst X295.here hx rfl (hb hby at_150) k_) ?_
      show own_Goes p e below (T295.setTop (mkF m 151 #[.val (.int k), .val (.long p1), .second, .val (.long p2), .second, .val (.long p3), .second, .val (.int (3 : Int32)), .val (.int (1 : Int32)), .val .null, .val (.ref av268), .val (.ref av270), .val (.ref b273), .val (.ref mv290), .val (.ref b273)] [(.int (0 : Int32)), (.ref b273)])) (G_own_law Z k p1 p2 p3 ac cl h0 n0 s)
      obtain ⟨c298, Ar298, q298, s298, z298, H298, G298⟩ := id Av286_294
      have hin298 := inb_of s298 (j := (0 : Int32)) (by decide)
      have hat298 := H298.at hin298 (v := .null) rfl
      refine own_go (fun _ k_ => X295.aaload hx (j := (0 : Int32)) (v := .null) (by rw [e295]; exact Ar298.1) (State.isArrayOf_alike hZ.alike Ar298.2.1) rfl Ar298.2.2 hin298 hat298 (g := (mkF m 151 #[.val (.int k), .val (.long p1), .second, .val (.long p2), .second, .val (.long p3), .second, .val (.int (3 : Int32)), .val (.int (1 : Int32)), .val .null, .val (.ref av268), .val (.ref av270), .val (.ref b273), .val (.ref mv290), .val (.ref b273)] [(.int (0 : Int32)), (.ref b273)])) rfl rfl (hb hby at_151) _ k_) ?_
      show own_Goes p e below (T295.setTop (mkF m 152 #[.val (.int k), .val (.long p1), .second, .val (.long p2), .second, .val (.long p3), .second, .val (.int (3 : Int32)), .val (.int (1 : Int32)), .val .null, .val (.ref av268), .val (.ref av270), .val (.ref b273), .val (.ref mv290), .val (.ref b273)] [.null])) (G_own_law Z k p1 p2 p3 ac cl h0 n0 s)
      refine own_go (fun _ k_ => XS.aload X295.here hx rfl (hb hby at_152) rfl rfl k_) ?_
      show own_Goes p e below (T295.setTop (mkF m 154 #[.val (.int k), .val (.long p1), .second, .val (.long p2), .second, .val (.long p3), .second, .val (.int (3 : Int32)), .val (.int (1 : Int32)), .val .null, .val (.ref av268), .val (.ref av270), .val (.ref b273), .val (.ref mv290), .val (.ref b273)] [.null, .null])) (G_own_law Z k p1 p2 p3 ac cl h0 n0 s)
      refine own_go (fun _ k_ => Jvm.RoadKit.acmp (g := (mkF m 154 #[.val (.int k), .val (.long p1), .second, .val (.long p2), .second, .val (.long p3), .second, .val (.int (3 : Int32)), .val (.int (1 : Int32)), .val .null, .val (.ref av268), .val (.ref av270), .val (.ref b273), .val (.ref mv290), .val (.ref b273)] [.null, .null])) X295 hx rfl rfl rfl (pc0 := 154) (pc' := 159) (same := true) rfl (hb hby at_154) rfl (decide_eq_true rfl) (by decide) (by decide) k_) ?_
      show own_Goes p e below (T295.setTop (mkF m 159 #[.val (.int k), .val (.long p1), .second, .val (.long p2), .second, .val (.long p3), .second, .val (.int (3 : Int32)), .val (.int (1 : Int32)), .val .null, .val (.ref av268), .val (.ref av270), .val (.ref b273), .val (.ref mv290), .val (.ref b273)] [])) (G_own_law Z k p1 p2 p3 ac cl h0 n0 s)
      refine own_go (fun _ k_ => XS.iload X295.here hx rfl (hb hby at_159) rfl k_) ?_
      show own_Goes p e below (T295.setTop (mkF m 161 #[.val (.int k), .val (.long p1), .second, .val (.long p2), .second, .val (.long p3), .second, .val (.int (3 : Int32)), .val (.int (1 : Int32)), .val .null, .val (.ref av268), .val (.ref av270), .val (.ref b273), .val (.ref mv290), .val (.ref b273)] [(.int (3 : Int32))])) (G_own_law Z k p1 p2 p3 ac cl h0 n0 s)
      refine own_go (fun _ k_ => XS.iconst X295.here hx rfl (hb hby at_161) k_) ?_
      show own_Goes p e below (T295.setTop (mkF m 162 #[.val (.int k), .val (.long p1), .second, .val (.long p2), .second, .val (.long p3), .second, .val (.int (3 : Int32)), .val (.int (1 : Int32)), .val .null, .val (.ref av268), .val (.ref av270), .val (.ref b273), .val (.ref mv290), .val (.ref b273)] [(.int (1 : Int32)), (.int (3 : Int32))])) (G_own_law Z k p1 p2 p3 ac cl h0 n0 s)
      refine own_go (fun _ k_ => XS.icmpNo X295.here hx rfl (hb hby at_162) rfl (XT.ii_le_f (by decide)) k_) ?_
      show own_Goes p e below (T295.setTop (mkF m 165 #[.val (.int k), .val (.long p1), .second, .val (.long p2), .second, .val (.long p3), .second, .val (.int (3 : Int32)), .val (.int (1 : Int32)), .val .null, .val (.ref av268), .val (.ref av270), .val (.ref b273), .val (.ref mv290), .val (.ref b273)] [])) (G_own_law Z k p1 p2 p3 ac cl h0 n0 s)
      refine own_go (fun _ k_ => XS.aload X295.here hx rfl (hb hby at_165) rfl rfl k_) ?_
      show own_Goes p e below (T295.setTop (mkF m 167 #[.val (.int k), .val (.long p1), .second, .val (.long p2), .second, .val (.long p3), .second, .val (.int (3 : Int32)), .val (.int (1 : Int32)), .val .null, .val (.ref av268), .val (.ref av270), .val (.ref b273), .val (.ref mv290), .val (.ref b273)] [(.ref b273)])) (G_own_law Z k p1 p2 p3 ac cl h0 n0 s)
      refine own_go (fun _ k_ => XS.iconst X295.here hx rfl (hb hby at_167) k_) ?_
      show own_Goes p e below (T295.setTop (mkF m 168 #[.val (.int k), .val (.long p1), .second, .val (.long p2), .second, .val (.long p3), .second, .val (.int (3 : Int32)), .val (.int (1 : Int32)), .val .null, .val (.ref av268), .val (.ref av270), .val (.ref b273), .val (.ref mv290), .val (.ref b273)] [(.int (1 : Int32)), (.ref b273)])) (G_own_law Z k p1 p2 p3 ac cl h0 n0 s)
      obtain ⟨c299, Ar299, q299, s299, z299, H299, G299⟩ := id Av286_294
      have hin299 := inb_of s299 (j := (1 : Int32)) (by decide)
      have hat299 := H299.at hin299 (v := (.ref av268)) rfl
      refine own_go (fun _ k_ => X295.aaload hx (j := (1 : Int32)) (v := (.ref av268)) (by rw [e295]; exact Ar299.1) (State.isArrayOf_alike hZ.alike Ar299.2.1) rfl Ar299.2.2 hin299 hat299 (g := (mkF m 168 #[.val (.int k), .val (.long p1), .second, .val (.long p2), .second, .val (.long p3), .second, .val (.int (3 : Int32)), .val (.int (1 : Int32)), .val .null, .val (.ref av268), .val (.ref av270), .val (.ref b273), .val (.ref mv290), .val (.ref b273)] [(.int (1 : Int32)), (.ref b273)])) rfl rfl (hb hby at_168) _ k_) ?_
      show own_Goes p e below (T295.setTop (mkF m 169 #[.val (.int k), .val (.long p1), .second, .val (.long p2), .second, .val (.long p3), .second, .val (.int (3 : Int32)), .val (.int (1 : Int32)), .val .null, .val (.ref av268), .val (.ref av270), .val (.ref b273), .val (.ref mv290), .val (.ref b273)] [(.ref av268)])) (G_own_law Z k p1 p2 p3 ac cl h0 n0 s)
      refine own_go (fun _ k_ => XS.aload X295.here hx rfl (hb hby at_169) rfl rfl k_) ?_
      show own_Goes p e below (T295.setTop (mkF m 171 #[.val (.int k), .val (.long p1), .second, .val (.long p2), .second, .val (.long p3), .second, .val (.int (3 : Int32)), .val (.int (1 : Int32)), .val .null, .val (.ref av268), .val (.ref av270), .val (.ref b273), .val (.ref mv290), .val (.ref b273)] [(.ref av268), (.ref av268)])) (G_own_law Z k p1 p2 p3 ac cl h0 n0 s)
      refine own_go (fun _ k_ => Jvm.RoadKit.acmp (g := (mkF m 171 #[.val (.int k), .val (.long p1), .second, .val (.long p2), .second, .val (.long p3), .second, .val (.int (3 : Int32)), .val (.int (1 : Int32)), .val .null, .val (.ref av268), .val (.ref av270), .val (.ref b273), .val (.ref mv290), .val (.ref b273)] [(.ref av268), (.ref av268)])) X295 hx rfl rfl rfl (pc0 := 171) (pc' := 174) (same := true) rfl (hb hby at_171) rfl (decide_eq_true rfl) (by decide) (by decide) k_) ?_
      show own_Goes p e below (T295.setTop (mkF m 174 #[.val (.int k), .val (.long p1), .second, .val (.long p2), .second, .val (.long p3), .second, .val (.int (3 : Int32)), .val (.int (1 : Int32)), .val .null, .val (.ref av268), .val (.ref av270), .val (.ref b273), .val (.ref mv290), .val (.ref b273)] [])) (G_own_law Z k p1 p2 p3 ac cl h0 n0 s)
      refine own_go (fun _ k_ => XS.aload X295.here hx rfl (hb hby at_174) rfl rfl k_) ?_
      show own_Goes p e below (T295.setTop (mkF m 176 #[.val (.int k), .val (.long p1), .second, .val (.long p2), .second, .val (.long p3), .second, .val (.int (3 : Int32)), .val (.int (1 : Int32)), .val .null, .val (.ref av268), .val (.ref av270), .val (.ref b273), .val (.ref mv290), .val (.ref b273)] [(.ref b273)])) (G_own_law Z k p1 p2 p3 ac cl h0 n0 s)
      refine own_go (fun _ k_ => XS.iconst X295.here hx rfl (hb hby at_176) k_) ?_
      show own_Goes p e below (T295.setTop (mkF m 177 #[.val (.int k), .val (.long p1), .second, .val (.long p2), .second, .val (.long p3), .second, .val (.int (3 : Int32)), .val (.int (1 : Int32)), .val .null, .val (.ref av268), .val (.ref av270), .val (.ref b273), .val (.ref mv290), .val (.ref b273)] [(.int (1 : Int32)), (.ref b273)])) (G_own_law Z k p1 p2 p3 ac cl h0 n0 s)
      obtain ⟨c300, Ar300, q300, s300, z300, H300, G300⟩ := id Av286_294
      have hin300 := inb_of s300 (j := (1 : Int32)) (by decide)
      have hat300 := H300.at hin300 (v := (.ref av268)) rfl
      refine own_go (fun _ k_ => X295.aaload hx (j := (1 : Int32)) (v := (.ref av268)) (by rw [e295]; exact Ar300.1) (State.isArrayOf_alike hZ.alike Ar300.2.1) rfl Ar300.2.2 hin300 hat300 (g := (mkF m 177 #[.val (.int k), .val (.long p1), .second, .val (.long p2), .second, .val (.long p3), .second, .val (.int (3 : Int32)), .val (.int (1 : Int32)), .val .null, .val (.ref av268), .val (.ref av270), .val (.ref b273), .val (.ref mv290), .val (.ref b273)] [(.int (1 : Int32)), (.ref b273)])) rfl rfl (hb hby at_177) _ k_) ?_
      show own_Goes p e below (T295.setTop (mkF m 178 #[.val (.int k), .val (.long p1), .second, .val (.long p2), .second, .val (.long p3), .second, .val (.int (3 : Int32)), .val (.int (1 : Int32)), .val .null, .val (.ref av268), .val (.ref av270), .val (.ref b273), .val (.ref mv290), .val (.ref b273)] [(.ref av268)])) (G_own_law Z k p1 p2 p3 ac cl h0 n0 s)
      refine own_go (fun _ k_ => XS.aload X295.here hx rfl (hb hby at_178) rfl rfl k_) ?_
      show own_Goes p e below (T295.setTop (mkF m 180 #[.val (.int k), .val (.long p1), .second, .val (.long p2), .second, .val (.long p3), .second, .val (.int (3 : Int32)), .val (.int (1 : Int32)), .val .null, .val (.ref av268), .val (.ref av270), .val (.ref b273), .val (.ref mv290), .val (.ref b273)] [(.ref av268), (.ref av268)])) (G_own_law Z k p1 p2 p3 ac cl h0 n0 s)
      refine own_go (fun _ k_ => Jvm.RoadKit.acmp (g := (mkF m 180 #[.val (.int k), .val (.long p1), .second, .val (.long p2), .second, .val (.long p3), .second, .val (.int (3 : Int32)), .val (.int (1 : Int32)), .val .null, .val (.ref av268), .val (.ref av270), .val (.ref b273), .val (.ref mv290), .val (.ref b273)] [(.ref av268), (.ref av268)])) X295 hx rfl rfl rfl (pc0 := 180) (pc' := 185) (same := true) rfl (hb hby at_180) rfl (decide_eq_true rfl) (by decide) (by decide) k_) ?_
      show own_Goes p e below (T295.setTop (mkF m 185 #[.val (.int k), .val (.long p1), .second, .val (.long p2), .second, .val (.long p3), .second, .val (.int (3 : Int32)), .val (.int (1 : Int32)), .val .null, .val (.ref av268), .val (.ref av270), .val (.ref b273), .val (.ref mv290), .val (.ref b273)] [])) (G_own_law Z k p1 p2 p3 ac cl h0 n0 s)
      refine own_go (fun _ k_ => XS.iload X295.here hx rfl (hb hby at_185) rfl k_) ?_
      show own_Goes p e below (T295.setTop (mkF m 187 #[.val (.int k), .val (.long p1), .second, .val (.long p2), .second, .val (.long p3), .second, .val (.int (3 : Int32)), .val (.int (1 : Int32)), .val .null, .val (.ref av268), .val (.ref av270), .val (.ref b273), .val (.ref mv290), .val (.ref b273)] [(.int (3 : Int32))])) (G_own_law Z k p1 p2 p3 ac cl h0 n0 s)
      refine own_go (fun _ k_ => XS.iconst X295.here hx rfl (hb hby at_187) k_) ?_
      show own_Goes p e below (T295.setTop (mkF m 188 #[.val (.int k), .val (.long p1), .second, .val (.long p2), .second, .val (.long p3), .second, .val (.int (3 : Int32)), .val (.int (1 : Int32)), .val .null, .val (.ref av268), .val (.ref av270), .val (.ref b273), .val (.ref mv290), .val (.ref b273)] [(.int (2 : Int32)), (.int (3 : Int32))])) (G_own_law Z k p1 p2 p3 ac cl h0 n0 s)
      refine own_go (fun _ k_ => XS.icmpNo X295.here hx rfl (hb hby at_188) rfl (XT.ii_le_f (by decide)) k_) ?_
      show own_Goes p e below (T295.setTop (mkF m 191 #[.val (.int k), .val (.long p1), .second, .val (.long p2), .second, .val (.long p3), .second, .val (.int (3 : Int32)), .val (.int (1 : Int32)), .val .null, .val (.ref av268), .val (.ref av270), .val (.ref b273), .val (.ref mv290), .val (.ref b273)] [])) (G_own_law Z k p1 p2 p3 ac cl h0 n0 s)
      refine own_go (fun _ k_ => XS.aload X295.here hx rfl (hb hby at_191) rfl rfl k_) ?_
      show own_Goes p e below (T295.setTop (mkF m 193 #[.val (.int k), .val (.long p1), .second, .val (.long p2), .second, .val (.long p3), .second, .val (.int (3 : Int32)), .val (.int (1 : Int32)), .val .null, .val (.ref av268), .val (.ref av270), .val (.ref b273), .val (.ref mv290), .val (.ref b273)] [(.ref b273)])) (G_own_law Z k p1 p2 p3 ac cl h0 n0 s)
      refine own_go (fun _ k_ => XS.iconst X295.here hx rfl (hb hby at_193) k_) ?_
      show own_Goes p e below (T295.setTop (mkF m 194 #[.val (.int k), .val (.long p1), .second, .val (.long p2), .second, .val (.long p3), .second, .val (.int (3 : Int32)), .val (.int (1 : Int32)), .val .null, .val (.ref av268), .val (.ref av270), .val (.ref b273), .val (.ref mv290), .val (.ref b273)] [(.int (2 : Int32)), (.ref b273)])) (G_own_law Z k p1 p2 p3 ac cl h0 n0 s)
      obtain ⟨c301, Ar301, q301, s301, z301, H301, G301⟩ := id Av286_294
      have hin301 := inb_of s301 (j := (2 : Int32)) (by decide)
      have hat301 := H301.at hin301 (v := (.ref av270)) rfl
      refine own_go (fun _ k_ => X295.aaload hx (j := (2 : Int32)) (v := (.ref av270)) (by rw [e295]; exact Ar301.1) (State.isArrayOf_alike hZ.alike Ar301.2.1) rfl Ar301.2.2 hin301 hat301 (g := (mkF m 194 #[.val (.int k), .val (.long p1), .second, .val (.long p2), .second, .val (.long p3), .second, .val (.int (3 : Int32)), .val (.int (1 : Int32)), .val .null, .val (.ref av268), .val (.ref av270), .val (.ref b273), .val (.ref mv290), .val (.ref b273)] [(.int (2 : Int32)), (.ref b273)])) rfl rfl (hb hby at_194) _ k_) ?_
      show own_Goes p e below (T295.setTop (mkF m 195 #[.val (.int k), .val (.long p1), .second, .val (.long p2), .second, .val (.long p3), .second, .val (.int (3 : Int32)), .val (.int (1 : Int32)), .val .null, .val (.ref av268), .val (.ref av270), .val (.ref b273), .val (.ref mv290), .val (.ref b273)] [(.ref av270)])) (G_own_law Z k p1 p2 p3 ac cl h0 n0 s)
      refine own_go (fun _ k_ => XS.aload X295.here hx rfl (hb hby at_195) rfl rfl k_) ?_
      show own_Goes p e below (T295.setTop (mkF m 197 #[.val (.int k), .val (.long p1), .second, .val (.long p2), .second, .val (.long p3), .second, .val (.int (3 : Int32)), .val (.int (1 : Int32)), .val .null, .val (.ref av268), .val (.ref av270), .val (.ref b273), .val (.ref mv290), .val (.ref b273)] [(.ref av270), (.ref av270)])) (G_own_law Z k p1 p2 p3 ac cl h0 n0 s)
      refine own_go (fun _ k_ => Jvm.RoadKit.acmp (g := (mkF m 197 #[.val (.int k), .val (.long p1), .second, .val (.long p2), .second, .val (.long p3), .second, .val (.int (3 : Int32)), .val (.int (1 : Int32)), .val .null, .val (.ref av268), .val (.ref av270), .val (.ref b273), .val (.ref mv290), .val (.ref b273)] [(.ref av270), (.ref av270)])) X295 hx rfl rfl rfl (pc0 := 197) (pc' := 200) (same := true) rfl (hb hby at_197) rfl (decide_eq_true rfl) (by decide) (by decide) k_) ?_
      show own_Goes p e below (T295.setTop (mkF m 200 #[.val (.int k), .val (.long p1), .second, .val (.long p2), .second, .val (.long p3), .second, .val (.int (3 : Int32)), .val (.int (1 : Int32)), .val .null, .val (.ref av268), .val (.ref av270), .val (.ref b273), .val (.ref mv290), .val (.ref b273)] [])) (G_own_law Z k p1 p2 p3 ac cl h0 n0 s)
      refine own_go (fun _ k_ => XS.aload X295.here hx rfl (hb hby at_200) rfl rfl k_) ?_
      show own_Goes p e below (T295.setTop (mkF m 202 #[.val (.int k), .val (.long p1), .second, .val (.long p2), .second, .val (.long p3), .second, .val (.int (3 : Int32)), .val (.int (1 : Int32)), .val .null, .val (.ref av268), .val (.ref av270), .val (.ref b273), .val (.ref mv290), .val (.ref b273)] [(.ref b273)])) (G_own_law Z k p1 p2 p3 ac cl h0 n0 s)
      refine own_go (fun _ k_ => XS.iconst X295.here hx rfl (hb hby at_202) k_) ?_
      show own_Goes p e below (T295.setTop (mkF m 203 #[.val (.int k), .val (.long p1), .second, .val (.long p2), .second, .val (.long p3), .second, .val (.int (3 : Int32)), .val (.int (1 : Int32)), .val .null, .val (.ref av268), .val (.ref av270), .val (.ref b273), .val (.ref mv290), .val (.ref b273)] [(.int (2 : Int32)), (.ref b273)])) (G_own_law Z k p1 p2 p3 ac cl h0 n0 s)
      obtain ⟨c302, Ar302, q302, s302, z302, H302, G302⟩ := id Av286_294
      have hin302 := inb_of s302 (j := (2 : Int32)) (by decide)
      have hat302 := H302.at hin302 (v := (.ref av270)) rfl
      refine own_go (fun _ k_ => X295.aaload hx (j := (2 : Int32)) (v := (.ref av270)) (by rw [e295]; exact Ar302.1) (State.isArrayOf_alike hZ.alike Ar302.2.1) rfl Ar302.2.2 hin302 hat302 (g := (mkF m 203 #[.val (.int k), .val (.long p1), .second, .val (.long p2), .second, .val (.long p3), .second, .val (.int (3 : Int32)), .val (.int (1 : Int32)), .val .null, .val (.ref av268), .val (.ref av270), .val (.ref b273), .val (.ref mv290), .val (.ref b273)] [(.int (2 : Int32)), (.ref b273)])) rfl rfl (hb hby at_203) _ k_) ?_
      show own_Goes p e below (T295.setTop (mkF m 204 #[.val (.int k), .val (.long p1), .second, .val (.long p2), .second, .val (.long p3), .second, .val (.int (3 : Int32)), .val (.int (1 : Int32)), .val .null, .val (.ref av268), .val (.ref av270), .val (.ref b273), .val (.ref mv290), .val (.ref b273)] [(.ref av270)])) (G_own_law Z k p1 p2 p3 ac cl h0 n0 s)
      refine own_go (fun _ k_ => XS.aload X295.here hx rfl (hb hby at_204) rfl rfl k_) ?_
      show own_Goes p e below (T295.setTop (mkF m 206 #[.val (.int k), .val (.long p1), .second, .val (.long p2), .second, .val (.long p3), .second, .val (.int (3 : Int32)), .val (.int (1 : Int32)), .val .null, .val (.ref av268), .val (.ref av270), .val (.ref b273), .val (.ref mv290), .val (.ref b273)] [(.ref av270), (.ref av270)])) (G_own_law Z k p1 p2 p3 ac cl h0 n0 s)
      refine own_go (fun _ k_ => Jvm.RoadKit.acmp (g := (mkF m 206 #[.val (.int k), .val (.long p1), .second, .val (.long p2), .second, .val (.long p3), .second, .val (.int (3 : Int32)), .val (.int (1 : Int32)), .val .null, .val (.ref av268), .val (.ref av270), .val (.ref b273), .val (.ref mv290), .val (.ref b273)] [(.ref av270), (.ref av270)])) X295 hx rfl rfl rfl (pc0 := 206) (pc' := 211) (same := true) rfl (hb hby at_206) rfl (decide_eq_true rfl) (by decide) (by decide) k_) ?_
      show own_Goes p e below (T295.setTop (mkF m 211 #[.val (.int k), .val (.long p1), .second, .val (.long p2), .second, .val (.long p3), .second, .val (.int (3 : Int32)), .val (.int (1 : Int32)), .val .null, .val (.ref av268), .val (.ref av270), .val (.ref b273), .val (.ref mv290), .val (.ref b273)] [])) (G_own_law Z k p1 p2 p3 ac cl h0 n0 s)
      refine own_go (fun _ k_ => XS.iconst X295.here hx rfl (hb hby at_211) k_) ?_
      show own_Goes p e below (T295.setTop (mkF m 212 #[.val (.int k), .val (.long p1), .second, .val (.long p2), .second, .val (.long p3), .second, .val (.int (3 : Int32)), .val (.int (1 : Int32)), .val .null, .val (.ref av268), .val (.ref av270), .val (.ref b273), .val (.ref mv290), .val (.ref b273)] [(.int (1 : Int32))])) (G_own_law Z k p1 p2 p3 ac cl h0 n0 s)
      obtain ⟨fs, hr, hrun, hended, hW, hsame⟩ := X295.leave (v := some (.int (1 : Int32))) (fun h => by rw [Bd.returns] at h; cases h) Bd.notSynchronized
      refine ⟨_, _, retN X295 hx (t := .boolean) Bd.returns (by simp) (hb hby at_212) hr, hrun, hended, _, _, rfl, ?_, ⟨_, rfl⟩, hW, hsame.mono (by decide) (by decide)⟩
      show Q_own_law Z k p1 p2 p3 ac cl h0 n0 _ T295.heap _
      rw [e295]
      exact ⟨rfl, N295⟩
set_option maxRecDepth 65536 in
set_option maxHeartbeats 40000000 in
theorem comes_1 {Post : Tables → Env → Array Value → State → Outcome → State → Prop} (hpost : ∀ tb e args s v u, (limb_1_1.after args s (.returned v) u = true ∧ limb_1_2.after args s (.returned v) u = true ∧ True) → FrameEnd s (.returned v) u (Jvm.fieldLocs frame_1_writes args s ++ Jvm.arrayLocs frame_1_arrays args s ++ Jvm.staticLocs frame_1_statics s) 24 128 → Post tb e args s (.returned v) u) :
    ArmFor flags0 classFile x code maxLocals ret World_1 tables_1 room_1 Calls_1 rest_1 Pre_1 Post := by
  intro l hfl _ _ p e ha hc hk s m args below hf hA hF happ hP
  obtain ⟨hcalls, hrest, hpre⟩ := hP
  obtain ⟨-, -, -, hnamed, -, -, -, hat⟩ := (Spec.applies_iff hf).mp happ
  obtain ⟨hg, hn⟩ := and_e (Cond.before_iff.mp (show (Jvm.Cond.and given_1 narrow_1).before args s = true from hpre))
  obtain ⟨hcount, k0⟩ := and_e hg
  obtain ⟨g0, k1⟩ := and_e k0
  obtain ⟨g1, k2⟩ := and_e k1
  obtain ⟨g2, k3⟩ := and_e k2
  have g3 := k3
  obtain ⟨w0, w1, w2, w3, rfl⟩ : ∃ w0 w1 w2 w3 : Value, args = #[w0, w1, w2, w3] := by
    have hs : args.size = 4 := by simpa [Cond.value, given_1] using hcount
    obtain ⟨L⟩ := args
    match L, hs with
    | [w0, w1, w2, w3], _ => exact ⟨w0, w1, w2, w3, rfl⟩
  have hw := fun d (hd : d ∈ tables_1) => atoms_spec (ws := Jvm.Cond.code x code maxLocals ret :: tables_1) hat d (List.mem_cons_of_mem _ hd)
  have hfit : Fit s := fun {y c} hc i hi => by
    obtain ⟨ha, rfl⟩ := Array.getElem?_eq_some_iff.mp hc
    have q := List.all_eq_true.mp ((Array.all_eq_true_iff_forall_mem.mp hF) _ (Array.getElem_mem ha)) i (List.mem_range.mpr hi)
    simpa [Array.getElem?_eq_getElem hi] using q
  obtain ⟨hsets, hown0⟩ := atoms_of _ (rest_1_c_eq ▸ (show rest_1_c.before _ s = true from hrest))
  have hr0 := Cond.before_iff.mp hown0
  obtain ⟨i0, ei0⟩ := is_v g0
  obtain rfl : w0 = (.int i0) := Option.some.inj ei0
  obtain ⟨i1, ei1⟩ := isL_v g1
  obtain rfl : w1 = (.long i1) := Option.some.inj ei1
  obtain ⟨i2, ei2⟩ := isL_v g2
  obtain rfl : w2 = (.long i2) := Option.some.inj ei2
  obtain ⟨i3, ei3⟩ := isL_v g3
  obtain rfl : w3 = (.long i3) := Option.some.inj ei3
  obtain ⟨ac, cl, S0, A0, hsz, hel⟩ := own_cache hsets
  obtain ⟨n, o, h1, h2, h3, _, L, rfl, ⟨rfl, N⟩, hq⟩ := own_law l s _ hw tables_1 i0 i1 i2 i3 ac cl s.heap s.heap.size (Nat.le_refl _) (Old.start s) S0 A0 hsz hel p e ha hc hk s m _ below hf ((Spec.applies_iff_loose hf).mp happ).1 ⟨rfl, State.Warmed39.refl s, rfl⟩ trivial
  refine ⟨n, _, h1, h2, h3, hpost _ _ _ _ _ _ ⟨Cond.after_iff.mpr rfl, Cond.after_iff.mpr (eq_i res_at (Term.int_eval (1)) rfl), trivial⟩ ⟨hq.1, hq.2.1, (hq.2.2.sift fun y hy => Or.inr (N y hy)).mono (by decide) (by decide)⟩⟩
theorem main_1_1 : Claimed_1_1 := comes_1 fun _ _ _ _ _ _ h hF => ⟨h.1, hF⟩
theorem main_1_2 : Claimed_1_2 := comes_1 fun _ _ _ _ _ _ h hF => ⟨h.2.1, hF⟩
end Jvm.Pilot.@@N@@
namespace Jvm.Pilot.@@N@@
open Jvm Jvm.ClassFile Sem Op Lib Jvm.Free Jvm.Stand Jvm.Pilot.@@N@@.Jvm.D
/-! MADE BY PROGRAM (witnessworld.py) out of the Statement's table words and the real class files: 17 classes; the members and pool entries that the words name. The judged class is class 1, her method 1. -/
namespace start1
open Jvm.ClassFile
def u (s : String) : CpInfo := .utf8 (stringToUtf16 s)
/-- a pool by its gaps: so many unusable entries, then the entry; so many at the end -/
def gap : Nat → List CpInfo → List CpInfo
  | 0, r => r
  | n + 1, r => .unusable :: gap n r
def poolList (es : List (Nat × CpInfo)) (last : Nat) : List CpInfo := es.foldr (fun e r => gap e.1 (e.2 :: r)) (gap last [])
def pool (es : List (Nat × CpInfo)) (last : Nat) : Array CpInfo := ⟨poolList es last⟩
def fileOf (pool : Array CpInfo) (this : Nat) (attrs : Array Attribute := #[]) (ms : Array MethodInfo := #[]) (fl : Nat := 33) (sup : Nat := 0) (ifs : Array Nat := #[]) (fds : Array FieldInfo := #[]) : ClassFile where
  minorVersion := 0
  majorVersion := 65
  constantPool := pool
  accessFlags := fl
  thisClass := this
  superClass := sup
  interfaces := ifs
  fields := fds
  methods := ms
  attributes := attrs
def plain (name : String) (sup : Option ClassId) : Class where
  name := name
  kind := .ordinary
  loader := none
  accessFlags := 33
  super := sup
  interfaces := #[]
  cf := none
  fields := #[]
  methods := #[]
  instanceTypes := #[]
  staticTypes := #[]
  resolved := #[]
  callSites := []
  init := .initialized
  statics := none
  mirror := none

def pool0 : Array CpInfo := pool [(5, u "<init>"), (0, u "()V"), (1, .class_ 10), (1, u "java/lang/Object")] 113

def k0c0 : Code := { maxStack := 0, maxLocals := 1, code := object_method_1_code, exceptionTable := #[], attributes := #[] }
def k0m0 : Method := { name := "<init>", desc := "()V", sig := { parameters := [], returnType := none }, accessFlags := 1, code := some k0c0 }
/-- java/lang/Object -/
def k0 : Class := { plain "java/lang/Object" none with
  accessFlags := 33
  interfaces := #[]
  cf := some (fileOf pool0 8 #[] #[{ accessFlags := 1, nameIndex := 5, descriptorIndex := 6, attributes := #[] }] 33 0 #[] #[])
  fields := #[]
  methods := #[k0m0]
  instanceTypes := #[]
  staticTypes := #[]
  resolved := Array.replicate 124 none
  statics := none }

def pool1 : Array CpInfo := pool [(2, .class_ 4), (1, u "java/lang/Object"), (0, u "<init>"), (0, u "()V"), (0, .methodref 8 9), (0, .class_ 10), (0, .nameAndType 11 12), (0, u "java/lang/Long"), (0, u "valueOf"), (0, u "(J)Ljava/lang/Long;"), (0, .methodref 14 15), (0, .class_ 16), (0, .nameAndType 17 18), (0, u "com/example/remnant/remnant/core/MultipleValues"), (0, u "of"), (0, u "([Ljava/lang/Object;)Ljava/lang/Object;"), (0, .methodref 14 20), (0, .nameAndType 21 22), (0, u "spread"), (0, u "(Ljava/lang/Object;)[Ljava/lang/Object;"), (0, .class_ 24), (0, u "com/example/remnant/remnant/core/MultipleValuesSpreadPinLaw"), (2, u "law"), (0, u "(IJJJ)Z")] 5

def k1m0 : Method := { name := "<init>", desc := "()V", sig := { parameters := [], returnType := none }, accessFlags := 2, code := none }
def k1c1 : Code := { maxStack := 3, maxLocals := 15, code := code, exceptionTable := #[], attributes := #[] }
def k1m1 : Method := { name := "law", desc := "(IJJJ)Z", sig := { parameters := [.int, .long, .long, .long], returnType := some .boolean }, accessFlags := 9, code := some k1c1 }
/-- com/example/remnant/remnant/core/MultipleValuesSpreadPinLaw -/
def k1 : Class := { plain "com/example/remnant/remnant/core/MultipleValuesSpreadPinLaw" (some 0) with
  accessFlags := 49
  interfaces := #[]
  cf := some (fileOf pool1 23 #[] #[{ accessFlags := 2, nameIndex := 5, descriptorIndex := 6, attributes := #[] }, { accessFlags := 9, nameIndex := 27, descriptorIndex := 28, attributes := #[] }] 49 2 #[] #[])
  fields := #[]
  methods := #[k1m0, k1m1]
  instanceTypes := #[]
  staticTypes := #[]
  resolved := Array.replicate 34 none
  statics := none }

def pool2 : Array CpInfo := pool [(1, .class_ 2), (0, u "java/io/Serializable"), (0, .class_ 4), (0, u "java/lang/Object")] 2

/-- java/io/Serializable -/
def k2 : Class := { plain "java/io/Serializable" (some 0) with
  accessFlags := 1537
  interfaces := #[]
  cf := some (fileOf pool2 1 #[] #[] 1537 3 #[] #[])
  fields := #[]
  methods := #[]
  instanceTypes := #[]
  staticTypes := #[]
  resolved := Array.replicate 7 none
  statics := none }

def pool3 : Array CpInfo := pool [(1, .methodref 2 3), (0, .class_ 4), (0, .nameAndType 5 6), (0, u "java/lang/Object"), (0, u "<init>"), (0, u "()V"), (1, .class_ 10), (1, u "java/lang/Number"), (2, .class_ 14), (0, u "java/io/Serializable"), (0, u "serialVersionUID"), (0, u "J")] 20

def k3c0 : Code := { maxStack := 1, maxLocals := 1, code := jdk_18_method_1_code, exceptionTable := #[], attributes := #[] }
def k3m0 : Method := { name := "<init>", desc := "()V", sig := { parameters := [], returnType := none }, accessFlags := 1, code := some k3c0 }
/-- java/lang/Number -/
def k3 : Class := { plain "java/lang/Number" (some 0) with
  accessFlags := 1057
  interfaces := #[2]
  cf := some (fileOf pool3 8 #[] #[{ accessFlags := 1, nameIndex := 5, descriptorIndex := 6, attributes := #[] }] 1057 2 #[13] #[{ accessFlags := 26, nameIndex := 15, descriptorIndex := 16, attributes := #[] }])
  fields := #[{ name := "serialVersionUID", type := .long, accessFlags := 26, slot := 0, constantValue := 0 }]
  methods := #[k3m0]
  instanceTypes := #[]
  staticTypes := #[.long]
  resolved := Array.replicate 37 none
  statics := none }

def pool4 : Array CpInfo := pool [(1, .class_ 2), (0, u "java/lang/Comparable"), (0, .class_ 4), (0, u "java/lang/Object")] 7

/-- java/lang/Comparable -/
def k4 : Class := { plain "java/lang/Comparable" (some 0) with
  accessFlags := 1537
  interfaces := #[]
  cf := some (fileOf pool4 1 #[] #[] 1537 3 #[] #[])
  fields := #[]
  methods := #[]
  instanceTypes := #[]
  staticTypes := #[]
  resolved := Array.replicate 12 none
  statics := none }

def pool5 : Array CpInfo := pool [(1, .class_ 2), (0, u "java/lang/constant/Constable"), (0, .class_ 4), (0, u "java/lang/Object")] 6

/-- java/lang/constant/Constable -/
def k5 : Class := { plain "java/lang/constant/Constable" (some 0) with
  accessFlags := 1537
  interfaces := #[]
  cf := some (fileOf pool5 1 #[] #[] 1537 3 #[] #[])
  fields := #[]
  methods := #[]
  instanceTypes := #[]
  staticTypes := #[]
  resolved := Array.replicate 11 none
  statics := none }

def pool6 : Array CpInfo := pool [(1, .class_ 2), (0, u "java/lang/constant/ConstantDesc"), (0, .class_ 4), (0, u "java/lang/Object")] 32

/-- java/lang/constant/ConstantDesc -/
def k6 : Class := { plain "java/lang/constant/ConstantDesc" (some 0) with
  accessFlags := 1537
  interfaces := #[]
  cf := some (fileOf pool6 1 #[] #[] 1537 3 #[] #[])
  fields := #[]
  methods := #[]
  instanceTypes := #[]
  staticTypes := #[]
  resolved := Array.replicate 37 none
  statics := none }

def pool7 : Array CpInfo := pool [(1, .class_ 2), (0, u "java/lang/Long"), (55, .nameAndType 59 60), (0, u "<init>"), (0, u "()V"), (24, u "valueOf"), (143, u "(J)Ljava/lang/Long;"), (0, .long 18446744073709551488), (1, .long 127), (1, .fieldref 235 236), (0, .class_ 237), (0, .nameAndType 238 239), (0, u "java/lang/Long$LongCache"), (0, u "cache"), (0, u "[Ljava/lang/Long;"), (0, .methodref 1 241), (0, .nameAndType 59 242), (0, u "(J)V"), (27, .methodref 271 58), (0, .class_ 272), (0, u "java/lang/Number"), (0, .fieldref 1 274), (0, .nameAndType 275 276), (0, u "value"), (0, u "J"), (84, u "TYPE"), (0, u "Ljava/lang/Class;"), (0, .class_ 364), (0, u "java/lang/Comparable"), (0, .class_ 366), (0, u "java/lang/constant/Constable"), (0, .class_ 368), (0, u "java/lang/constant/ConstantDesc"), (0, u "MIN_VALUE"), (1, u "MAX_VALUE"), (4, u "SIZE"), (0, u "I"), (1, u "BYTES"), (1, u "serialVersionUID")] 142

def k7c0 : Code := { maxStack := 4, maxLocals := 3, code := jdk_35_method_24_code, exceptionTable := #[], attributes := #[] }
def k7m0 : Method := { name := "valueOf", desc := "(J)Ljava/lang/Long;", sig := { parameters := [.long], returnType := some (.object "java/lang/Long") }, accessFlags := 9, code := some k7c0 }
def k7c1 : Code := { maxStack := 3, maxLocals := 3, code := jdk_35_method_26_code, exceptionTable := #[], attributes := #[] }
def k7m1 : Method := { name := "<init>", desc := "(J)V", sig := { parameters := [.long], returnType := none }, accessFlags := 1, code := some k7c1 }
/-- java/lang/Long -/
def k7 : Class := { plain "java/lang/Long" (some 3) with
  accessFlags := 49
  interfaces := #[4, 5, 6]
  cf := some (fileOf pool7 1 #[.nestMembers #[235]] #[{ accessFlags := 9, nameIndex := 85, descriptorIndex := 229, attributes := #[] }, { accessFlags := 1, nameIndex := 59, descriptorIndex := 242, attributes := #[] }] 49 271 #[363, 365, 367] #[{ accessFlags := 25, nameIndex := 369, descriptorIndex := 276, attributes := #[] }, { accessFlags := 25, nameIndex := 371, descriptorIndex := 276, attributes := #[] }, { accessFlags := 25, nameIndex := 361, descriptorIndex := 362, attributes := #[] }, { accessFlags := 18, nameIndex := 275, descriptorIndex := 276, attributes := #[] }, { accessFlags := 25, nameIndex := 376, descriptorIndex := 377, attributes := #[] }, { accessFlags := 25, nameIndex := 379, descriptorIndex := 377, attributes := #[] }, { accessFlags := 26, nameIndex := 381, descriptorIndex := 276, attributes := #[] }])
  fields := #[{ name := "MIN_VALUE", type := .long, accessFlags := 25, slot := 0, constantValue := 0 }, { name := "MAX_VALUE", type := .long, accessFlags := 25, slot := 1, constantValue := 0 }, { name := "TYPE", type := (.object "java/lang/Class"), accessFlags := 25, slot := 2, constantValue := 0 }, { name := "value", type := .long, accessFlags := 18, slot := 0, constantValue := 0 }, { name := "SIZE", type := .int, accessFlags := 25, slot := 3, constantValue := 0 }, { name := "BYTES", type := .int, accessFlags := 25, slot := 4, constantValue := 0 }, { name := "serialVersionUID", type := .long, accessFlags := 26, slot := 5, constantValue := 0 }]
  methods := #[k7m0, k7m1]
  instanceTypes := #[.long]
  staticTypes := #[.long, .long, (.object "java/lang/Class"), .int, .int, .long]
  resolved := Array.replicate 524 none
  statics := none }

def pool8 : Array CpInfo := pool [(2, .class_ 4), (1, u "java/lang/Object"), (0, u "<init>"), (0, u "()V"), (0, .class_ 8), (0, u "java/lang/Long"), (7, .class_ 18), (1, u "java/lang/Long$LongCache"), (0, u "$assertionsDisabled"), (0, u "Z"), (8, u "archivedCache"), (0, u "[Ljava/lang/Long;"), (7, u "cache")] 24

def k8m0 : Method := { name := "<init>", desc := "()V", sig := { parameters := [], returnType := none }, accessFlags := 2, code := none }
/-- java/lang/Long$LongCache -/
def k8 : Class := { plain "java/lang/Long$LongCache" (some 0) with
  accessFlags := 48
  interfaces := #[]
  cf := some (fileOf pool8 16 #[.nestHost 7] #[{ accessFlags := 2, nameIndex := 5, descriptorIndex := 6, attributes := #[] }] 48 2 #[] #[{ accessFlags := 24, nameIndex := 38, descriptorIndex := 30, attributes := #[] }, { accessFlags := 8, nameIndex := 29, descriptorIndex := 30, attributes := #[] }, { accessFlags := 4120, nameIndex := 19, descriptorIndex := 20, attributes := #[] }])
  fields := #[{ name := "cache", type := (.array (.object "java/lang/Long")), accessFlags := 24, slot := 0, constantValue := 0 }, { name := "archivedCache", type := (.array (.object "java/lang/Long")), accessFlags := 8, slot := 1, constantValue := 0 }, { name := "$assertionsDisabled", type := .boolean, accessFlags := 4120, slot := 2, constantValue := 0 }]
  methods := #[k8m0]
  instanceTypes := #[]
  staticTypes := #[(.array (.object "java/lang/Long")), (.array (.object "java/lang/Long")), .boolean]
  resolved := Array.replicate 63 none
  statics := some 0 }

def pool9 : Array CpInfo := pool [(1, .methodref 2 3), (0, .class_ 4), (0, .nameAndType 5 6), (0, u "java/lang/Object"), (0, u "<init>"), (0, u "()V"), (0, .fieldref 8 9), (0, .class_ 10), (0, .nameAndType 11 12), (0, u "com/example/remnant/remnant/core/MultipleValues"), (0, u "values"), (0, u "[Ljava/lang/Object;"), (0, .methodref 8 14), (0, .nameAndType 5 15), (0, u "([Ljava/lang/Object;)V"), (24, .class_ 41), (0, u "com/example/remnant/remnant/core/MultipleValues$Values"), (3, u "VALUES"), (0, u "Lcom/example/remnant/remnant/core/Primitive$Table;"), (2, u "of"), (0, u "([Ljava/lang/Object;)Ljava/lang/Object;"), (1, u "spread"), (0, u "(Ljava/lang/Object;)[Ljava/lang/Object;")] 12

def k9c0 : Code := { maxStack := 2, maxLocals := 2, code := prog_105_method_1_code, exceptionTable := #[], attributes := #[] }
def k9m0 : Method := { name := "<init>", desc := "([Ljava/lang/Object;)V", sig := { parameters := [(.array (.object "java/lang/Object"))], returnType := none }, accessFlags := 2, code := some k9c0 }
def k9c1 : Code := { maxStack := 3, maxLocals := 1, code := prog_105_method_2_code, exceptionTable := #[], attributes := #[] }
def k9m1 : Method := { name := "of", desc := "([Ljava/lang/Object;)Ljava/lang/Object;", sig := { parameters := [(.array (.object "java/lang/Object"))], returnType := some (.object "java/lang/Object") }, accessFlags := 137, code := some k9c1 }
def k9c2 : Code := { maxStack := 4, maxLocals := 2, code := prog_105_method_3_code, exceptionTable := #[], attributes := #[] }
def k9m2 : Method := { name := "spread", desc := "(Ljava/lang/Object;)[Ljava/lang/Object;", sig := { parameters := [(.object "java/lang/Object")], returnType := some (.array (.object "java/lang/Object")) }, accessFlags := 8, code := some k9c2 }
/-- com/example/remnant/remnant/core/MultipleValues -/
def k9 : Class := { plain "com/example/remnant/remnant/core/MultipleValues" (some 0) with
  accessFlags := 49
  interfaces := #[]
  cf := some (fileOf pool9 8 #[.nestMembers #[40]] #[{ accessFlags := 2, nameIndex := 5, descriptorIndex := 15, attributes := #[] }, { accessFlags := 137, nameIndex := 49, descriptorIndex := 50, attributes := #[] }, { accessFlags := 8, nameIndex := 52, descriptorIndex := 53, attributes := #[] }] 49 2 #[] #[{ accessFlags := 24, nameIndex := 45, descriptorIndex := 46, attributes := #[] }, { accessFlags := 18, nameIndex := 11, descriptorIndex := 12, attributes := #[] }])
  fields := #[{ name := "VALUES", type := (.object "com/example/remnant/remnant/core/Primitive$Table"), accessFlags := 24, slot := 0, constantValue := 0 }, { name := "values", type := (.array (.object "java/lang/Object")), accessFlags := 18, slot := 0, constantValue := 0 }]
  methods := #[k9m0, k9m1, k9m2]
  instanceTypes := #[(.array (.object "java/lang/Object"))]
  staticTypes := #[(.object "com/example/remnant/remnant/core/Primitive$Table")]
  resolved := Array.replicate 66 none
  statics := none }

def pool10 : Array CpInfo := pool [(1, u "java/lang/Cloneable"), (0, .class_ 1), (0, u "java/lang/Object"), (0, .class_ 3)] 3

/-- java/lang/Cloneable -/
def k10 : Class := { plain "java/lang/Cloneable" (some 0) with
  accessFlags := 1537
  interfaces := #[]
  cf := some (fileOf pool10 2 #[] #[] 1537 4 #[] #[])
  fields := #[]
  methods := #[]
  instanceTypes := #[]
  staticTypes := #[]
  resolved := Array.replicate 8 none
  statics := none }

/-- the primitive byte -/
def k11 : Class := { plain "byte" none with kind := .primitive 'B', accessFlags := 0x411 }
/-- [B -/
def k12 : Class := { plain "[B" (some 0) with kind := .array 11 .byte, interfaces := #[10, 2], accessFlags := 1041 }

/-- the primitive int -/
def k13 : Class := { plain "int" none with kind := .primitive 'I', accessFlags := 0x411 }
/-- [I -/
def k14 : Class := { plain "[I" (some 0) with kind := .array 13 .int, interfaces := #[10, 2], accessFlags := 1041 }

/-- [Ljava/lang/Long; -/
def k15 : Class := { plain "[Ljava/lang/Long;" (some 0) with kind := .array 7 (.object "java/lang/Long"), interfaces := #[10, 2], accessFlags := 1041 }

/-- [Ljava/lang/Object; -/
def k16 : Class := { plain "[Ljava/lang/Object;" (some 0) with kind := .array 0 (.object "java/lang/Object"), interfaces := #[10, 2], accessFlags := 1041 }

def heap : Heap := #[{ cls := 8, slots := #[.ref 1, .null, .int 0], vm := .statics 8 },
  { cls := 15, slots := #[.ref 2, .ref 3, .ref 4, .ref 5, .ref 6, .ref 7, .ref 8, .ref 9, .ref 10, .ref 11, .ref 12, .ref 13, .ref 14, .ref 15, .ref 16, .ref 17, .ref 18, .ref 19, .ref 20, .ref 21, .ref 22, .ref 23, .ref 24, .ref 25, .ref 26, .ref 27, .ref 28, .ref 29, .ref 30, .ref 31, .ref 32, .ref 33, .ref 34, .ref 35, .ref 36, .ref 37, .ref 38, .ref 39, .ref 40, .ref 41, .ref 42, .ref 43, .ref 44, .ref 45, .ref 46, .ref 47, .ref 48, .ref 49, .ref 50, .ref 51, .ref 52, .ref 53, .ref 54, .ref 55, .ref 56, .ref 57, .ref 58, .ref 59, .ref 60, .ref 61, .ref 62, .ref 63, .ref 64, .ref 65, .ref 66, .ref 67, .ref 68, .ref 69, .ref 70, .ref 71, .ref 72, .ref 73, .ref 74, .ref 75, .ref 76, .ref 77, .ref 78, .ref 79, .ref 80, .ref 81, .ref 82, .ref 83, .ref 84, .ref 85, .ref 86, .ref 87, .ref 88, .ref 89, .ref 90, .ref 91, .ref 92, .ref 93, .ref 94, .ref 95, .ref 96, .ref 97, .ref 98, .ref 99, .ref 100, .ref 101, .ref 102, .ref 103, .ref 104, .ref 105, .ref 106, .ref 107, .ref 108, .ref 109, .ref 110, .ref 111, .ref 112, .ref 113, .ref 114, .ref 115, .ref 116, .ref 117, .ref 118, .ref 119, .ref 120, .ref 121, .ref 122, .ref 123, .ref 124, .ref 125, .ref 126, .ref 127, .ref 128, .ref 129, .ref 130, .ref 131, .ref 132, .ref 133, .ref 134, .ref 135, .ref 136, .ref 137, .ref 138, .ref 139, .ref 140, .ref 141, .ref 142, .ref 143, .ref 144, .ref 145, .ref 146, .ref 147, .ref 148, .ref 149, .ref 150, .ref 151, .ref 152, .ref 153, .ref 154, .ref 155, .ref 156, .ref 157, .ref 158, .ref 159, .ref 160, .ref 161, .ref 162, .ref 163, .ref 164, .ref 165, .ref 166, .ref 167, .ref 168, .ref 169, .ref 170, .ref 171, .ref 172, .ref 173, .ref 174, .ref 175, .ref 176, .ref 177, .ref 178, .ref 179, .ref 180, .ref 181, .ref 182, .ref 183, .ref 184, .ref 185, .ref 186, .ref 187, .ref 188, .ref 189, .ref 190, .ref 191, .ref 192, .ref 193, .ref 194, .ref 195, .ref 196, .ref 197, .ref 198, .ref 199, .ref 200, .ref 201, .ref 202, .ref 203, .ref 204, .ref 205, .ref 206, .ref 207, .ref 208, .ref 209, .ref 210, .ref 211, .ref 212, .ref 213, .ref 214, .ref 215, .ref 216, .ref 217, .ref 218, .ref 219, .ref 220, .ref 221, .ref 222, .ref 223, .ref 224, .ref 225, .ref 226, .ref 227, .ref 228, .ref 229, .ref 230, .ref 231, .ref 232, .ref 233, .ref 234, .ref 235, .ref 236, .ref 237, .ref 238, .ref 239, .ref 240, .ref 241, .ref 242, .ref 243, .ref 244, .ref 245, .ref 246, .ref 247, .ref 248, .ref 249, .ref 250, .ref 251, .ref 252, .ref 253, .ref 254, .ref 255, .ref 256, .ref 257], vm := .none },
  { cls := 7, slots := #[.long (-128)], vm := .none },
  { cls := 7, slots := #[.long (-127)], vm := .none },
  { cls := 7, slots := #[.long (-126)], vm := .none },
  { cls := 7, slots := #[.long (-125)], vm := .none },
  { cls := 7, slots := #[.long (-124)], vm := .none },
  { cls := 7, slots := #[.long (-123)], vm := .none },
  { cls := 7, slots := #[.long (-122)], vm := .none },
  { cls := 7, slots := #[.long (-121)], vm := .none },
  { cls := 7, slots := #[.long (-120)], vm := .none },
  { cls := 7, slots := #[.long (-119)], vm := .none },
  { cls := 7, slots := #[.long (-118)], vm := .none },
  { cls := 7, slots := #[.long (-117)], vm := .none },
  { cls := 7, slots := #[.long (-116)], vm := .none },
  { cls := 7, slots := #[.long (-115)], vm := .none },
  { cls := 7, slots := #[.long (-114)], vm := .none },
  { cls := 7, slots := #[.long (-113)], vm := .none },
  { cls := 7, slots := #[.long (-112)], vm := .none },
  { cls := 7, slots := #[.long (-111)], vm := .none },
  { cls := 7, slots := #[.long (-110)], vm := .none },
  { cls := 7, slots := #[.long (-109)], vm := .none },
  { cls := 7, slots := #[.long (-108)], vm := .none },
  { cls := 7, slots := #[.long (-107)], vm := .none },
  { cls := 7, slots := #[.long (-106)], vm := .none },
  { cls := 7, slots := #[.long (-105)], vm := .none },
  { cls := 7, slots := #[.long (-104)], vm := .none },
  { cls := 7, slots := #[.long (-103)], vm := .none },
  { cls := 7, slots := #[.long (-102)], vm := .none },
  { cls := 7, slots := #[.long (-101)], vm := .none },
  { cls := 7, slots := #[.long (-100)], vm := .none },
  { cls := 7, slots := #[.long (-99)], vm := .none },
  { cls := 7, slots := #[.long (-98)], vm := .none },
  { cls := 7, slots := #[.long (-97)], vm := .none },
  { cls := 7, slots := #[.long (-96)], vm := .none },
  { cls := 7, slots := #[.long (-95)], vm := .none },
  { cls := 7, slots := #[.long (-94)], vm := .none },
  { cls := 7, slots := #[.long (-93)], vm := .none },
  { cls := 7, slots := #[.long (-92)], vm := .none },
  { cls := 7, slots := #[.long (-91)], vm := .none },
  { cls := 7, slots := #[.long (-90)], vm := .none },
  { cls := 7, slots := #[.long (-89)], vm := .none },
  { cls := 7, slots := #[.long (-88)], vm := .none },
  { cls := 7, slots := #[.long (-87)], vm := .none },
  { cls := 7, slots := #[.long (-86)], vm := .none },
  { cls := 7, slots := #[.long (-85)], vm := .none },
  { cls := 7, slots := #[.long (-84)], vm := .none },
  { cls := 7, slots := #[.long (-83)], vm := .none },
  { cls := 7, slots := #[.long (-82)], vm := .none },
  { cls := 7, slots := #[.long (-81)], vm := .none },
  { cls := 7, slots := #[.long (-80)], vm := .none },
  { cls := 7, slots := #[.long (-79)], vm := .none },
  { cls := 7, slots := #[.long (-78)], vm := .none },
  { cls := 7, slots := #[.long (-77)], vm := .none },
  { cls := 7, slots := #[.long (-76)], vm := .none },
  { cls := 7, slots := #[.long (-75)], vm := .none },
  { cls := 7, slots := #[.long (-74)], vm := .none },
  { cls := 7, slots := #[.long (-73)], vm := .none },
  { cls := 7, slots := #[.long (-72)], vm := .none },
  { cls := 7, slots := #[.long (-71)], vm := .none },
  { cls := 7, slots := #[.long (-70)], vm := .none },
  { cls := 7, slots := #[.long (-69)], vm := .none },
  { cls := 7, slots := #[.long (-68)], vm := .none },
  { cls := 7, slots := #[.long (-67)], vm := .none },
  { cls := 7, slots := #[.long (-66)], vm := .none },
  { cls := 7, slots := #[.long (-65)], vm := .none },
  { cls := 7, slots := #[.long (-64)], vm := .none },
  { cls := 7, slots := #[.long (-63)], vm := .none },
  { cls := 7, slots := #[.long (-62)], vm := .none },
  { cls := 7, slots := #[.long (-61)], vm := .none },
  { cls := 7, slots := #[.long (-60)], vm := .none },
  { cls := 7, slots := #[.long (-59)], vm := .none },
  { cls := 7, slots := #[.long (-58)], vm := .none },
  { cls := 7, slots := #[.long (-57)], vm := .none },
  { cls := 7, slots := #[.long (-56)], vm := .none },
  { cls := 7, slots := #[.long (-55)], vm := .none },
  { cls := 7, slots := #[.long (-54)], vm := .none },
  { cls := 7, slots := #[.long (-53)], vm := .none },
  { cls := 7, slots := #[.long (-52)], vm := .none },
  { cls := 7, slots := #[.long (-51)], vm := .none },
  { cls := 7, slots := #[.long (-50)], vm := .none },
  { cls := 7, slots := #[.long (-49)], vm := .none },
  { cls := 7, slots := #[.long (-48)], vm := .none },
  { cls := 7, slots := #[.long (-47)], vm := .none },
  { cls := 7, slots := #[.long (-46)], vm := .none },
  { cls := 7, slots := #[.long (-45)], vm := .none },
  { cls := 7, slots := #[.long (-44)], vm := .none },
  { cls := 7, slots := #[.long (-43)], vm := .none },
  { cls := 7, slots := #[.long (-42)], vm := .none },
  { cls := 7, slots := #[.long (-41)], vm := .none },
  { cls := 7, slots := #[.long (-40)], vm := .none },
  { cls := 7, slots := #[.long (-39)], vm := .none },
  { cls := 7, slots := #[.long (-38)], vm := .none },
  { cls := 7, slots := #[.long (-37)], vm := .none },
  { cls := 7, slots := #[.long (-36)], vm := .none },
  { cls := 7, slots := #[.long (-35)], vm := .none },
  { cls := 7, slots := #[.long (-34)], vm := .none },
  { cls := 7, slots := #[.long (-33)], vm := .none },
  { cls := 7, slots := #[.long (-32)], vm := .none },
  { cls := 7, slots := #[.long (-31)], vm := .none },
  { cls := 7, slots := #[.long (-30)], vm := .none },
  { cls := 7, slots := #[.long (-29)], vm := .none },
  { cls := 7, slots := #[.long (-28)], vm := .none },
  { cls := 7, slots := #[.long (-27)], vm := .none },
  { cls := 7, slots := #[.long (-26)], vm := .none },
  { cls := 7, slots := #[.long (-25)], vm := .none },
  { cls := 7, slots := #[.long (-24)], vm := .none },
  { cls := 7, slots := #[.long (-23)], vm := .none },
  { cls := 7, slots := #[.long (-22)], vm := .none },
  { cls := 7, slots := #[.long (-21)], vm := .none },
  { cls := 7, slots := #[.long (-20)], vm := .none },
  { cls := 7, slots := #[.long (-19)], vm := .none },
  { cls := 7, slots := #[.long (-18)], vm := .none },
  { cls := 7, slots := #[.long (-17)], vm := .none },
  { cls := 7, slots := #[.long (-16)], vm := .none },
  { cls := 7, slots := #[.long (-15)], vm := .none },
  { cls := 7, slots := #[.long (-14)], vm := .none },
  { cls := 7, slots := #[.long (-13)], vm := .none },
  { cls := 7, slots := #[.long (-12)], vm := .none },
  { cls := 7, slots := #[.long (-11)], vm := .none },
  { cls := 7, slots := #[.long (-10)], vm := .none },
  { cls := 7, slots := #[.long (-9)], vm := .none },
  { cls := 7, slots := #[.long (-8)], vm := .none },
  { cls := 7, slots := #[.long (-7)], vm := .none },
  { cls := 7, slots := #[.long (-6)], vm := .none },
  { cls := 7, slots := #[.long (-5)], vm := .none },
  { cls := 7, slots := #[.long (-4)], vm := .none },
  { cls := 7, slots := #[.long (-3)], vm := .none },
  { cls := 7, slots := #[.long (-2)], vm := .none },
  { cls := 7, slots := #[.long (-1)], vm := .none },
  { cls := 7, slots := #[.long (0)], vm := .none },
  { cls := 7, slots := #[.long (1)], vm := .none },
  { cls := 7, slots := #[.long (2)], vm := .none },
  { cls := 7, slots := #[.long (3)], vm := .none },
  { cls := 7, slots := #[.long (4)], vm := .none },
  { cls := 7, slots := #[.long (5)], vm := .none },
  { cls := 7, slots := #[.long (6)], vm := .none },
  { cls := 7, slots := #[.long (7)], vm := .none },
  { cls := 7, slots := #[.long (8)], vm := .none },
  { cls := 7, slots := #[.long (9)], vm := .none },
  { cls := 7, slots := #[.long (10)], vm := .none },
  { cls := 7, slots := #[.long (11)], vm := .none },
  { cls := 7, slots := #[.long (12)], vm := .none },
  { cls := 7, slots := #[.long (13)], vm := .none },
  { cls := 7, slots := #[.long (14)], vm := .none },
  { cls := 7, slots := #[.long (15)], vm := .none },
  { cls := 7, slots := #[.long (16)], vm := .none },
  { cls := 7, slots := #[.long (17)], vm := .none },
  { cls := 7, slots := #[.long (18)], vm := .none },
  { cls := 7, slots := #[.long (19)], vm := .none },
  { cls := 7, slots := #[.long (20)], vm := .none },
  { cls := 7, slots := #[.long (21)], vm := .none },
  { cls := 7, slots := #[.long (22)], vm := .none },
  { cls := 7, slots := #[.long (23)], vm := .none },
  { cls := 7, slots := #[.long (24)], vm := .none },
  { cls := 7, slots := #[.long (25)], vm := .none },
  { cls := 7, slots := #[.long (26)], vm := .none },
  { cls := 7, slots := #[.long (27)], vm := .none },
  { cls := 7, slots := #[.long (28)], vm := .none },
  { cls := 7, slots := #[.long (29)], vm := .none },
  { cls := 7, slots := #[.long (30)], vm := .none },
  { cls := 7, slots := #[.long (31)], vm := .none },
  { cls := 7, slots := #[.long (32)], vm := .none },
  { cls := 7, slots := #[.long (33)], vm := .none },
  { cls := 7, slots := #[.long (34)], vm := .none },
  { cls := 7, slots := #[.long (35)], vm := .none },
  { cls := 7, slots := #[.long (36)], vm := .none },
  { cls := 7, slots := #[.long (37)], vm := .none },
  { cls := 7, slots := #[.long (38)], vm := .none },
  { cls := 7, slots := #[.long (39)], vm := .none },
  { cls := 7, slots := #[.long (40)], vm := .none },
  { cls := 7, slots := #[.long (41)], vm := .none },
  { cls := 7, slots := #[.long (42)], vm := .none },
  { cls := 7, slots := #[.long (43)], vm := .none },
  { cls := 7, slots := #[.long (44)], vm := .none },
  { cls := 7, slots := #[.long (45)], vm := .none },
  { cls := 7, slots := #[.long (46)], vm := .none },
  { cls := 7, slots := #[.long (47)], vm := .none },
  { cls := 7, slots := #[.long (48)], vm := .none },
  { cls := 7, slots := #[.long (49)], vm := .none },
  { cls := 7, slots := #[.long (50)], vm := .none },
  { cls := 7, slots := #[.long (51)], vm := .none },
  { cls := 7, slots := #[.long (52)], vm := .none },
  { cls := 7, slots := #[.long (53)], vm := .none },
  { cls := 7, slots := #[.long (54)], vm := .none },
  { cls := 7, slots := #[.long (55)], vm := .none },
  { cls := 7, slots := #[.long (56)], vm := .none },
  { cls := 7, slots := #[.long (57)], vm := .none },
  { cls := 7, slots := #[.long (58)], vm := .none },
  { cls := 7, slots := #[.long (59)], vm := .none },
  { cls := 7, slots := #[.long (60)], vm := .none },
  { cls := 7, slots := #[.long (61)], vm := .none },
  { cls := 7, slots := #[.long (62)], vm := .none },
  { cls := 7, slots := #[.long (63)], vm := .none },
  { cls := 7, slots := #[.long (64)], vm := .none },
  { cls := 7, slots := #[.long (65)], vm := .none },
  { cls := 7, slots := #[.long (66)], vm := .none },
  { cls := 7, slots := #[.long (67)], vm := .none },
  { cls := 7, slots := #[.long (68)], vm := .none },
  { cls := 7, slots := #[.long (69)], vm := .none },
  { cls := 7, slots := #[.long (70)], vm := .none },
  { cls := 7, slots := #[.long (71)], vm := .none },
  { cls := 7, slots := #[.long (72)], vm := .none },
  { cls := 7, slots := #[.long (73)], vm := .none },
  { cls := 7, slots := #[.long (74)], vm := .none },
  { cls := 7, slots := #[.long (75)], vm := .none },
  { cls := 7, slots := #[.long (76)], vm := .none },
  { cls := 7, slots := #[.long (77)], vm := .none },
  { cls := 7, slots := #[.long (78)], vm := .none },
  { cls := 7, slots := #[.long (79)], vm := .none },
  { cls := 7, slots := #[.long (80)], vm := .none },
  { cls := 7, slots := #[.long (81)], vm := .none },
  { cls := 7, slots := #[.long (82)], vm := .none },
  { cls := 7, slots := #[.long (83)], vm := .none },
  { cls := 7, slots := #[.long (84)], vm := .none },
  { cls := 7, slots := #[.long (85)], vm := .none },
  { cls := 7, slots := #[.long (86)], vm := .none },
  { cls := 7, slots := #[.long (87)], vm := .none },
  { cls := 7, slots := #[.long (88)], vm := .none },
  { cls := 7, slots := #[.long (89)], vm := .none },
  { cls := 7, slots := #[.long (90)], vm := .none },
  { cls := 7, slots := #[.long (91)], vm := .none },
  { cls := 7, slots := #[.long (92)], vm := .none },
  { cls := 7, slots := #[.long (93)], vm := .none },
  { cls := 7, slots := #[.long (94)], vm := .none },
  { cls := 7, slots := #[.long (95)], vm := .none },
  { cls := 7, slots := #[.long (96)], vm := .none },
  { cls := 7, slots := #[.long (97)], vm := .none },
  { cls := 7, slots := #[.long (98)], vm := .none },
  { cls := 7, slots := #[.long (99)], vm := .none },
  { cls := 7, slots := #[.long (100)], vm := .none },
  { cls := 7, slots := #[.long (101)], vm := .none },
  { cls := 7, slots := #[.long (102)], vm := .none },
  { cls := 7, slots := #[.long (103)], vm := .none },
  { cls := 7, slots := #[.long (104)], vm := .none },
  { cls := 7, slots := #[.long (105)], vm := .none },
  { cls := 7, slots := #[.long (106)], vm := .none },
  { cls := 7, slots := #[.long (107)], vm := .none },
  { cls := 7, slots := #[.long (108)], vm := .none },
  { cls := 7, slots := #[.long (109)], vm := .none },
  { cls := 7, slots := #[.long (110)], vm := .none },
  { cls := 7, slots := #[.long (111)], vm := .none },
  { cls := 7, slots := #[.long (112)], vm := .none },
  { cls := 7, slots := #[.long (113)], vm := .none },
  { cls := 7, slots := #[.long (114)], vm := .none },
  { cls := 7, slots := #[.long (115)], vm := .none },
  { cls := 7, slots := #[.long (116)], vm := .none },
  { cls := 7, slots := #[.long (117)], vm := .none },
  { cls := 7, slots := #[.long (118)], vm := .none },
  { cls := 7, slots := #[.long (119)], vm := .none },
  { cls := 7, slots := #[.long (120)], vm := .none },
  { cls := 7, slots := #[.long (121)], vm := .none },
  { cls := 7, slots := #[.long (122)], vm := .none },
  { cls := 7, slots := #[.long (123)], vm := .none },
  { cls := 7, slots := #[.long (124)], vm := .none },
  { cls := 7, slots := #[.long (125)], vm := .none },
  { cls := 7, slots := #[.long (126)], vm := .none },
  { cls := 7, slots := #[.long (127)], vm := .none }]
def classes : Array Class := #[k0, k1, k2, k3, k4, k5, k6, k7, k8, k9, k10, k11, k12, k13, k14, k15, k16]
def interned : List (Array UInt16 × Addr) := []
def slotsUsed : Nat := 515
def theMethod : MethodId := ⟨1, 1⟩
def args0 : Array Value := #[.int 5, .long 500, .long 600, .long 700]
def aboutOver (below : List Frame) : State where
  vm := { classes := classes, interned := interned.toArray }
  heap := heap
  slotsUsed := slotsUsed
  threads := #[{ frames := .invoking theMethod args0 :: below }]
def below0 : List Frame := [.native { method := ⟨0, 0⟩, args := #[] }]
def about1 : State := aboutOver below0
def p0 : Program := .bare "" "" ""
def e0 : Env := launch0.env 0 0 0
theorem w_frames : about1.frames = Frame.invoking theMethod args0 :: below0 := rfl
set_option maxRecDepth 65536 in
theorem w_args : argsFit about1.vm theMethod args0 = true := by decide +kernel
set_option maxRecDepth 65536 in
theorem w_heap : heapFits about1 = true := by decide +kernel
set_option maxRecDepth 65536 in
theorem w_runnable : about1.curStatus? = some .runnable := by decide +kernel
set_option maxRecDepth 65536 in
theorem w_alone : about1.alone = true := by decide +kernel
set_option maxRecDepth 65536 in
theorem w_named : about1.methodNamed? x = some theMethod := by decide +kernel
set_option maxRecDepth 65536 in
theorem w_hears : about1.hears theMethod below0 = true := by decide +kernel
set_option maxRecDepth 65536 in
theorem w_ripe : about1.ripe theMethod args0 below0 = true := by decide +kernel
theorem w_running : about1.status = .running := rfl
set_option maxRecDepth 65536 in
theorem w_room : about1.hasRoom e0.platform room_1 = true :=
  launch0.hasRoom_least _ room_1 (by decide +kernel) (by decide +kernel) (by decide +kernel) (by decide +kernel) (by decide +kernel) (by decide +kernel)
theorem allAtoms_all (ts : List Jvm.Cond) (a : Array Jvm.Value) (st : Jvm.State) : (allAtoms ts).before a st = ts.all (fun c => c.before a st) := by
  induction ts with
  | nil => rfl
  | cons c t ih =>
    show (Jvm.Cond.and c (allAtoms t)).before a st = _
    rw [Jvm.Cond.before_and, ih, List.all_cons]
def words1 : List Jvm.Cond := Jvm.Cond.code x code maxLocals ret :: tables_1
/-- a 'code' word, met by the world's own term for the bytes: nothing is compared byte by byte -/
theorem code_word {y : MethodName} {bytes : ByteArray} {mx : Nat} {rt : Option FieldType} {a : Array Value} {s : State} {m : MethodId} {meth : Method} {c : Code} (h1 : s.methodNamed? y = some m) (h2 : s.vm.method? m = some meth) (h3 : meth.code = some c) (h4 : c.code = bytes)
    (h5 : (c.maxLocals == mx && c.exceptionTable.isEmpty && decide (c.maxStack ≤ mostOperands) && decide (meth.sig.returnType = rt) && !meth.locks && decide (parseMethodDescriptor y.desc = some meth.sig)) = true) : (Jvm.Cond.code y bytes mx rt).before a s = true := by
  simp only [Bool.and_eq_true, beq_iff_eq, Bool.not_eq_true', decide_eq_true_eq] at h5
  obtain ⟨⟨⟨⟨⟨g1, g2⟩, g3⟩, g4⟩, g5⟩, g6⟩ := h5
  simp [Cond.before, Cond.holds, Cond.value, h1, h2, h3, h4, g1, g2, g3, g4, g5, g6]
def isCode : Jvm.Cond → Bool
  | .code _ _ _ _ => true
  | _ => false
theorem all_split {L : List Jvm.Cond} {P : Jvm.Cond → Bool} (h1 : L.all (fun c => isCode c || P c) = true) (h2 : ∀ c ∈ L.filter isCode, P c = true) : L.all P = true := by
  refine List.all_eq_true.mpr fun c hc => ?_
  have h := List.all_eq_true.mp h1 c hc
  rcases Bool.eq_false_or_eq_true (isCode c) with hi | hi
  · exact h2 c (List.mem_filter.mpr ⟨hc, hi⟩)
  · simpa [hi] using h
set_option maxRecDepth 65536 in
theorem w_c0 : (Jvm.Cond.code x code maxLocals ret).before args0 about1 = true := code_word (m := ⟨1, 1⟩) (meth := k1m1) (c := k1c1) (by decide +kernel) rfl rfl rfl (by decide +kernel)
set_option maxRecDepth 65536 in
theorem w_c1 : (Jvm.Cond.code ({ cls := "java/lang/Long", name := "valueOf", desc := "(J)Ljava/lang/Long;" } : Jvm.MethodName) jdk_35_method_24_code (3 : Nat) (Option.some (Jvm.ClassFile.FieldType.object "java/lang/Long"))).before args0 about1 = true := code_word (m := ⟨7, 0⟩) (meth := k7m0) (c := k7c0) (by decide +kernel) rfl rfl rfl (by decide +kernel)
set_option maxRecDepth 65536 in
theorem w_c2 : (Jvm.Cond.code ({ cls := "java/lang/Long", name := "<init>", desc := "(J)V" } : Jvm.MethodName) jdk_35_method_26_code (3 : Nat) (Option.none : Option Jvm.ClassFile.FieldType)).before args0 about1 = true := code_word (m := ⟨7, 1⟩) (meth := k7m1) (c := k7c1) (by decide +kernel) rfl rfl rfl (by decide +kernel)
set_option maxRecDepth 65536 in
theorem w_c3 : (Jvm.Cond.code ({ cls := "java/lang/Number", name := "<init>", desc := "()V" } : Jvm.MethodName) jdk_18_method_1_code (1 : Nat) (Option.none : Option Jvm.ClassFile.FieldType)).before args0 about1 = true := code_word (m := ⟨3, 0⟩) (meth := k3m0) (c := k3c0) (by decide +kernel) rfl rfl rfl (by decide +kernel)
set_option maxRecDepth 65536 in
theorem w_c4 : (Jvm.Cond.code ({ cls := "java/lang/Object", name := "<init>", desc := "()V" } : Jvm.MethodName) object_method_1_code (1 : Nat) (Option.none : Option Jvm.ClassFile.FieldType)).before args0 about1 = true := code_word (m := ⟨0, 0⟩) (meth := k0m0) (c := k0c0) (by decide +kernel) rfl rfl rfl (by decide +kernel)
set_option maxRecDepth 65536 in
theorem w_c5 : (Jvm.Cond.code ({ cls := "com/example/remnant/remnant/core/MultipleValues", name := "of", desc := "([Ljava/lang/Object;)Ljava/lang/Object;" } : Jvm.MethodName) prog_105_method_2_code (1 : Nat) (Option.some (Jvm.ClassFile.FieldType.object "java/lang/Object"))).before args0 about1 = true := code_word (m := ⟨9, 1⟩) (meth := k9m1) (c := k9c1) (by decide +kernel) rfl rfl rfl (by decide +kernel)
set_option maxRecDepth 65536 in
theorem w_c6 : (Jvm.Cond.code ({ cls := "com/example/remnant/remnant/core/MultipleValues", name := "<init>", desc := "([Ljava/lang/Object;)V" } : Jvm.MethodName) prog_105_method_1_code (2 : Nat) (Option.none : Option Jvm.ClassFile.FieldType)).before args0 about1 = true := code_word (m := ⟨9, 0⟩) (meth := k9m0) (c := k9c0) (by decide +kernel) rfl rfl rfl (by decide +kernel)
set_option maxRecDepth 65536 in
theorem w_c7 : (Jvm.Cond.code ({ cls := "com/example/remnant/remnant/core/MultipleValues", name := "spread", desc := "(Ljava/lang/Object;)[Ljava/lang/Object;" } : Jvm.MethodName) prog_105_method_3_code (2 : Nat) (Option.some (Jvm.ClassFile.FieldType.array (Jvm.ClassFile.FieldType.object "java/lang/Object")))).before args0 about1 = true := code_word (m := ⟨9, 2⟩) (meth := k9m2) (c := k9c2) (by decide +kernel) rfl rfl rfl (by decide +kernel)
def codes1 : List Jvm.Cond := [Jvm.Cond.code x code maxLocals ret, Jvm.Cond.code ({ cls := "java/lang/Long", name := "valueOf", desc := "(J)Ljava/lang/Long;" } : Jvm.MethodName) jdk_35_method_24_code (3 : Nat) (Option.some (Jvm.ClassFile.FieldType.object "java/lang/Long")), Jvm.Cond.code ({ cls := "java/lang/Long", name := "<init>", desc := "(J)V" } : Jvm.MethodName) jdk_35_method_26_code (3 : Nat) (Option.none : Option Jvm.ClassFile.FieldType), Jvm.Cond.code ({ cls := "java/lang/Number", name := "<init>", desc := "()V" } : Jvm.MethodName) jdk_18_method_1_code (1 : Nat) (Option.none : Option Jvm.ClassFile.FieldType), Jvm.Cond.code ({ cls := "java/lang/Object", name := "<init>", desc := "()V" } : Jvm.MethodName) object_method_1_code (1 : Nat) (Option.none : Option Jvm.ClassFile.FieldType), Jvm.Cond.code ({ cls := "com/example/remnant/remnant/core/MultipleValues", name := "of", desc := "([Ljava/lang/Object;)Ljava/lang/Object;" } : Jvm.MethodName) prog_105_method_2_code (1 : Nat) (Option.some (Jvm.ClassFile.FieldType.object "java/lang/Object")), Jvm.Cond.code ({ cls := "com/example/remnant/remnant/core/MultipleValues", name := "<init>", desc := "([Ljava/lang/Object;)V" } : Jvm.MethodName) prog_105_method_1_code (2 : Nat) (Option.none : Option Jvm.ClassFile.FieldType), Jvm.Cond.code ({ cls := "com/example/remnant/remnant/core/MultipleValues", name := "spread", desc := "(Ljava/lang/Object;)[Ljava/lang/Object;" } : Jvm.MethodName) prog_105_method_3_code (2 : Nat) (Option.some (Jvm.ClassFile.FieldType.array (Jvm.ClassFile.FieldType.object "java/lang/Object")))]
set_option maxRecDepth 65536 in
theorem codes_eq : words1.filter isCode = codes1 := rfl
theorem w_codes : ∀ c ∈ words1.filter isCode, c.before args0 about1 = true := by
  rw [codes_eq]
  intro c hc
  simp only [codes1, List.mem_cons, List.not_mem_nil, or_false] at hc
  rcases hc with rfl | rfl | rfl | rfl | rfl | rfl | rfl | rfl
  · exact w_c0
  · exact w_c1
  · exact w_c2
  · exact w_c3
  · exact w_c4
  · exact w_c5
  · exact w_c6
  · exact w_c7
set_option maxRecDepth 65536 in
theorem w_t1 : (words1.take 24).all (fun c => isCode c || c.before args0 about1) = true := by decide +kernel
set_option maxRecDepth 65536 in
theorem w_t2 : ((words1.drop 24).take 24).all (fun c => isCode c || c.before args0 about1) = true := by decide +kernel
set_option maxRecDepth 65536 in
theorem w_t3 : ((words1.drop 24).drop 24).all (fun c => isCode c || c.before args0 about1) = true := by decide +kernel
theorem w_tables : (allAtoms (Jvm.Cond.code x code maxLocals ret :: tables_1)).before args0 about1 = true := by
  rw [allAtoms_all]
  show words1.all (fun c => c.before args0 about1) = true
  refine all_split ?_ w_codes
  rw [← List.take_append_drop 24 words1, List.all_append, w_t1, ← List.take_append_drop 24 (words1.drop 24), List.all_append, w_t2, w_t3]
  rfl
set_option maxRecDepth 65536 in
theorem w_rest : rest_1_c.before args0 about1 = true := by decide +kernel
set_option maxRecDepth 65536 in
theorem w_case : (Jvm.Cond.and given_1 narrow_1).before args0 about1 = true := by decide +kernel
theorem w_applies : (headSpec (Jvm.Cond.code x code maxLocals ret :: tables_1) room_1).applies x e0.platform about1 = true :=
  (Spec.applies_iff w_frames).mpr ⟨w_running, w_runnable, w_alone, w_named, w_hears, w_ripe, w_room, w_tables⟩
theorem atStart : AtStart classFile x code maxLocals ret World_1 tables_1 room_1 Calls_1 rest_1 Pre_1 launch0 p0 e0 about1 theMethod args0 below0 :=
  ⟨lists_1, trivial, launch0.admits_env _ _ _, launch0.least_env, fairChoices_fair.cas, fairChoices_fair.clock, w_frames, w_args, w_heap, w_applies, trivial, w_rest, w_case⟩
end start1
theorem witness_1 : WitnessClaimed_1 := ⟨start1.p0, start1.e0, start1.about1, start1.theMethod, start1.args0, start1.below0, start1.atStart⟩
end Jvm.Pilot.@@N@@
