import JvmDerived
import JvmDerived.Pilot.@@N@@Statement
import JvmDerived.Pilot.@@N@@Code
set_option linter.unusedVariables false
set_option linter.unusedSimpArgs false
namespace Jvm.Pilot.@@N@@
open Jvm Jvm.ClassFile Sem Op Lib Jvm.Free Jvm.Stand Jvm.LawKit Jvm.RoadKit Bundle Jvm.Pilot.@@N@@.Jvm.D
/-- the run comes from S to an end of which Q holds -/
def own_Goes (p : Program) (e : Env) (below : List Frame) (S : State) (Q : Outcome → State → Prop) : Prop := ∃ s₂ o, Steps p.tables e below S s₂ ∧ s₂.status = .running ∧ Ended s₂ below o ∧ Q o s₂
theorem own_go {p : Program} {e : Env} {below : List Frame} {S N : State} {Q : Outcome → State → Prop} (h : ∀ t, Steps p.tables e below N t → Steps p.tables e below S t) (k : own_Goes p e below N Q) : own_Goes p e below S Q := by
  obtain ⟨s₂, o, h1, h2⟩ := k; exact ⟨s₂, o, h _ h1, h2⟩
/-- the model's own selection picks a private method itself -/
theorem own_selp {y : MethodName} {s : State} {args : Array Value} {n : Nat} (hy : y.cls ≠ "java/lang/invoke/MethodHandle" ∧ y.cls ≠ "java/lang/invoke/VarHandle") (hins : (Cond.instantiable y.cls n).before args s = true) (hpriv : (Cond.privateMethod y).before args s = true) (hinst : (Cond.instanceMethod y).before args s = true) : (Cond.selects y.cls y y).before args s = true := by
  obtain ⟨c, k, hc, hk, -, hniab, -, -⟩ := Cond.instantiable_spec hins
  have hni : k.isInterface = false := (Bool.or_eq_false_iff.mp hniab).1
  obtain ⟨mk, methM, hnamed, hmethM, -, -⟩ := Cond.instanceMethod_spec hinst
  have hfound : s.methodFound? y.cls y.name y.desc = some mk := State.methodFound?_of_named hnamed hy
  have hcls : mk.cls = c := Option.some.inj ((findClass_of_methodNamed hnamed).symm.trans hc)
  have hsel : selectMethod {} s.vm c mk = .method mk := selectMethod_private hmethM (Cond.privateMethod_at hpriv mk methM hnamed hmethM)
  simp only [Cond.before, Cond.holds, Cond.value, hc, hfound, hnamed, hsel, hcls, hk]
  simp; exact hni
/-- a place where roads meet: walked once, for whatever the roads bring -/
theorem own_join {p : Program} {e : Env} {below : List Frame} {S : State} {Q : Outcome → State → Prop} {α : Type} {P : α → Prop} {F : α → State} (h1 : ∀ z, P z → own_Goes p e below (F z) Q) (h2 : (∀ z, P z → own_Goes p e below (F z) Q) → own_Goes p e below S Q) : own_Goes p e below S Q := h2 h1
def own_tm (p : Int32) : Int32 := if p < 0 then 1 else 0
theorem own_and (p : Int32) : p &&& (-2147483648 : Int32) = 0 ↔ ¬ p < 0 := by
  rw [XT.neg32, ← Int32.toBitVec_inj, Int32.toBitVec_and]
  have e : (-2147483648 : Int32).toBitVec = BitVec.twoPow 32 31 := by decide
  have e0 : (0 : Int32).toBitVec = 0#32 := by decide
  rw [e, e0, BitVec.and_twoPow, BitVec.msb_eq_getLsbD_last]
  show (if p.toBitVec.getLsbD 31 = true then BitVec.twoPow 32 31 else 0#32) = 0#32 ↔ ¬ p.toBitVec.getLsbD 31 = true
  by_cases h : p.toBitVec.getLsbD 31 = true
  · simp only [h, if_true, not_true_eq_false, iff_false]; decide
  · simp [h]
theorem own_zf (p : Int32) (h : p &&& (-2147483648 : Int32) = 0) : 0 = own_tm p := (if_neg ((own_and p).mp h)).symm
theorem own_zt (p : Int32) (h : ¬ p &&& (-2147483648 : Int32) = 0) : 1 = own_tm p := (if_pos (Decidable.byContradiction fun k => h ((own_and p).mpr k))).symm
theorem own_or (p : Int32) : own_tm (p ||| (-2147483648 : Int32)) = 1 := by
  have h := (c_orS p (-2147483648)).2.2 (by decide)
  exact if_pos (by rw [Int32.lt_iff_toInt_lt]; exact h)
theorem own_mx (p : Int32) : own_tm (p &&& (2147483647 : Int32)) = 0 := by
  have h := (c_andS p (2147483647)).2.2 (by decide)
  refine if_neg (by rw [Int32.lt_iff_toInt_lt]; have e : (0 : Int32).toInt = 0 := by decide
                    omega)
theorem own_pp (p : Int32) : 0 ≤ (p &&& (2147483647 : Int32)).toInt := (c_andS p (2147483647)).2.2 (by decide)
theorem own_d (p : Int32) (h : 0 ≤ p.toInt) : (p.toInt64 + (1 : Int64)).toInt = p.toInt + 1 := by
  have h1 := c_ladd p.toInt64 1
  have h2 := c_i2l p
  have h3 := rng32 p
  have h4 := rng64 (p.toInt64 + 1)
  have e : (1 : Int64).toInt = 1 := by decide
  omega
theorem own_nz (p : Int32) (h : 0 ≤ p.toInt) : (p.toInt64 + (1 : Int64)) ≠ 0 := fun q => by
  have h1 := own_d p h
  rw [q] at h1
  have e : (0 : Int64).toInt = 0 := by decide
  omega
theorem own_un (p : Int32) (u : Int64) (h : 0 ≤ p.toInt) (hu : 0 ≤ u.toInt) : 0 ≤ ((u - (u / (p.toInt64 + (1 : Int64))) * (p.toInt64 + (1 : Int64))).toInt32).toInt ∧ ((u - (u / (p.toInt64 + (1 : Int64))) * (p.toInt64 + (1 : Int64))).toInt32).toInt ≤ p.toInt := by
  have h1 := (c_lrem u (p.toInt64 + 1) (p.toInt + 1) (own_d p h)).1 hu
  have h2 := Int.emod_nonneg u.toInt (b := p.toInt + 1) (by omega)
  have h3 := Int.emod_lt_of_pos u.toInt (b := p.toInt + 1) (by omega)
  have h4 := c_l2i (u - (u / (p.toInt64 + (1 : Int64))) * (p.toInt64 + (1 : Int64)))
  have h5 := rng32 (u - (u / (p.toInt64 + (1 : Int64))) * (p.toInt64 + (1 : Int64))).toInt32
  have h6 := rng32 p
  omega
theorem own_uu (u : Int64) : 0 ≤ (u &&& (2147483647 : Int64)).toInt := (c_andSL u 2147483647).2.2 (by decide)
theorem own_pn2 : plainName "java/lang/Record" = true := by first | (simp [plainName, overriddenIn]; done) | decide +kernel
theorem own_ef_own_recM (m : MethodId) (a1 : Addr) : entryFrame m #[(.ref a1)] 1 = (mkF m 0 #[.val (.ref a1)] []) := by first | (simp [entryFrame, mkF, argsToLocals, Value.category]; done) | rfl
def Q_own_recM (Z : State) (a1 : Addr) (h0 : Heap) (n0 : Nat) (v : Option Value) (h : Heap) (L : List Loc) : Prop := v = none ∧ Fr n0 L ∧ h = h0
def G_own_recM (Z : State) (a1 : Addr) (h0 : Heap) (n0 : Nat) (s : State) : Outcome → State → Prop := fun o U' => ∃ v L, o = .returned v ∧ Q_own_recM Z a1 h0 n0 v U'.heap L ∧ FrameEnd s o U' L ({ frames := 1, cells := 0, slots := 0, locals := 12 } : Room).cells ({ frames := 1, cells := 0, slots := 0, locals := 12 } : Room).slots
theorem own_d2_0 : decode jdk_30_method_1_code 0 = .ok (.aload_n 0, 1) := by decide +kernel
theorem own_d2_1 : decode jdk_30_method_1_code 1 = .ok (.invokespecial 1, 3) := by decide +kernel
theorem own_d2_4 : decode jdk_30_method_1_code 4 = .ok (.return_, 1) := by decide +kernel
set_option maxRecDepth 65536 in
set_option maxHeartbeats 40000000 in
theorem own_recM (l : Launch) (Z : State) (a0 : Array Value) (hw : ∀ d ∈ tables_1, d.before a0 Z = true) (ws : List Jvm.Cond) (a1 : Addr) (h0 : Heap) (n0 : Nat) (Z0 : n0 ≤ h0.size)  :
    MetFree l (⟨"java/lang/Record", "<init>", "()V"⟩ : MethodName) (head1 (Jvm.Cond.code (⟨"java/lang/Record", "<init>", "()V"⟩ : MethodName) jdk_30_method_1_code 1 none :: ws) ({ frames := 1, cells := 0, slots := 0, locals := 12 } : Room)) (fun a U => a = #[(.ref a1)] ∧ Z.Warmed39 U.vm ∧ U.heap = h0) (fun _ _ _ _ _ => True) (fun _ U o U' => ∃ v L, o = .returned v ∧ Q_own_recM Z a1 h0 n0 v U'.heap L ∧ FrameEnd U o U' L ({ frames := 1, cells := 0, slots := 0, locals := 12 } : Room).cells ({ frames := 1, cells := 0, slots := 0, locals := 12 } : Room).slots) := by
  refine MetFree.of_bodySF (plainFor_of_name own_pn2) hisR ?_
  intro p e s m args below meth c s₁ Bd hml0 hP hK
  obtain ⟨rfl, hZ, hh⟩ := hP
  have hx := Bd.exec
  have hby := Bd.bytes
  have hml : c.maxLocals = 1 := hml0
  have hown : s.vm.findClass "java/lang/Record" = some m.cls := findClass_of_methodNamed Bd.named
  have hnm := (name_of_methodNamed Bd.named Bd.method).1
  have X0 : Stand p l e ({ frames := 1, cells := 0, slots := 0, locals := 12 } : Room) s m #[(.ref a1)] below meth c s₁ [] 0 0 := Stand.of_body Bd
  have e0 : s₁.heap = h0 := by rw [← hh, Bd.state]; rfl
  have N0 := Fr.nil n0
  refine own_go (S := s₁.setTop (entryFrame m #[(.ref a1)] 1)) (Q := (G_own_recM Z a1 h0 n0 s)) (fun _ k => castTop (own_ef_own_recM m a1) k) ?_
  show own_Goes p e below (s₁.setTop (mkF m 0 #[.val (.ref a1)] [])) (G_own_recM Z a1 h0 n0 s)
  refine own_go (fun _ k => XS.aloadN X0.here hx rfl (hb hby own_d2_0) rfl rfl k) ?_
  show own_Goes p e below (s₁.setTop (mkF m 1 #[.val (.ref a1)] [(.ref a1)])) (G_own_recM Z a1 h0 n0 s)
  obtain ⟨T1, X1, e1, st1⟩ := initO X0 hx hZ hown (hw _ (List.mem_of_getElem? (i := 13) rfl)) (hw _ (List.mem_of_getElem? (i := 14) rfl)) (hw _ (List.mem_of_getElem? (i := 15) rfl)) e0 (g := (mkF m 1 #[.val (.ref a1)] [(.ref a1)])) rfl (by rw [hml]; rfl) rfl (hb hby own_d2_1) (by decide) (W := 0) (by show 2 * 0 + _ ≤ _; exact Nat.le_of_eq rfl) (by decide)
  refine own_go st1 ?_
  show own_Goes p e below (T1.setTop (mkF m 4 #[.val (.ref a1)] [])) (G_own_recM Z a1 h0 n0 s)
  obtain ⟨fs, hr, hrun, hended, hW, hsame⟩ := X1.leave (v := none) (fun _ => rfl) Bd.notSynchronized
  refine ⟨_, _, X1.returnOut hx Bd.returns (hb hby own_d2_4) hr, hrun, hended, _, _, rfl, ?_, ⟨_, rfl⟩, hW, hsame.mono (by decide) (by decide)⟩
  show Q_own_recM Z a1 h0 n0 _ T1.heap _
  rw [e1]
  exact ⟨rfl, N0, rfl⟩
theorem own_pn1 : plainName "com/example/muster/muster/core/PhaserState" = true := by first | (simp [plainName, overriddenIn]; done) | decide +kernel
theorem own_ef_own_iniM (m : MethodId) (a1 : Addr) (p1 : Int32) (p2 : Int32) (p3 : Int32) : entryFrame m #[(.ref a1), (.int p1), (.int p2), (.int p3)] 4 = (mkF m 0 #[.val (.ref a1), .val (.int p1), .val (.int p2), .val (.int p3)] []) := by first | (simp [entryFrame, mkF, argsToLocals, Value.category]; done) | rfl
def Q_own_iniM (Z : State) (a1 : Addr) (p1 : Int32) (p2 : Int32) (p3 : Int32) (h0 : Heap) (n0 : Nat) (v : Option Value) (h : Heap) (L : List Loc) : Prop := v = none ∧ Fr n0 L ∧ Keep h0 h [a1] ∧ Fld Z h a1 "com/example/muster/muster/core/PhaserState" "phase" "I" (.int p1)
def G_own_iniM (Z : State) (a1 : Addr) (p1 : Int32) (p2 : Int32) (p3 : Int32) (h0 : Heap) (n0 : Nat) (s : State) : Outcome → State → Prop := fun o U' => ∃ v L, o = .returned v ∧ Q_own_iniM Z a1 p1 p2 p3 h0 n0 v U'.heap L ∧ FrameEnd s o U' L ({ frames := 2, cells := 0, slots := 0, locals := 24 } : Room).cells ({ frames := 2, cells := 0, slots := 0, locals := 24 } : Room).slots
theorem own_d1_0 : decode prog_12_method_1_code 0 = .ok (.aload_n 0, 1) := by decide +kernel
theorem own_d1_1 : decode prog_12_method_1_code 1 = .ok (.invokespecial 1, 3) := by decide +kernel
theorem own_pd0 : parseMethodDescriptor "()V" = some ⟨[], none⟩ := by decide +kernel
theorem own_d1_4 : decode prog_12_method_1_code 4 = .ok (.iload_n 3, 1) := by decide +kernel
theorem own_d1_5 : decode prog_12_method_1_code 5 = .ok (.ifCond .lt 8, 3) := by decide +kernel
theorem own_d1_8 : decode prog_12_method_1_code 8 = .ok (.iload_n 3, 1) := by decide +kernel
theorem own_d1_9 : decode prog_12_method_1_code 9 = .ok (.iload_n 2, 1) := by decide +kernel
theorem own_d1_10 : decode prog_12_method_1_code 10 = .ok (.if_icmp .le 18, 3) := by decide +kernel
theorem own_d1_28 : decode prog_12_method_1_code 28 = .ok (.aload_n 0, 1) := by decide +kernel
theorem own_d1_29 : decode prog_12_method_1_code 29 = .ok (.iload_n 1, 1) := by decide +kernel
theorem own_d1_30 : decode prog_12_method_1_code 30 = .ok (.putfield 16, 3) := by decide +kernel
theorem own_d1_33 : decode prog_12_method_1_code 33 = .ok (.aload_n 0, 1) := by decide +kernel
theorem own_d1_34 : decode prog_12_method_1_code 34 = .ok (.iload_n 2, 1) := by decide +kernel
theorem own_d1_35 : decode prog_12_method_1_code 35 = .ok (.putfield 22, 3) := by decide +kernel
theorem own_d1_38 : decode prog_12_method_1_code 38 = .ok (.aload_n 0, 1) := by decide +kernel
theorem own_d1_39 : decode prog_12_method_1_code 39 = .ok (.iload_n 3, 1) := by decide +kernel
theorem own_d1_40 : decode prog_12_method_1_code 40 = .ok (.putfield 25, 3) := by decide +kernel
theorem own_d1_43 : decode prog_12_method_1_code 43 = .ok (.return_, 1) := by decide +kernel
set_option maxRecDepth 65536 in
set_option maxHeartbeats 40000000 in
theorem own_iniM (l : Launch) (Z : State) (a0 : Array Value) (hw : ∀ d ∈ tables_1, d.before a0 Z = true) (ws : List Jvm.Cond) (a1 : Addr) (p1 : Int32) (p2 : Int32) (p3 : Int32) (h0 : Heap) (n0 : Nat) (Z0 : n0 ≤ h0.size) (E_a1 : Exa Z h0 a1 "com/example/muster/muster/core/PhaserState") (g_a1 : n0 ≤ a1) (F_phase : Fld Z h0 a1 "com/example/muster/muster/core/PhaserState" "phase" "I" (.int (0 : Int32))) (F_parties : Fld Z h0 a1 "com/example/muster/muster/core/PhaserState" "parties" "I" (.int (0 : Int32))) (F_unarrived : Fld Z h0 a1 "com/example/muster/muster/core/PhaserState" "unarrived" "I" (.int (0 : Int32))) (hp1 : ¬ p3 < 0) (hp2 : ¬ p2 < p3) :
    MetFree l (⟨"com/example/muster/muster/core/PhaserState", "<init>", "(III)V"⟩ : MethodName) (head1 (Jvm.Cond.code (⟨"com/example/muster/muster/core/PhaserState", "<init>", "(III)V"⟩ : MethodName) prog_12_method_1_code 4 none :: ws) ({ frames := 2, cells := 0, slots := 0, locals := 24 } : Room)) (fun a U => a = #[(.ref a1), (.int p1), (.int p2), (.int p3)] ∧ Z.Warmed39 U.vm ∧ U.heap = h0) (fun _ _ _ _ _ => True) (fun _ U o U' => ∃ v L, o = .returned v ∧ Q_own_iniM Z a1 p1 p2 p3 h0 n0 v U'.heap L ∧ FrameEnd U o U' L ({ frames := 2, cells := 0, slots := 0, locals := 24 } : Room).cells ({ frames := 2, cells := 0, slots := 0, locals := 24 } : Room).slots) := by
  refine MetFree.of_bodySF (plainFor_of_name own_pn1) hisR ?_
  intro p e s m args below meth c s₁ Bd hml0 hP hK
  obtain ⟨rfl, hZ, hh⟩ := hP
  have hx := Bd.exec
  have hby := Bd.bytes
  have hml : c.maxLocals = 4 := hml0
  have hown : s.vm.findClass "com/example/muster/muster/core/PhaserState" = some m.cls := findClass_of_methodNamed Bd.named
  have hnm := (name_of_methodNamed Bd.named Bd.method).1
  have X0 : Stand p l e ({ frames := 2, cells := 0, slots := 0, locals := 24 } : Room) s m #[(.ref a1), (.int p1), (.int p2), (.int p3)] below meth c s₁ [] 0 0 := Stand.of_body Bd
  have e0 : s₁.heap = h0 := by rw [← hh, Bd.state]; rfl
  have N0 := Fr.nil n0
  refine own_go (S := s₁.setTop (entryFrame m #[(.ref a1), (.int p1), (.int p2), (.int p3)] 4)) (Q := (G_own_iniM Z a1 p1 p2 p3 h0 n0 s)) (fun _ k => castTop (own_ef_own_iniM m a1 p1 p2 p3) k) ?_
  show own_Goes p e below (s₁.setTop (mkF m 0 #[.val (.ref a1), .val (.int p1), .val (.int p2), .val (.int p3)] [])) (G_own_iniM Z a1 p1 p2 p3 h0 n0 s)
  have K2 : Keep h0 h0 [a1] := Keep.refl h0 [a1]
  refine own_go (fun _ k => XS.aloadN X0.here hx rfl (hb hby own_d1_0) rfl rfl k) ?_
  show own_Goes p e below (s₁.setTop (mkF m 1 #[.val (.ref a1), .val (.int p1), .val (.int p2), .val (.int p3)] [(.ref a1)])) (G_own_iniM Z a1 p1 p2 p3 h0 n0 s)
  obtain ⟨_, _, ⟨T3, L3, k3, n3⟩, -, X3, ⟨Lc3, hQ3, l3, y3, z3⟩, st3⟩ := X0.specialBack hx (y := (⟨"java/lang/Record", "<init>", "()V"⟩ : MethodName)) rfl hown (mvT hZ (hw _ (List.mem_of_getElem? (i := 8) rfl))) (mvT hZ (hw _ (List.mem_of_getElem? (i := 9) rfl))) (mvT hZ (hw _ (List.mem_of_getElem? (i := 12) rfl))) (by decide) (backOf (W := 0) (own_recM l Z a0 hw [] a1 h0 n0 Z0 ) hZ (hw _ (List.mem_of_getElem? (i := 12) rfl)) (hw _ (List.mem_of_getElem? (i := 11) rfl)) (by decide) (by decide)) (g := (mkF m 1 #[.val (.ref a1), .val (.int p1), .val (.int p2), .val (.int p3)] [(.ref a1)])) rfl (by rw [hml]; rfl) (Steps.refl _) (a := a1) (argsL := []) (rest := []) (lenOf own_pd0 rfl) rfl (by show 2 * 0 + _ ≤ _; exact Nat.le_of_eq rfl) (hb hby own_d1_1) (fun _ _ => ⟨rfl, e0, (by decide : 0 + 0 ≤ _), (by decide : 0 + 0 ≤ _)⟩)
  dsimp only [Pt.U, Pt.locs, Pt.cells, Pt.slots] at X3 l3 y3 z3 st3 hQ3
  subst l3 y3 z3
  obtain ⟨rfl, N3q, e3⟩ := hQ3
  have N3 := Fr.app N0 N3q
  refine own_go (fun _ k => st3.trans k) ?_
  show own_Goes p e below (T3.setTop (mkF m 4 #[.val (.ref a1), .val (.int p1), .val (.int p2), .val (.int p3)] [])) (G_own_iniM Z a1 p1 p2 p3 h0 n0 s)
  refine own_go (fun _ k => XS.iloadN X3.here hx rfl (hb hby own_d1_4) rfl k) ?_
  show own_Goes p e below (T3.setTop (mkF m 5 #[.val (.ref a1), .val (.int p1), .val (.int p2), .val (.int p3)] [(.int p3)])) (G_own_iniM Z a1 p1 p2 p3 h0 n0 s)
  refine own_go (fun _ k => XS.ifNo X3.here hx rfl (hb hby own_d1_5) rfl (XT.i0_lt_f hp1) k) ?_
  show own_Goes p e below (T3.setTop (mkF m 8 #[.val (.ref a1), .val (.int p1), .val (.int p2), .val (.int p3)] [])) (G_own_iniM Z a1 p1 p2 p3 h0 n0 s)
  refine own_go (fun _ k => XS.iloadN X3.here hx rfl (hb hby own_d1_8) rfl k) ?_
  show own_Goes p e below (T3.setTop (mkF m 9 #[.val (.ref a1), .val (.int p1), .val (.int p2), .val (.int p3)] [(.int p3)])) (G_own_iniM Z a1 p1 p2 p3 h0 n0 s)
  refine own_go (fun _ k => XS.iloadN X3.here hx rfl (hb hby own_d1_9) rfl k) ?_
  show own_Goes p e below (T3.setTop (mkF m 10 #[.val (.ref a1), .val (.int p1), .val (.int p2), .val (.int p3)] [(.int p2), (.int p3)])) (G_own_iniM Z a1 p1 p2 p3 h0 n0 s)
  refine own_go (fun _ k => XS.icmpYes X3.here hx rfl (pc0 := 10) (pc' := 28) rfl (hb hby own_d1_10) rfl (XT.ii_le_t hp2) (by decide) (by decide) k) ?_
  show own_Goes p e below (T3.setTop (mkF m 28 #[.val (.ref a1), .val (.int p1), .val (.int p2), .val (.int p3)] [])) (G_own_iniM Z a1 p1 p2 p3 h0 n0 s)
  refine own_go (fun _ k => XS.aloadN X3.here hx rfl (hb hby own_d1_28) rfl rfl k) ?_
  show own_Goes p e below (T3.setTop (mkF m 29 #[.val (.ref a1), .val (.int p1), .val (.int p2), .val (.int p3)] [(.ref a1)])) (G_own_iniM Z a1 p1 p2 p3 h0 n0 s)
  refine own_go (fun _ k => XS.iloadN X3.here hx rfl (hb hby own_d1_29) rfl k) ?_
  show own_Goes p e below (T3.setTop (mkF m 30 #[.val (.ref a1), .val (.int p1), .val (.int p2), .val (.int p3)] [(.int p1), (.ref a1)])) (G_own_iniM Z a1 p1 p2 p3 h0 n0 s)
  obtain ⟨T4, h4, X4, e4, W4, st4⟩ := putF X3 hx hZ hown (host := "") (Or.inl (hw _ (List.mem_of_getElem? (i := 16) rfl))) Via.refl e3 F_phase E_a1 (Or.inr ⟨(hw _ (List.mem_of_getElem? (i := 17) rfl)), rfl, hnm⟩) (hw _ (List.mem_of_getElem? (i := 3) rfl)) (ty := .int) (by decide) rfl rfl (g := (mkF m 30 #[.val (.ref a1), .val (.int p1), .val (.int p2), .val (.int p3)] [(.int p1), (.ref a1)])) rfl rfl (hb hby own_d1_30)
  have E_5 := E_a1.wr W4
  have F_6 := F_parties.other W4 (Or.inr (slot_ne (Or.inr (hw _ (List.mem_of_getElem? (i := 19) rfl))) (Or.inr (hw _ (List.mem_of_getElem? (i := 17) rfl))) (by decide) (t := .int) (t' := .int) (by decide) (by decide)))
  have F_7 := F_unarrived.other W4 (Or.inr (slot_ne (Or.inr (hw _ (List.mem_of_getElem? (i := 21) rfl))) (Or.inr (hw _ (List.mem_of_getElem? (i := 17) rfl))) (by decide) (t := .int) (t' := .int) (by decide) (by decide)))
  have F_8 := F_phase.same W4
  have N4 := Fr.snoc X4 N3 g_a1
  have Z4 : n0 ≤ h4.size := by rw [W4.size]; exact Z0
  have K4 : Keep h0 h4 [a1] := K2.wr W4 (Or.inl (List.mem_of_getElem? (i := 0) rfl))
  refine own_go st4 ?_
  show own_Goes p e below (T4.setTop (mkF m 33 #[.val (.ref a1), .val (.int p1), .val (.int p2), .val (.int p3)] [])) (G_own_iniM Z a1 p1 p2 p3 h0 n0 s)
  refine own_go (fun _ k => XS.aloadN X4.here hx rfl (hb hby own_d1_33) rfl rfl k) ?_
  show own_Goes p e below (T4.setTop (mkF m 34 #[.val (.ref a1), .val (.int p1), .val (.int p2), .val (.int p3)] [(.ref a1)])) (G_own_iniM Z a1 p1 p2 p3 h0 n0 s)
  refine own_go (fun _ k => XS.iloadN X4.here hx rfl (hb hby own_d1_34) rfl k) ?_
  show own_Goes p e below (T4.setTop (mkF m 35 #[.val (.ref a1), .val (.int p1), .val (.int p2), .val (.int p3)] [(.int p2), (.ref a1)])) (G_own_iniM Z a1 p1 p2 p3 h0 n0 s)
  obtain ⟨T9, h9, X9, e9, W9, st9⟩ := putF X4 hx hZ hown (host := "") (Or.inl (hw _ (List.mem_of_getElem? (i := 18) rfl))) Via.refl e4 F_6 E_5 (Or.inr ⟨(hw _ (List.mem_of_getElem? (i := 19) rfl)), rfl, hnm⟩) (hw _ (List.mem_of_getElem? (i := 3) rfl)) (ty := .int) (by decide) rfl rfl (g := (mkF m 35 #[.val (.ref a1), .val (.int p1), .val (.int p2), .val (.int p3)] [(.int p2), (.ref a1)])) rfl rfl (hb hby own_d1_35)
  have E_10 := E_5.wr W9
  have F_11 := F_8.other W9 (Or.inr (slot_ne (Or.inr (hw _ (List.mem_of_getElem? (i := 17) rfl))) (Or.inr (hw _ (List.mem_of_getElem? (i := 19) rfl))) (by decide) (t := .int) (t' := .int) (by decide) (by decide)))
  have F_12 := F_7.other W9 (Or.inr (slot_ne (Or.inr (hw _ (List.mem_of_getElem? (i := 21) rfl))) (Or.inr (hw _ (List.mem_of_getElem? (i := 19) rfl))) (by decide) (t := .int) (t' := .int) (by decide) (by decide)))
  have F_13 := F_6.same W9
  have N9 := Fr.snoc X9 N4 g_a1
  have Z9 : n0 ≤ h9.size := by rw [W9.size]; exact Z4
  have K9 : Keep h0 h9 [a1] := K4.wr W9 (Or.inl (List.mem_of_getElem? (i := 0) rfl))
  refine own_go st9 ?_
  show own_Goes p e below (T9.setTop (mkF m 38 #[.val (.ref a1), .val (.int p1), .val (.int p2), .val (.int p3)] [])) (G_own_iniM Z a1 p1 p2 p3 h0 n0 s)
  refine own_go (fun _ k => XS.aloadN X9.here hx rfl (hb hby own_d1_38) rfl rfl k) ?_
  show own_Goes p e below (T9.setTop (mkF m 39 #[.val (.ref a1), .val (.int p1), .val (.int p2), .val (.int p3)] [(.ref a1)])) (G_own_iniM Z a1 p1 p2 p3 h0 n0 s)
  refine own_go (fun _ k => XS.iloadN X9.here hx rfl (hb hby own_d1_39) rfl k) ?_
  show own_Goes p e below (T9.setTop (mkF m 40 #[.val (.ref a1), .val (.int p1), .val (.int p2), .val (.int p3)] [(.int p3), (.ref a1)])) (G_own_iniM Z a1 p1 p2 p3 h0 n0 s)
  obtain ⟨T14, h14, X14, e14, W14, st14⟩ := putF X9 hx hZ hown (host := "") (Or.inl (hw _ (List.mem_of_getElem? (i := 20) rfl))) Via.refl e9 F_12 E_10 (Or.inr ⟨(hw _ (List.mem_of_getElem? (i := 21) rfl)), rfl, hnm⟩) (hw _ (List.mem_of_getElem? (i := 3) rfl)) (ty := .int) (by decide) rfl rfl (g := (mkF m 40 #[.val (.ref a1), .val (.int p1), .val (.int p2), .val (.int p3)] [(.int p3), (.ref a1)])) rfl rfl (hb hby own_d1_40)
  have E_15 := E_10.wr W14
  have F_16 := F_11.other W14 (Or.inr (slot_ne (Or.inr (hw _ (List.mem_of_getElem? (i := 17) rfl))) (Or.inr (hw _ (List.mem_of_getElem? (i := 21) rfl))) (by decide) (t := .int) (t' := .int) (by decide) (by decide)))
  have F_17 := F_13.other W14 (Or.inr (slot_ne (Or.inr (hw _ (List.mem_of_getElem? (i := 19) rfl))) (Or.inr (hw _ (List.mem_of_getElem? (i := 21) rfl))) (by decide) (t := .int) (t' := .int) (by decide) (by decide)))
  have F_18 := F_12.same W14
  have N14 := Fr.snoc X14 N9 g_a1
  have Z14 : n0 ≤ h14.size := by rw [W14.size]; exact Z9
  have K14 : Keep h0 h14 [a1] := K9.wr W14 (Or.inl (List.mem_of_getElem? (i := 0) rfl))
  refine own_go st14 ?_
  show own_Goes p e below (T14.setTop (mkF m 43 #[.val (.ref a1), .val (.int p1), .val (.int p2), .val (.int p3)] [])) (G_own_iniM Z a1 p1 p2 p3 h0 n0 s)
  obtain ⟨fs, hr, hrun, hended, hW, hsame⟩ := X14.leave (v := none) (fun _ => rfl) Bd.notSynchronized
  refine ⟨_, _, X14.returnOut hx Bd.returns (hb hby own_d1_43) hr, hrun, hended, _, _, rfl, ?_, ⟨_, rfl⟩, hW, hsame.mono (by decide) (by decide)⟩
  show Q_own_iniM Z a1 p1 p2 p3 h0 n0 _ T14.heap _
  rw [e14]
  exact ⟨rfl, N14, K14, F_16⟩
theorem own_pn4 : plainName "com/example/muster/muster/core/PhaserState" = true := by first | (simp [plainName, overriddenIn]; done) | decide +kernel
theorem own_ef_own_tmM (m : MethodId) (a1 : Addr) : entryFrame m #[(.ref a1)] 1 = (mkF m 0 #[.val (.ref a1)] []) := by first | (simp [entryFrame, mkF, argsToLocals, Value.category]; done) | rfl
def Q_own_tmM (Z : State) (a1 : Addr) (p1 : Int32) (h0 : Heap) (n0 : Nat) (v : Option Value) (h : Heap) (L : List Loc) : Prop := v = some (.int (own_tm p1)) ∧ Fr n0 L ∧ h = h0
def G_own_tmM (Z : State) (a1 : Addr) (p1 : Int32) (h0 : Heap) (n0 : Nat) (s : State) : Outcome → State → Prop := fun o U' => ∃ v L, o = .returned v ∧ Q_own_tmM Z a1 p1 h0 n0 v U'.heap L ∧ FrameEnd s o U' L ({ frames := 0, cells := 0, slots := 0, locals := 0 } : Room).cells ({ frames := 0, cells := 0, slots := 0, locals := 0 } : Room).slots
theorem own_d4_0 : decode prog_12_method_5_code 0 = .ok (.aload_n 0, 1) := by decide +kernel
theorem own_d4_1 : decode prog_12_method_5_code 1 = .ok (.getfield 16, 3) := by decide +kernel
theorem own_d4_4 : decode prog_12_method_5_code 4 = .ok (.ifCond .ge 7, 3) := by decide +kernel
theorem own_d4_7 : decode prog_12_method_5_code 7 = .ok (.iconst 1, 1) := by decide +kernel
theorem own_d4_8 : decode prog_12_method_5_code 8 = .ok (.goto 4, 3) := by decide +kernel
theorem own_d4_12 : decode prog_12_method_5_code 12 = .ok (.ireturn, 1) := by decide +kernel
theorem own_d4_11 : decode prog_12_method_5_code 11 = .ok (.iconst 0, 1) := by decide +kernel
set_option maxRecDepth 65536 in
set_option maxHeartbeats 40000000 in
theorem own_tmM (l : Launch) (Z : State) (a0 : Array Value) (hw : ∀ d ∈ tables_1, d.before a0 Z = true) (ws : List Jvm.Cond) (a1 : Addr) (p1 : Int32) (h0 : Heap) (n0 : Nat) (Z0 : n0 ≤ h0.size) (F_phase : Fld Z h0 a1 "com/example/muster/muster/core/PhaserState" "phase" "I" (.int p1)) :
    MetFree l (⟨"com/example/muster/muster/core/PhaserState", "isTerminated", "()Z"⟩ : MethodName) (head1 (Jvm.Cond.code (⟨"com/example/muster/muster/core/PhaserState", "isTerminated", "()Z"⟩ : MethodName) prog_12_method_5_code 1 (some .boolean) :: ws) ({ frames := 0, cells := 0, slots := 0, locals := 0 } : Room)) (fun a U => a = #[(.ref a1)] ∧ Z.Warmed39 U.vm ∧ U.heap = h0) (fun _ _ _ _ _ => True) (fun _ U o U' => ∃ v L, o = .returned v ∧ Q_own_tmM Z a1 p1 h0 n0 v U'.heap L ∧ FrameEnd U o U' L ({ frames := 0, cells := 0, slots := 0, locals := 0 } : Room).cells ({ frames := 0, cells := 0, slots := 0, locals := 0 } : Room).slots) := by
  refine MetFree.of_bodySF (plainFor_of_name own_pn4) hisR ?_
  intro p e s m args below meth c s₁ Bd hml0 hP hK
  obtain ⟨rfl, hZ, hh⟩ := hP
  have hx := Bd.exec
  have hby := Bd.bytes
  have hml : c.maxLocals = 1 := hml0
  have hown : s.vm.findClass "com/example/muster/muster/core/PhaserState" = some m.cls := findClass_of_methodNamed Bd.named
  have hnm := (name_of_methodNamed Bd.named Bd.method).1
  have X0 : Stand p l e ({ frames := 0, cells := 0, slots := 0, locals := 0 } : Room) s m #[(.ref a1)] below meth c s₁ [] 0 0 := Stand.of_body Bd
  have e0 : s₁.heap = h0 := by rw [← hh, Bd.state]; rfl
  have N0 := Fr.nil n0
  refine own_go (S := s₁.setTop (entryFrame m #[(.ref a1)] 1)) (Q := (G_own_tmM Z a1 p1 h0 n0 s)) (fun _ k => castTop (own_ef_own_tmM m a1) k) ?_
  show own_Goes p e below (s₁.setTop (mkF m 0 #[.val (.ref a1)] [])) (G_own_tmM Z a1 p1 h0 n0 s)
  refine own_go (fun _ k => XS.aloadN X0.here hx rfl (hb hby own_d4_0) rfl rfl k) ?_
  show own_Goes p e below (s₁.setTop (mkF m 1 #[.val (.ref a1)] [(.ref a1)])) (G_own_tmM Z a1 p1 h0 n0 s)
  obtain ⟨T19, X19, e19, st19⟩ := getF X0 hx hZ hown (host := "") (Or.inl (hw _ (List.mem_of_getElem? (i := 16) rfl))) Via.refl e0 F_phase (g := (mkF m 1 #[.val (.ref a1)] [(.ref a1)])) rfl rfl (hb hby own_d4_1)
  refine own_go st19 ?_
  show own_Goes p e below (T19.setTop (mkF m 4 #[.val (.ref a1)] [(.int p1)])) (G_own_tmM Z a1 p1 h0 n0 s)
  by_cases hc4_20 : p1 < (0 : Int32)
  · refine own_go (fun _ k => XS.ifNo X19.here hx rfl (hb hby own_d4_4) rfl (XT.i0_ge_f hc4_20) k) ?_
    show own_Goes p e below (T19.setTop (mkF m 7 #[.val (.ref a1)] [])) (G_own_tmM Z a1 p1 h0 n0 s)
    refine own_go (fun _ k => XS.iconst X19.here hx rfl (hb hby own_d4_7) k) ?_
    show own_Goes p e below (T19.setTop (mkF m 8 #[.val (.ref a1)] [(.int (1 : Int32))])) (G_own_tmM Z a1 p1 h0 n0 s)
    refine own_go (fun _ k => XS.goto X19.here hx rfl (pc0 := 8) (pc' := 12) rfl (hb hby own_d4_8) (by decide) (by decide) k) ?_
    show own_Goes p e below (T19.setTop (mkF m 12 #[.val (.ref a1)] [(.int (1 : Int32))])) (G_own_tmM Z a1 p1 h0 n0 s)
    obtain ⟨fs, hr, hrun, hended, hW, hsame⟩ := X19.leave (v := some (.int (1 : Int32))) (fun h => by rw [Bd.returns] at h; cases h) Bd.notSynchronized
    refine ⟨_, _, retN X19 hx (t := .boolean) Bd.returns (by simp) (hb hby own_d4_12) hr, hrun, hended, _, _, rfl, ?_, ⟨_, rfl⟩, hW, hsame.mono (by decide) (by decide)⟩
    show Q_own_tmM Z a1 p1 h0 n0 _ T19.heap _
    rw [e19]
    exact ⟨by simp [own_tm, hc4_20], N0, rfl⟩
  · refine own_go (fun _ k => XS.ifYes X19.here hx rfl (pc0 := 4) (pc' := 11) rfl (hb hby own_d4_4) rfl (XT.i0_ge_t hc4_20) (by decide) (by decide) k) ?_
    show own_Goes p e below (T19.setTop (mkF m 11 #[.val (.ref a1)] [])) (G_own_tmM Z a1 p1 h0 n0 s)
    refine own_go (fun _ k => XS.iconst X19.here hx rfl (hb hby own_d4_11) k) ?_
    show own_Goes p e below (T19.setTop (mkF m 12 #[.val (.ref a1)] [(.int (0 : Int32))])) (G_own_tmM Z a1 p1 h0 n0 s)
    obtain ⟨fs, hr, hrun, hended, hW, hsame⟩ := X19.leave (v := some (.int (0 : Int32))) (fun h => by rw [Bd.returns] at h; cases h) Bd.notSynchronized
    refine ⟨_, _, retN X19 hx (t := .boolean) Bd.returns (by simp) (hb hby own_d4_12) hr, hrun, hended, _, _, rfl, ?_, ⟨_, rfl⟩, hW, hsame.mono (by decide) (by decide)⟩
    show Q_own_tmM Z a1 p1 h0 n0 _ T19.heap _
    rw [e19]
    exact ⟨by simp [own_tm, hc4_20], N0, rfl⟩
theorem own_pn5 : plainName "com/example/muster/muster/core/PhaserState" = true := by first | (simp [plainName, overriddenIn]; done) | decide +kernel
theorem own_ef_own_tpM (m : MethodId) (p1 : Int32) : entryFrame m #[(.int p1)] 1 = (mkF m 0 #[.val (.int p1)] []) := by first | (simp [entryFrame, mkF, argsToLocals, Value.category]; done) | rfl
def Q_own_tpM (Z : State) (p1 : Int32) (h0 : Heap) (n0 : Nat) (v : Option Value) (h : Heap) (L : List Loc) : Prop := v = some (.int (p1 ||| (-2147483648 : Int32))) ∧ Fr n0 L ∧ h = h0
def G_own_tpM (Z : State) (p1 : Int32) (h0 : Heap) (n0 : Nat) (s : State) : Outcome → State → Prop := fun o U' => ∃ v L, o = .returned v ∧ Q_own_tpM Z p1 h0 n0 v U'.heap L ∧ FrameEnd s o U' L ({ frames := 0, cells := 0, slots := 0, locals := 0 } : Room).cells ({ frames := 0, cells := 0, slots := 0, locals := 0 } : Room).slots
theorem own_d5_0 : decode prog_12_method_3_code 0 = .ok (.iload_n 0, 1) := by decide +kernel
theorem own_d5_1 : decode prog_12_method_3_code 1 = .ok (.ldc 31, 2) := by decide +kernel
theorem own_d5_3 : decode prog_12_method_3_code 3 = .ok (.ior, 1) := by decide +kernel
theorem own_d5_4 : decode prog_12_method_3_code 4 = .ok (.ireturn, 1) := by decide +kernel
set_option maxRecDepth 65536 in
set_option maxHeartbeats 40000000 in
theorem own_tpM (l : Launch) (Z : State) (a0 : Array Value) (hw : ∀ d ∈ tables_1, d.before a0 Z = true) (ws : List Jvm.Cond) (p1 : Int32) (h0 : Heap) (n0 : Nat) (Z0 : n0 ≤ h0.size)  :
    MetFree l (⟨"com/example/muster/muster/core/PhaserState", "terminatedPhase", "(I)I"⟩ : MethodName) (head1 (Jvm.Cond.code (⟨"com/example/muster/muster/core/PhaserState", "terminatedPhase", "(I)I"⟩ : MethodName) prog_12_method_3_code 1 (some .int) :: ws) ({ frames := 0, cells := 0, slots := 0, locals := 0 } : Room)) (fun a U => a = #[(.int p1)] ∧ Z.Warmed39 U.vm ∧ U.heap = h0) (fun _ _ _ _ _ => True) (fun _ U o U' => ∃ v L, o = .returned v ∧ Q_own_tpM Z p1 h0 n0 v U'.heap L ∧ FrameEnd U o U' L ({ frames := 0, cells := 0, slots := 0, locals := 0 } : Room).cells ({ frames := 0, cells := 0, slots := 0, locals := 0 } : Room).slots) := by
  refine MetFree.of_bodySF (plainFor_of_name own_pn5) hisR ?_
  intro p e s m args below meth c s₁ Bd hml0 hP hK
  obtain ⟨rfl, hZ, hh⟩ := hP
  have hx := Bd.exec
  have hby := Bd.bytes
  have hml : c.maxLocals = 1 := hml0
  have hown : s.vm.findClass "com/example/muster/muster/core/PhaserState" = some m.cls := findClass_of_methodNamed Bd.named
  have hnm := (name_of_methodNamed Bd.named Bd.method).1
  have X0 : Stand p l e ({ frames := 0, cells := 0, slots := 0, locals := 0 } : Room) s m #[(.int p1)] below meth c s₁ [] 0 0 := Stand.of_body Bd
  have e0 : s₁.heap = h0 := by rw [← hh, Bd.state]; rfl
  have N0 := Fr.nil n0
  refine own_go (S := s₁.setTop (entryFrame m #[(.int p1)] 1)) (Q := (G_own_tpM Z p1 h0 n0 s)) (fun _ k => castTop (own_ef_own_tpM m p1) k) ?_
  show own_Goes p e below (s₁.setTop (mkF m 0 #[.val (.int p1)] [])) (G_own_tpM Z p1 h0 n0 s)
  refine own_go (fun _ k => XS.iloadN X0.here hx rfl (hb hby own_d5_0) rfl k) ?_
  show own_Goes p e below (s₁.setTop (mkF m 1 #[.val (.int p1)] [(.int p1)])) (G_own_tpM Z p1 h0 n0 s)
  refine own_go (fun _ k => Jvm.Stand.ldcI (own := "com/example/muster/muster/core/PhaserState") (index := 31) (v := (-2147483648 : Int32)) X0 hx hown (mvT hZ (hw _ (List.mem_of_getElem? (i := 31) rfl))) rfl (hb hby own_d5_1) k) ?_
  show own_Goes p e below (s₁.setTop (mkF m 3 #[.val (.int p1)] [(.int (-2147483648 : Int32)), (.int p1)])) (G_own_tpM Z p1 h0 n0 s)
  refine own_go (fun _ k => XS.ior X0.here hx rfl (hb hby own_d5_3) rfl k) ?_
  show own_Goes p e below (s₁.setTop (mkF m 4 #[.val (.int p1)] [(.int (p1 ||| (-2147483648 : Int32)))])) (G_own_tpM Z p1 h0 n0 s)
  obtain ⟨fs, hr, hrun, hended, hW, hsame⟩ := X0.leave (v := some (.int (p1 ||| (-2147483648 : Int32)))) (fun h => by rw [Bd.returns] at h; cases h) Bd.notSynchronized
  refine ⟨_, _, retOut X0 hx (t := .int) (i := .ireturn) Bd.returns rfl (Or.inl ⟨rfl, Or.inl rfl, _, rfl⟩) (hb hby own_d5_4) hr, hrun, hended, _, _, rfl, ?_, ⟨_, rfl⟩, hW, hsame.mono (by decide) (by decide)⟩
  show Q_own_tpM Z p1 h0 n0 _ s₁.heap _
  rw [e0]
  exact ⟨rfl, N0, rfl⟩
theorem own_pn0 : plainName "com/example/muster/muster/core/PhaserStateIsTerminatedPinLaw" = true := by first | (simp [plainName, overriddenIn]; done) | decide +kernel
theorem own_ef_own_law (m : MethodId) (p1 : Int32) (p2 : Int32) (p3 : Int32) : entryFrame m #[(.int p1), (.int p2), (.int p3)] maxLocals = (mkF m 0 #[.val (.int p1), .val (.int p2), .val (.int p3), .unset, .unset, .unset, .unset, .unset, .unset] []) := by first | (simp [entryFrame, mkF, argsToLocals, Value.category, maxLocals]; done) | rfl
def Q_own_law (Z : State) (p1 : Int32) (p2 : Int32) (p3 : Int32) (h0 : Heap) (n0 : Nat) (v : Option Value) (h : Heap) (L : List Loc) : Prop := v = some (.int 1) ∧ Fr n0 L
def G_own_law (Z : State) (p1 : Int32) (p2 : Int32) (p3 : Int32) (h0 : Heap) (n0 : Nat) (s : State) : Outcome → State → Prop := fun o U' => ∃ v L, o = .returned v ∧ Q_own_law Z p1 p2 p3 h0 n0 v U'.heap L ∧ FrameEnd s o U' L room_1.cells room_1.slots
theorem own_pd1 : parseMethodDescriptor "(III)V" = some ⟨[.int, .int, .int], none⟩ := by decide +kernel
theorem own_pd2 : parseMethodDescriptor "()Z" = some ⟨[], some .boolean⟩ := by decide +kernel
theorem own_pd3 : parseMethodDescriptor "(I)I" = some ⟨[.int], some .int⟩ := by decide +kernel
set_option maxRecDepth 65536 in
set_option maxHeartbeats 40000000 in
theorem own_law (l : Launch) (Z : State) (a0 : Array Value) (hw : ∀ d ∈ tables_1, d.before a0 Z = true) (ws : List Jvm.Cond) (p1 : Int32) (p2 : Int32) (p3 : Int32) (h0 : Heap) (n0 : Nat) (Z0 : n0 ≤ h0.size)  :
    MetFree l x (head1 (Jvm.Cond.code x code maxLocals ret :: ws) room_1) (fun a U => a = #[(.int p1), (.int p2), (.int p3)] ∧ Z.Warmed39 U.vm ∧ U.heap = h0) (fun _ _ _ _ _ => True) (fun _ U o U' => ∃ v L, o = .returned v ∧ Q_own_law Z p1 p2 p3 h0 n0 v U'.heap L ∧ FrameEnd U o U' L room_1.cells room_1.slots) := by
  refine MetFree.of_bodySF (plainFor_of_name own_pn0) hisR ?_
  intro p e s m args below meth c s₁ Bd hml0 hP hK
  obtain ⟨rfl, hZ, hh⟩ := hP
  have hx := Bd.exec
  have hby := Bd.bytes
  have hml : c.maxLocals = 9 := hml0
  have hown : s.vm.findClass "com/example/muster/muster/core/PhaserStateIsTerminatedPinLaw" = some m.cls := findClass_of_methodNamed Bd.named
  have hnm := (name_of_methodNamed Bd.named Bd.method).1
  have X0 : Stand p l e room_1 s m #[(.int p1), (.int p2), (.int p3)] below meth c s₁ [] 0 0 := Stand.of_body Bd
  have e0 : s₁.heap = h0 := by rw [← hh, Bd.state]; rfl
  have N0 := Fr.nil n0
  refine own_go (S := s₁.setTop (entryFrame m #[(.int p1), (.int p2), (.int p3)] maxLocals)) (Q := (G_own_law Z p1 p2 p3 h0 n0 s)) (fun _ k => castTop (own_ef_own_law m p1 p2 p3) k) ?_
  show own_Goes p e below (s₁.setTop (mkF m 0 #[.val (.int p1), .val (.int p2), .val (.int p3), .unset, .unset, .unset, .unset, .unset, .unset] [])) (G_own_law Z p1 p2 p3 h0 n0 s)
  refine own_go (fun _ k => XS.iloadN X0.here hx rfl (hb hby at_0) rfl k) ?_
  show own_Goes p e below (s₁.setTop (mkF m 1 #[.val (.int p1), .val (.int p2), .val (.int p3), .unset, .unset, .unset, .unset, .unset, .unset] [(.int p2)])) (G_own_law Z p1 p2 p3 h0 n0 s)
  refine own_go (fun _ k => Jvm.Stand.ldcI (own := "com/example/muster/muster/core/PhaserStateIsTerminatedPinLaw") (index := 7) (v := (2147483647 : Int32)) X0 hx hown (mvT hZ (hw _ (List.mem_of_getElem? (i := 0) rfl))) rfl (hb hby at_1) k) ?_
  show own_Goes p e below (s₁.setTop (mkF m 3 #[.val (.int p1), .val (.int p2), .val (.int p3), .unset, .unset, .unset, .unset, .unset, .unset] [(.int (2147483647 : Int32)), (.int p2)])) (G_own_law Z p1 p2 p3 h0 n0 s)
  refine own_go (fun _ k => XS.iand X0.here hx rfl (hb hby at_3) rfl k) ?_
  show own_Goes p e below (s₁.setTop (mkF m 4 #[.val (.int p1), .val (.int p2), .val (.int p3), .unset, .unset, .unset, .unset, .unset, .unset] [(.int (p2 &&& (2147483647 : Int32)))])) (G_own_law Z p1 p2 p3 h0 n0 s)
  refine own_go (fun _ k => XS.istoreN X0.here hx rfl (hb hby at_4) rfl (l' := #[.val (.int p1), .val (.int p2), .val (.int p3), .val (.int (p2 &&& (2147483647 : Int32))), .unset, .unset, .unset, .unset, .unset]) rfl k) ?_
  show own_Goes p e below (s₁.setTop (mkF m 5 #[.val (.int p1), .val (.int p2), .val (.int p3), .val (.int (p2 &&& (2147483647 : Int32))), .unset, .unset, .unset, .unset, .unset] [])) (G_own_law Z p1 p2 p3 h0 n0 s)
  obtain ⟨pp, h_pp⟩ : ∃ z : Int32, z = (p2 &&& (2147483647 : Int32)) := ⟨_, rfl⟩
  rw [← h_pp]
  show own_Goes p e below (s₁.setTop (mkF m 5 #[.val (.int p1), .val (.int p2), .val (.int p3), .val (.int pp), .unset, .unset, .unset, .unset, .unset] [])) (G_own_law Z p1 p2 p3 h0 n0 s)
  have hpp : 0 ≤ pp.toInt := by rw [h_pp]; exact own_pp _
  refine own_go (fun _ k => XS.iloadN X0.here hx rfl (hb hby at_5) rfl k) ?_
  show own_Goes p e below (s₁.setTop (mkF m 6 #[.val (.int p1), .val (.int p2), .val (.int p3), .val (.int pp), .unset, .unset, .unset, .unset, .unset] [(.int p3)])) (G_own_law Z p1 p2 p3 h0 n0 s)
  refine own_go (fun _ k => XS.i2l X0.here hx rfl (hb hby at_6) rfl k) ?_
  show own_Goes p e below (s₁.setTop (mkF m 7 #[.val (.int p1), .val (.int p2), .val (.int p3), .val (.int pp), .unset, .unset, .unset, .unset, .unset] [(.long (p3.toInt64))])) (G_own_law Z p1 p2 p3 h0 n0 s)
  refine own_go (fun _ k => Jvm.Stand.ldc2J (own := "com/example/muster/muster/core/PhaserStateIsTerminatedPinLaw") (index := 8) (v := (2147483647 : Int64)) X0 hx hown (mvT hZ (hw _ (List.mem_of_getElem? (i := 1) rfl))) rfl (hb hby at_7) k) ?_
  show own_Goes p e below (s₁.setTop (mkF m 10 #[.val (.int p1), .val (.int p2), .val (.int p3), .val (.int pp), .unset, .unset, .unset, .unset, .unset] [(.long (2147483647 : Int64)), (.long (p3.toInt64))])) (G_own_law Z p1 p2 p3 h0 n0 s)
  refine own_go (fun _ k => XS.land X0.here hx rfl (hb hby at_10) rfl k) ?_
  show own_Goes p e below (s₁.setTop (mkF m 11 #[.val (.int p1), .val (.int p2), .val (.int p3), .val (.int pp), .unset, .unset, .unset, .unset, .unset] [(.long ((p3.toInt64) &&& (2147483647 : Int64)))])) (G_own_law Z p1 p2 p3 h0 n0 s)
  refine own_go (fun _ k => XS.iloadN X0.here hx rfl (hb hby at_11) rfl k) ?_
  show own_Goes p e below (s₁.setTop (mkF m 12 #[.val (.int p1), .val (.int p2), .val (.int p3), .val (.int pp), .unset, .unset, .unset, .unset, .unset] [(.int pp), (.long ((p3.toInt64) &&& (2147483647 : Int64)))])) (G_own_law Z p1 p2 p3 h0 n0 s)
  refine own_go (fun _ k => XS.i2l X0.here hx rfl (hb hby at_12) rfl k) ?_
  show own_Goes p e below (s₁.setTop (mkF m 13 #[.val (.int p1), .val (.int p2), .val (.int p3), .val (.int pp), .unset, .unset, .unset, .unset, .unset] [(.long (pp.toInt64)), (.long ((p3.toInt64) &&& (2147483647 : Int64)))])) (G_own_law Z p1 p2 p3 h0 n0 s)
  refine own_go (fun _ k => XS.lconst X0.here hx rfl (hb hby at_13) k) ?_
  show own_Goes p e below (s₁.setTop (mkF m 14 #[.val (.int p1), .val (.int p2), .val (.int p3), .val (.int pp), .unset, .unset, .unset, .unset, .unset] [(.long (1 : Int64)), (.long (pp.toInt64)), (.long ((p3.toInt64) &&& (2147483647 : Int64)))])) (G_own_law Z p1 p2 p3 h0 n0 s)
  refine own_go (fun _ k => XS.ladd X0.here hx rfl (hb hby at_14) rfl k) ?_
  show own_Goes p e below (s₁.setTop (mkF m 15 #[.val (.int p1), .val (.int p2), .val (.int p3), .val (.int pp), .unset, .unset, .unset, .unset, .unset] [(.long ((pp.toInt64) + (1 : Int64))), (.long ((p3.toInt64) &&& (2147483647 : Int64)))])) (G_own_law Z p1 p2 p3 h0 n0 s)
  refine own_go (fun _ k => XS.lrem X0.here hx rfl (hb hby at_15) rfl (own_nz pp hpp) k) ?_
  show own_Goes p e below (s₁.setTop (mkF m 16 #[.val (.int p1), .val (.int p2), .val (.int p3), .val (.int pp), .unset, .unset, .unset, .unset, .unset] [(.long (((p3.toInt64) &&& (2147483647 : Int64)) - (((p3.toInt64) &&& (2147483647 : Int64)) / ((pp.toInt64) + (1 : Int64))) * ((pp.toInt64) + (1 : Int64))))])) (G_own_law Z p1 p2 p3 h0 n0 s)
  refine own_go (fun _ k => XS.l2i X0.here hx rfl (hb hby at_16) rfl k) ?_
  show own_Goes p e below (s₁.setTop (mkF m 17 #[.val (.int p1), .val (.int p2), .val (.int p3), .val (.int pp), .unset, .unset, .unset, .unset, .unset] [(.int ((((p3.toInt64) &&& (2147483647 : Int64)) - (((p3.toInt64) &&& (2147483647 : Int64)) / ((pp.toInt64) + (1 : Int64))) * ((pp.toInt64) + (1 : Int64))).toInt32))])) (G_own_law Z p1 p2 p3 h0 n0 s)
  refine own_go (fun _ k => XS.istore X0.here hx rfl (hb hby at_17) rfl (l' := #[.val (.int p1), .val (.int p2), .val (.int p3), .val (.int pp), .val (.int ((((p3.toInt64) &&& (2147483647 : Int64)) - (((p3.toInt64) &&& (2147483647 : Int64)) / ((pp.toInt64) + (1 : Int64))) * ((pp.toInt64) + (1 : Int64))).toInt32)), .unset, .unset, .unset, .unset]) rfl k) ?_
  show own_Goes p e below (s₁.setTop (mkF m 19 #[.val (.int p1), .val (.int p2), .val (.int p3), .val (.int pp), .val (.int ((((p3.toInt64) &&& (2147483647 : Int64)) - (((p3.toInt64) &&& (2147483647 : Int64)) / ((pp.toInt64) + (1 : Int64))) * ((pp.toInt64) + (1 : Int64))).toInt32)), .unset, .unset, .unset, .unset] [])) (G_own_law Z p1 p2 p3 h0 n0 s)
  obtain ⟨un, h_un⟩ : ∃ z : Int32, z = ((((p3.toInt64) &&& (2147483647 : Int64)) - (((p3.toInt64) &&& (2147483647 : Int64)) / ((pp.toInt64) + (1 : Int64))) * ((pp.toInt64) + (1 : Int64))).toInt32) := ⟨_, rfl⟩
  rw [← h_un]
  show own_Goes p e below (s₁.setTop (mkF m 19 #[.val (.int p1), .val (.int p2), .val (.int p3), .val (.int pp), .val (.int un), .unset, .unset, .unset, .unset] [])) (G_own_law Z p1 p2 p3 h0 n0 s)
  have hun := own_un pp (p3.toInt64 &&& (2147483647 : Int64)) hpp (own_uu _)
  rw [← h_un] at hun
  have e00 : (0 : Int32).toInt = 0 := by decide
  have hu1 : ¬ un < 0 := by rw [Int32.lt_iff_toInt_lt]; omega
  have hu2 : ¬ pp < un := by rw [Int32.lt_iff_toInt_lt]; omega
  obtain ⟨T21, h21, X21, e21, E21, A21, D21, -, st21⟩ := newO X0 hx hZ hown (hw _ (List.mem_of_getElem? (i := 2) rfl)) (hw _ (List.mem_of_getElem? (i := 3) rfl)) (hw _ (List.mem_of_getElem? (i := 4) rfl)) e0 (g := (mkF m 19 #[.val (.int p1), .val (.int p2), .val (.int p3), .val (.int pp), .val (.int un), .unset, .unset, .unset, .unset] [])) rfl (hb hby at_19) (by decide) (by decide)
  obtain ⟨b21, g21⟩ : ∃ z, z = h0.size := ⟨_, rfl⟩
  rw [← g21] at A21 D21 st21
  have g_b21 : n0 ≤ b21 := by rw [g21]; exact Z0
  have Z21 : n0 ≤ h21.size := Nat.le_trans Z0 E21.1
  have F_23 : Fld Z h21 b21 "com/example/muster/muster/core/PhaserState" "phase" "I" (.int (0 : Int32)) := D21 (Or.inr (hw _ (List.mem_of_getElem? (i := 17) rfl))) (ty := .int) (by decide)
  have F_24 : Fld Z h21 b21 "com/example/muster/muster/core/PhaserState" "parties" "I" (.int (0 : Int32)) := D21 (Or.inr (hw _ (List.mem_of_getElem? (i := 19) rfl))) (ty := .int) (by decide)
  have F_25 : Fld Z h21 b21 "com/example/muster/muster/core/PhaserState" "unarrived" "I" (.int (0 : Int32)) := D21 (Or.inr (hw _ (List.mem_of_getElem? (i := 21) rfl))) (ty := .int) (by decide)
  refine own_go st21 ?_
  show own_Goes p e below (T21.setTop (mkF m 22 #[.val (.int p1), .val (.int p2), .val (.int p3), .val (.int pp), .val (.int un), .unset, .unset, .unset, .unset] [(.ref b21)])) (G_own_law Z p1 p2 p3 h0 n0 s)
  refine own_go (fun _ k => XS.dup X21.here hx rfl (hb hby at_22) rfl rfl k) ?_
  show own_Goes p e below (T21.setTop (mkF m 23 #[.val (.int p1), .val (.int p2), .val (.int p3), .val (.int pp), .val (.int un), .unset, .unset, .unset, .unset] [(.ref b21), (.ref b21)])) (G_own_law Z p1 p2 p3 h0 n0 s)
  refine own_go (fun _ k => XS.iloadN X21.here hx rfl (hb hby at_23) rfl k) ?_
  show own_Goes p e below (T21.setTop (mkF m 24 #[.val (.int p1), .val (.int p2), .val (.int p3), .val (.int pp), .val (.int un), .unset, .unset, .unset, .unset] [(.int p1), (.ref b21), (.ref b21)])) (G_own_law Z p1 p2 p3 h0 n0 s)
  refine own_go (fun _ k => XS.iloadN X21.here hx rfl (hb hby at_24) rfl k) ?_
  show own_Goes p e below (T21.setTop (mkF m 25 #[.val (.int p1), .val (.int p2), .val (.int p3), .val (.int pp), .val (.int un), .unset, .unset, .unset, .unset] [(.int pp), (.int p1), (.ref b21), (.ref b21)])) (G_own_law Z p1 p2 p3 h0 n0 s)
  refine own_go (fun _ k => XS.iload X21.here hx rfl (hb hby at_25) rfl k) ?_
  show own_Goes p e below (T21.setTop (mkF m 27 #[.val (.int p1), .val (.int p2), .val (.int p3), .val (.int pp), .val (.int un), .unset, .unset, .unset, .unset] [(.int un), (.int pp), (.int p1), (.ref b21), (.ref b21)])) (G_own_law Z p1 p2 p3 h0 n0 s)
  obtain ⟨_, _, ⟨T26, L26, k26, n26⟩, -, X26, ⟨Lc26, hQ26, l26, y26, z26⟩, st26⟩ := X21.specialBack hx (y := (⟨"com/example/muster/muster/core/PhaserState", "<init>", "(III)V"⟩ : MethodName)) rfl hown (mvT hZ (hw _ (List.mem_of_getElem? (i := 5) rfl))) (mvT hZ (hw _ (List.mem_of_getElem? (i := 6) rfl))) (mvT hZ (hw _ (List.mem_of_getElem? (i := 7) rfl))) (by decide) (backOf (W := 1) (own_iniM l Z a0 hw [] b21 p1 pp un h21 n0 Z21 A21 g_b21 F_23 F_24 F_25 hu1 hu2) hZ (hw _ (List.mem_of_getElem? (i := 7) rfl)) (hw _ (List.mem_of_getElem? (i := 4) rfl)) (by decide) (by decide)) (g := (mkF m 27 #[.val (.int p1), .val (.int p2), .val (.int p3), .val (.int pp), .val (.int un), .unset, .unset, .unset, .unset] [(.int un), (.int pp), (.int p1), (.ref b21), (.ref b21)])) rfl (by rw [hml]; rfl) (Steps.refl _) (a := b21) (argsL := [(.int p1), (.int pp), (.int un)]) (rest := [(.ref b21)]) (lenOf own_pd1 rfl) rfl (by show 2 * 0 + _ ≤ _; exact Nat.le_of_eq rfl) (hb hby at_27) (fun _ _ => ⟨rfl, e21, (by decide : 1 + 0 ≤ _), (by decide : 3 + 0 ≤ _)⟩)
  dsimp only [Pt.U, Pt.locs, Pt.cells, Pt.slots] at X26 l26 y26 z26 st26 hQ26
  subst l26 y26 z26
  obtain ⟨rfl, N26q, Kq26, Fa26⟩ := hQ26
  have N26 := Fr.app N0 N26q
  have A21_27 := A21.keep Kq26
  have Z26 : n0 ≤ T26.heap.size := Nat.le_trans Z21 Kq26.1
  refine own_go (fun _ k => st26.trans k) ?_
  show own_Goes p e below (T26.setTop (mkF m 30 #[.val (.int p1), .val (.int p2), .val (.int p3), .val (.int pp), .val (.int un), .unset, .unset, .unset, .unset] [(.ref b21)])) (G_own_law Z p1 p2 p3 h0 n0 s)
  refine own_go (fun _ k => XS.astore X26.here hx rfl (hb hby at_30) rfl rfl (l' := #[.val (.int p1), .val (.int p2), .val (.int p3), .val (.int pp), .val (.int un), .val (.ref b21), .unset, .unset, .unset]) rfl k) ?_
  show own_Goes p e below (T26.setTop (mkF m 32 #[.val (.int p1), .val (.int p2), .val (.int p3), .val (.int pp), .val (.int un), .val (.ref b21), .unset, .unset, .unset] [])) (G_own_law Z p1 p2 p3 h0 n0 s)
  refine own_join (P := fun z : Int32 => z = own_tm p1) (F := fun z => T26.setTop (mkF m 44 #[.val (.int p1), .val (.int p2), .val (.int p3), .val (.int pp), .val (.int un), .val (.ref b21), .unset, .unset, .unset] [(.int z)])) ?_ ?_
  · intro z h_z
    show own_Goes p e below (T26.setTop (mkF m 44 #[.val (.int p1), .val (.int p2), .val (.int p3), .val (.int pp), .val (.int un), .val (.ref b21), .unset, .unset, .unset] [(.int z)])) (G_own_law Z p1 p2 p3 h0 n0 s)
    refine own_go (fun _ k => XS.istore X26.here hx rfl (hb hby at_44) rfl (l' := #[.val (.int p1), .val (.int p2), .val (.int p3), .val (.int pp), .val (.int un), .val (.ref b21), .val (.int z), .unset, .unset]) rfl k) ?_
    show own_Goes p e below (T26.setTop (mkF m 46 #[.val (.int p1), .val (.int p2), .val (.int p3), .val (.int pp), .val (.int un), .val (.ref b21), .val (.int z), .unset, .unset] [])) (G_own_law Z p1 p2 p3 h0 n0 s)
    refine own_go (fun _ k => XS.aload X26.here hx rfl (hb hby at_46) rfl rfl k) ?_
    show own_Goes p e below (T26.setTop (mkF m 48 #[.val (.int p1), .val (.int p2), .val (.int p3), .val (.int pp), .val (.int un), .val (.ref b21), .val (.int z), .unset, .unset] [(.ref b21)])) (G_own_law Z p1 p2 p3 h0 n0 s)
    obtain ⟨cq32, kq32, q32a, q32b, q32c⟩ := isOf hZ rfl A21_27
    obtain ⟨_, _, ⟨T32, L32, k32, n32⟩, -, X32, ⟨Lc32, hQ32, l32, y32, z32⟩, st32⟩ := X26.virtualBack hx (y := (⟨"com/example/muster/muster/core/PhaserState", "isTerminated", "()Z"⟩ : MethodName)) (z := (⟨"com/example/muster/muster/core/PhaserState", "isTerminated", "()Z"⟩ : MethodName)) hown (mvT hZ (hw _ (List.mem_of_getElem? (i := 23) rfl))) (mvT hZ (hw _ (List.mem_of_getElem? (i := 24) rfl))) (notFace_of_selects (args := #[]) (mvT hZ (hw _ (List.mem_of_getElem? (i := 26) rfl)))) (mvT hZ (hw _ (List.mem_of_getElem? (i := 26) rfl))) (mvT hZ (hw _ (List.mem_of_getElem? (i := 25) rfl))) (by decide) (backOf (W := 0) (own_tmM l Z a0 hw [] b21 p1 T26.heap n0 Z26 Fa26) hZ (hw _ (List.mem_of_getElem? (i := 27) rfl)) (hw _ (List.mem_of_getElem? (i := 4) rfl)) (by decide) (by decide)) q32a q32c (g := (mkF m 48 #[.val (.int p1), .val (.int p2), .val (.int p3), .val (.int pp), .val (.int un), .val (.ref b21), .val (.int z), .unset, .unset] [(.ref b21)])) rfl (by rw [hml]; rfl) (Steps.refl _) (argsL := []) (rest := []) (lenOf own_pd2 rfl) rfl (by show 2 * 0 + _ ≤ _; exact Nat.le_of_eq rfl) (hb hby at_48) (fun _ _ => ⟨rfl, rfl, (by decide : 1 + 0 ≤ _), (by decide : 3 + 0 ≤ _)⟩)
    dsimp only [Pt.U, Pt.locs, Pt.cells, Pt.slots] at X32 l32 y32 z32 st32 hQ32
    subst l32 y32 z32
    obtain ⟨rfl, N32q, e32⟩ := hQ32
    have N32 := Fr.app N26 N32q
    refine own_go (fun _ k => st32.trans k) ?_
    show own_Goes p e below (T32.setTop (mkF m 51 #[.val (.int p1), .val (.int p2), .val (.int p3), .val (.int pp), .val (.int un), .val (.ref b21), .val (.int z), .unset, .unset] [(.int (own_tm p1))])) (G_own_law Z p1 p2 p3 h0 n0 s)
    refine own_go (fun _ k => XS.iload X32.here hx rfl (hb hby at_51) rfl k) ?_
    show own_Goes p e below (T32.setTop (mkF m 53 #[.val (.int p1), .val (.int p2), .val (.int p3), .val (.int pp), .val (.int un), .val (.ref b21), .val (.int z), .unset, .unset] [(.int z), (.int (own_tm p1))])) (G_own_law Z p1 p2 p3 h0 n0 s)
    refine own_go (fun _ k => XS.icmpYes X32.here hx rfl (pc0 := 53) (pc' := 58) rfl (hb hby at_53) rfl (XT.ii_eq_t h_z.symm) (by decide) (by decide) k) ?_
    show own_Goes p e below (T32.setTop (mkF m 58 #[.val (.int p1), .val (.int p2), .val (.int p3), .val (.int pp), .val (.int un), .val (.ref b21), .val (.int z), .unset, .unset] [])) (G_own_law Z p1 p2 p3 h0 n0 s)
    obtain ⟨T33, h33, X33, e33, E33, A33, D33, -, st33⟩ := newO X32 hx hZ hown (hw _ (List.mem_of_getElem? (i := 2) rfl)) (hw _ (List.mem_of_getElem? (i := 3) rfl)) (hw _ (List.mem_of_getElem? (i := 4) rfl)) e32 (g := (mkF m 58 #[.val (.int p1), .val (.int p2), .val (.int p3), .val (.int pp), .val (.int un), .val (.ref b21), .val (.int z), .unset, .unset] [])) rfl (hb hby at_58) (by decide) (by decide)
    obtain ⟨b33, g33⟩ : ∃ z, z = T26.heap.size := ⟨_, rfl⟩
    rw [← g33] at A33 D33 st33
    have ne_b21_b33 : b21 ≠ b33 := by rw [g33]; exact Nat.ne_of_lt A21_27.lt
    have A21_35 := A21_27.ext E33
    have Fa26_36 := Fa26.ext E33
    have g_b33 : n0 ≤ b33 := by rw [g33]; exact Z26
    have Z33 : n0 ≤ h33.size := Nat.le_trans Z26 E33.1
    have F_37 : Fld Z h33 b33 "com/example/muster/muster/core/PhaserState" "phase" "I" (.int (0 : Int32)) := D33 (Or.inr (hw _ (List.mem_of_getElem? (i := 17) rfl))) (ty := .int) (by decide)
    have F_38 : Fld Z h33 b33 "com/example/muster/muster/core/PhaserState" "parties" "I" (.int (0 : Int32)) := D33 (Or.inr (hw _ (List.mem_of_getElem? (i := 19) rfl))) (ty := .int) (by decide)
    have F_39 : Fld Z h33 b33 "com/example/muster/muster/core/PhaserState" "unarrived" "I" (.int (0 : Int32)) := D33 (Or.inr (hw _ (List.mem_of_getElem? (i := 21) rfl))) (ty := .int) (by decide)
    refine own_go st33 ?_
    show own_Goes p e below (T33.setTop (mkF m 61 #[.val (.int p1), .val (.int p2), .val (.int p3), .val (.int pp), .val (.int un), .val (.ref b21), .val (.int z), .unset, .unset] [(.ref b33)])) (G_own_law Z p1 p2 p3 h0 n0 s)
    refine own_go (fun _ k => XS.dup X33.here hx rfl (hb hby at_61) rfl rfl k) ?_
    show own_Goes p e below (T33.setTop (mkF m 62 #[.val (.int p1), .val (.int p2), .val (.int p3), .val (.int pp), .val (.int un), .val (.ref b21), .val (.int z), .unset, .unset] [(.ref b33), (.ref b33)])) (G_own_law Z p1 p2 p3 h0 n0 s)
    refine own_go (fun _ k => XS.iloadN X33.here hx rfl (hb hby at_62) rfl k) ?_
    show own_Goes p e below (T33.setTop (mkF m 63 #[.val (.int p1), .val (.int p2), .val (.int p3), .val (.int pp), .val (.int un), .val (.ref b21), .val (.int z), .unset, .unset] [(.int p1), (.ref b33), (.ref b33)])) (G_own_law Z p1 p2 p3 h0 n0 s)
    obtain ⟨_, _, ⟨T40, L40, k40, n40⟩, -, X40, ⟨Lc40, hQ40, l40, y40, z40⟩, st40⟩ := Jvm.LawKit.callS X33 hx (y := (⟨"com/example/muster/muster/core/PhaserState", "terminatedPhase", "(I)I"⟩ : MethodName)) hown (mvT hZ (hw _ (List.mem_of_getElem? (i := 28) rfl))) (mvT hZ (hw _ (List.mem_of_getElem? (i := 29) rfl))) (mvT hZ (hw _ (List.mem_of_getElem? (i := 4) rfl))) (mvT hZ (hw _ (List.mem_of_getElem? (i := 30) rfl))) (by decide) (backOf (W := 2) (own_tpM l Z a0 hw [] p1 h33 n0 Z33 ) hZ (hw _ (List.mem_of_getElem? (i := 30) rfl)) (hw _ (List.mem_of_getElem? (i := 4) rfl)) (by decide) (by decide)) (g := (mkF m 63 #[.val (.int p1), .val (.int p2), .val (.int p3), .val (.int pp), .val (.int un), .val (.ref b21), .val (.int z), .unset, .unset] [(.int p1), (.ref b33), (.ref b33)])) rfl (by rw [hml]; rfl) (argsL := [(.int p1)]) (rest := [(.ref b33), (.ref b33)]) (lenOf own_pd3 rfl) rfl (by show 2 * 0 + _ ≤ _; exact Nat.le_of_eq rfl) (hb hby at_63) (fun _ _ => ⟨rfl, e33, (by decide : 2 + 0 ≤ _), (by decide : 6 + 0 ≤ _)⟩)
    dsimp only [Pt.U, Pt.locs, Pt.cells, Pt.slots] at X40 l40 y40 z40 st40 hQ40
    subst l40 y40 z40
    obtain ⟨rfl, N40q, e40⟩ := hQ40
    have N40 := Fr.app N32 N40q
    refine own_go st40 ?_
    show own_Goes p e below (T40.setTop (mkF m 66 #[.val (.int p1), .val (.int p2), .val (.int p3), .val (.int pp), .val (.int un), .val (.ref b21), .val (.int z), .unset, .unset] [(.int (p1 ||| (-2147483648 : Int32))), (.ref b33), (.ref b33)])) (G_own_law Z p1 p2 p3 h0 n0 s)
    refine own_go (fun _ k => XS.iloadN X40.here hx rfl (hb hby at_66) rfl k) ?_
    show own_Goes p e below (T40.setTop (mkF m 67 #[.val (.int p1), .val (.int p2), .val (.int p3), .val (.int pp), .val (.int un), .val (.ref b21), .val (.int z), .unset, .unset] [(.int pp), (.int (p1 ||| (-2147483648 : Int32))), (.ref b33), (.ref b33)])) (G_own_law Z p1 p2 p3 h0 n0 s)
    refine own_go (fun _ k => XS.iload X40.here hx rfl (hb hby at_67) rfl k) ?_
    show own_Goes p e below (T40.setTop (mkF m 69 #[.val (.int p1), .val (.int p2), .val (.int p3), .val (.int pp), .val (.int un), .val (.ref b21), .val (.int z), .unset, .unset] [(.int un), (.int pp), (.int (p1 ||| (-2147483648 : Int32))), (.ref b33), (.ref b33)])) (G_own_law Z p1 p2 p3 h0 n0 s)
    obtain ⟨_, _, ⟨T41, L41, k41, n41⟩, -, X41, ⟨Lc41, hQ41, l41, y41, z41⟩, st41⟩ := X40.specialBack hx (y := (⟨"com/example/muster/muster/core/PhaserState", "<init>", "(III)V"⟩ : MethodName)) rfl hown (mvT hZ (hw _ (List.mem_of_getElem? (i := 5) rfl))) (mvT hZ (hw _ (List.mem_of_getElem? (i := 6) rfl))) (mvT hZ (hw _ (List.mem_of_getElem? (i := 7) rfl))) (by decide) (backOf (W := 1) (own_iniM l Z a0 hw [] b33 (p1 ||| (-2147483648 : Int32)) pp un h33 n0 Z33 A33 g_b33 F_37 F_38 F_39 hu1 hu2) hZ (hw _ (List.mem_of_getElem? (i := 7) rfl)) (hw _ (List.mem_of_getElem? (i := 4) rfl)) (by decide) (by decide)) (g := (mkF m 69 #[.val (.int p1), .val (.int p2), .val (.int p3), .val (.int pp), .val (.int un), .val (.ref b21), .val (.int z), .unset, .unset] [(.int un), (.int pp), (.int (p1 ||| (-2147483648 : Int32))), (.ref b33), (.ref b33)])) rfl (by rw [hml]; rfl) (Steps.refl _) (a := b33) (argsL := [(.int (p1 ||| (-2147483648 : Int32))), (.int pp), (.int un)]) (rest := [(.ref b33)]) (lenOf own_pd1 rfl) rfl (by show 2 * 0 + _ ≤ _; exact Nat.le_of_eq rfl) (hb hby at_69) (fun _ _ => ⟨rfl, e40, (by decide : 2 + 0 ≤ _), (by decide : 6 + 0 ≤ _)⟩)
    dsimp only [Pt.U, Pt.locs, Pt.cells, Pt.slots] at X41 l41 y41 z41 st41 hQ41
    subst l41 y41 z41
    obtain ⟨rfl, N41q, Kq41, Fa41⟩ := hQ41
    have N41 := Fr.app N40 N41q
    have A21_42 := A21_35.keep Kq41
    have Fa26_43 := Fa26_36.keep Kq41 (ninS ne_b21_b33 nin0)
    have A33_44 := A33.keep Kq41
    have Z41 : n0 ≤ T41.heap.size := Nat.le_trans Z33 Kq41.1
    refine own_go (fun _ k => st41.trans k) ?_
    show own_Goes p e below (T41.setTop (mkF m 72 #[.val (.int p1), .val (.int p2), .val (.int p3), .val (.int pp), .val (.int un), .val (.ref b21), .val (.int z), .unset, .unset] [(.ref b33)])) (G_own_law Z p1 p2 p3 h0 n0 s)
    refine own_go (fun _ k => XS.astore X41.here hx rfl (hb hby at_72) rfl rfl (l' := #[.val (.int p1), .val (.int p2), .val (.int p3), .val (.int pp), .val (.int un), .val (.ref b21), .val (.int z), .val (.ref b33), .unset]) rfl k) ?_
    show own_Goes p e below (T41.setTop (mkF m 74 #[.val (.int p1), .val (.int p2), .val (.int p3), .val (.int pp), .val (.int un), .val (.ref b21), .val (.int z), .val (.ref b33), .unset] [])) (G_own_law Z p1 p2 p3 h0 n0 s)
    refine own_go (fun _ k => XS.aload X41.here hx rfl (hb hby at_74) rfl rfl k) ?_
    show own_Goes p e below (T41.setTop (mkF m 76 #[.val (.int p1), .val (.int p2), .val (.int p3), .val (.int pp), .val (.int un), .val (.ref b21), .val (.int z), .val (.ref b33), .unset] [(.ref b33)])) (G_own_law Z p1 p2 p3 h0 n0 s)
    obtain ⟨cq48, kq48, q48a, q48b, q48c⟩ := isOf hZ rfl A33_44
    obtain ⟨_, _, ⟨T48, L48, k48, n48⟩, -, X48, ⟨Lc48, hQ48, l48, y48, z48⟩, st48⟩ := X41.virtualBack hx (y := (⟨"com/example/muster/muster/core/PhaserState", "isTerminated", "()Z"⟩ : MethodName)) (z := (⟨"com/example/muster/muster/core/PhaserState", "isTerminated", "()Z"⟩ : MethodName)) hown (mvT hZ (hw _ (List.mem_of_getElem? (i := 23) rfl))) (mvT hZ (hw _ (List.mem_of_getElem? (i := 24) rfl))) (notFace_of_selects (args := #[]) (mvT hZ (hw _ (List.mem_of_getElem? (i := 26) rfl)))) (mvT hZ (hw _ (List.mem_of_getElem? (i := 26) rfl))) (mvT hZ (hw _ (List.mem_of_getElem? (i := 25) rfl))) (by decide) (backOf (W := 0) (own_tmM l Z a0 hw [] b33 (p1 ||| (-2147483648 : Int32)) T41.heap n0 Z41 Fa41) hZ (hw _ (List.mem_of_getElem? (i := 27) rfl)) (hw _ (List.mem_of_getElem? (i := 4) rfl)) (by decide) (by decide)) q48a q48c (g := (mkF m 76 #[.val (.int p1), .val (.int p2), .val (.int p3), .val (.int pp), .val (.int un), .val (.ref b21), .val (.int z), .val (.ref b33), .unset] [(.ref b33)])) rfl (by rw [hml]; rfl) (Steps.refl _) (argsL := []) (rest := []) (lenOf own_pd2 rfl) rfl (by show 2 * 0 + _ ≤ _; exact Nat.le_of_eq rfl) (hb hby at_76) (fun _ _ => ⟨rfl, rfl, (by decide : 2 + 0 ≤ _), (by decide : 6 + 0 ≤ _)⟩)
    dsimp only [Pt.U, Pt.locs, Pt.cells, Pt.slots] at X48 l48 y48 z48 st48 hQ48
    subst l48 y48 z48
    obtain ⟨rfl, N48q, e48⟩ := hQ48
    have N48 := Fr.app N41 N48q
    refine own_go (fun _ k => st48.trans k) ?_
    show own_Goes p e below (T48.setTop (mkF m 79 #[.val (.int p1), .val (.int p2), .val (.int p3), .val (.int pp), .val (.int un), .val (.ref b21), .val (.int z), .val (.ref b33), .unset] [(.int (own_tm (p1 ||| (-2147483648 : Int32))))])) (G_own_law Z p1 p2 p3 h0 n0 s)
    refine own_go (fun _ k => XS.ifYes X48.here hx rfl (pc0 := 79) (pc' := 84) rfl (hb hby at_79) rfl (XT.i0_ne_t (by rw [own_or]; decide)) (by decide) (by decide) k) ?_
    show own_Goes p e below (T48.setTop (mkF m 84 #[.val (.int p1), .val (.int p2), .val (.int p3), .val (.int pp), .val (.int un), .val (.ref b21), .val (.int z), .val (.ref b33), .unset] [])) (G_own_law Z p1 p2 p3 h0 n0 s)
    obtain ⟨T49, h49, X49, e49, E49, A49, D49, -, st49⟩ := newO X48 hx hZ hown (hw _ (List.mem_of_getElem? (i := 2) rfl)) (hw _ (List.mem_of_getElem? (i := 3) rfl)) (hw _ (List.mem_of_getElem? (i := 4) rfl)) e48 (g := (mkF m 84 #[.val (.int p1), .val (.int p2), .val (.int p3), .val (.int pp), .val (.int un), .val (.ref b21), .val (.int z), .val (.ref b33), .unset] [])) rfl (hb hby at_84) (by decide) (by decide)
    obtain ⟨b49, g49⟩ : ∃ z, z = T41.heap.size := ⟨_, rfl⟩
    rw [← g49] at A49 D49 st49
    have ne_b21_b49 : b21 ≠ b49 := by rw [g49]; exact Nat.ne_of_lt A21_42.lt
    have ne_b33_b49 : b33 ≠ b49 := by rw [g49]; exact Nat.ne_of_lt A33_44.lt
    have A21_51 := A21_42.ext E49
    have Fa26_52 := Fa26_43.ext E49
    have A33_53 := A33_44.ext E49
    have Fa41_54 := Fa41.ext E49
    have g_b49 : n0 ≤ b49 := by rw [g49]; exact Z41
    have Z49 : n0 ≤ h49.size := Nat.le_trans Z41 E49.1
    have F_55 : Fld Z h49 b49 "com/example/muster/muster/core/PhaserState" "phase" "I" (.int (0 : Int32)) := D49 (Or.inr (hw _ (List.mem_of_getElem? (i := 17) rfl))) (ty := .int) (by decide)
    have F_56 : Fld Z h49 b49 "com/example/muster/muster/core/PhaserState" "parties" "I" (.int (0 : Int32)) := D49 (Or.inr (hw _ (List.mem_of_getElem? (i := 19) rfl))) (ty := .int) (by decide)
    have F_57 : Fld Z h49 b49 "com/example/muster/muster/core/PhaserState" "unarrived" "I" (.int (0 : Int32)) := D49 (Or.inr (hw _ (List.mem_of_getElem? (i := 21) rfl))) (ty := .int) (by decide)
    refine own_go st49 ?_
    show own_Goes p e below (T49.setTop (mkF m 87 #[.val (.int p1), .val (.int p2), .val (.int p3), .val (.int pp), .val (.int un), .val (.ref b21), .val (.int z), .val (.ref b33), .unset] [(.ref b49)])) (G_own_law Z p1 p2 p3 h0 n0 s)
    refine own_go (fun _ k => XS.dup X49.here hx rfl (hb hby at_87) rfl rfl k) ?_
    show own_Goes p e below (T49.setTop (mkF m 88 #[.val (.int p1), .val (.int p2), .val (.int p3), .val (.int pp), .val (.int un), .val (.ref b21), .val (.int z), .val (.ref b33), .unset] [(.ref b49), (.ref b49)])) (G_own_law Z p1 p2 p3 h0 n0 s)
    refine own_go (fun _ k => XS.iloadN X49.here hx rfl (hb hby at_88) rfl k) ?_
    show own_Goes p e below (T49.setTop (mkF m 89 #[.val (.int p1), .val (.int p2), .val (.int p3), .val (.int pp), .val (.int un), .val (.ref b21), .val (.int z), .val (.ref b33), .unset] [(.int p1), (.ref b49), (.ref b49)])) (G_own_law Z p1 p2 p3 h0 n0 s)
    refine own_go (fun _ k => Jvm.Stand.ldcI (own := "com/example/muster/muster/core/PhaserStateIsTerminatedPinLaw") (index := 7) (v := (2147483647 : Int32)) X49 hx hown (mvT hZ (hw _ (List.mem_of_getElem? (i := 0) rfl))) rfl (hb hby at_89) k) ?_
    show own_Goes p e below (T49.setTop (mkF m 91 #[.val (.int p1), .val (.int p2), .val (.int p3), .val (.int pp), .val (.int un), .val (.ref b21), .val (.int z), .val (.ref b33), .unset] [(.int (2147483647 : Int32)), (.int p1), (.ref b49), (.ref b49)])) (G_own_law Z p1 p2 p3 h0 n0 s)
    refine own_go (fun _ k => XS.iand X49.here hx rfl (hb hby at_91) rfl k) ?_
    show own_Goes p e below (T49.setTop (mkF m 92 #[.val (.int p1), .val (.int p2), .val (.int p3), .val (.int pp), .val (.int un), .val (.ref b21), .val (.int z), .val (.ref b33), .unset] [(.int (p1 &&& (2147483647 : Int32))), (.ref b49), (.ref b49)])) (G_own_law Z p1 p2 p3 h0 n0 s)
    refine own_go (fun _ k => XS.iloadN X49.here hx rfl (hb hby at_92) rfl k) ?_
    show own_Goes p e below (T49.setTop (mkF m 93 #[.val (.int p1), .val (.int p2), .val (.int p3), .val (.int pp), .val (.int un), .val (.ref b21), .val (.int z), .val (.ref b33), .unset] [(.int pp), (.int (p1 &&& (2147483647 : Int32))), (.ref b49), (.ref b49)])) (G_own_law Z p1 p2 p3 h0 n0 s)
    refine own_go (fun _ k => XS.iload X49.here hx rfl (hb hby at_93) rfl k) ?_
    show own_Goes p e below (T49.setTop (mkF m 95 #[.val (.int p1), .val (.int p2), .val (.int p3), .val (.int pp), .val (.int un), .val (.ref b21), .val (.int z), .val (.ref b33), .unset] [(.int un), (.int pp), (.int (p1 &&& (2147483647 : Int32))), (.ref b49), (.ref b49)])) (G_own_law Z p1 p2 p3 h0 n0 s)
    obtain ⟨_, _, ⟨T58, L58, k58, n58⟩, -, X58, ⟨Lc58, hQ58, l58, y58, z58⟩, st58⟩ := X49.specialBack hx (y := (⟨"com/example/muster/muster/core/PhaserState", "<init>", "(III)V"⟩ : MethodName)) rfl hown (mvT hZ (hw _ (List.mem_of_getElem? (i := 5) rfl))) (mvT hZ (hw _ (List.mem_of_getElem? (i := 6) rfl))) (mvT hZ (hw _ (List.mem_of_getElem? (i := 7) rfl))) (by decide) (backOf (W := 1) (own_iniM l Z a0 hw [] b49 (p1 &&& (2147483647 : Int32)) pp un h49 n0 Z49 A49 g_b49 F_55 F_56 F_57 hu1 hu2) hZ (hw _ (List.mem_of_getElem? (i := 7) rfl)) (hw _ (List.mem_of_getElem? (i := 4) rfl)) (by decide) (by decide)) (g := (mkF m 95 #[.val (.int p1), .val (.int p2), .val (.int p3), .val (.int pp), .val (.int un), .val (.ref b21), .val (.int z), .val (.ref b33), .unset] [(.int un), (.int pp), (.int (p1 &&& (2147483647 : Int32))), (.ref b49), (.ref b49)])) rfl (by rw [hml]; rfl) (Steps.refl _) (a := b49) (argsL := [(.int (p1 &&& (2147483647 : Int32))), (.int pp), (.int un)]) (rest := [(.ref b49)]) (lenOf own_pd1 rfl) rfl (by show 2 * 0 + _ ≤ _; exact Nat.le_of_eq rfl) (hb hby at_95) (fun _ _ => ⟨rfl, e49, (by decide : 3 + 0 ≤ _), (by decide : 9 + 0 ≤ _)⟩)
    dsimp only [Pt.U, Pt.locs, Pt.cells, Pt.slots] at X58 l58 y58 z58 st58 hQ58
    subst l58 y58 z58
    obtain ⟨rfl, N58q, Kq58, Fa58⟩ := hQ58
    have N58 := Fr.app N48 N58q
    have A21_59 := A21_51.keep Kq58
    have Fa26_60 := Fa26_52.keep Kq58 (ninS ne_b21_b49 nin0)
    have A33_61 := A33_53.keep Kq58
    have Fa41_62 := Fa41_54.keep Kq58 (ninS ne_b33_b49 nin0)
    have A49_63 := A49.keep Kq58
    have Z58 : n0 ≤ T58.heap.size := Nat.le_trans Z49 Kq58.1
    refine own_go (fun _ k => st58.trans k) ?_
    show own_Goes p e below (T58.setTop (mkF m 98 #[.val (.int p1), .val (.int p2), .val (.int p3), .val (.int pp), .val (.int un), .val (.ref b21), .val (.int z), .val (.ref b33), .unset] [(.ref b49)])) (G_own_law Z p1 p2 p3 h0 n0 s)
    refine own_go (fun _ k => XS.astore X58.here hx rfl (hb hby at_98) rfl rfl (l' := #[.val (.int p1), .val (.int p2), .val (.int p3), .val (.int pp), .val (.int un), .val (.ref b21), .val (.int z), .val (.ref b33), .val (.ref b49)]) rfl k) ?_
    show own_Goes p e below (T58.setTop (mkF m 100 #[.val (.int p1), .val (.int p2), .val (.int p3), .val (.int pp), .val (.int un), .val (.ref b21), .val (.int z), .val (.ref b33), .val (.ref b49)] [])) (G_own_law Z p1 p2 p3 h0 n0 s)
    refine own_go (fun _ k => XS.aload X58.here hx rfl (hb hby at_100) rfl rfl k) ?_
    show own_Goes p e below (T58.setTop (mkF m 102 #[.val (.int p1), .val (.int p2), .val (.int p3), .val (.int pp), .val (.int un), .val (.ref b21), .val (.int z), .val (.ref b33), .val (.ref b49)] [(.ref b49)])) (G_own_law Z p1 p2 p3 h0 n0 s)
    obtain ⟨cq67, kq67, q67a, q67b, q67c⟩ := isOf hZ rfl A49_63
    obtain ⟨_, _, ⟨T67, L67, k67, n67⟩, -, X67, ⟨Lc67, hQ67, l67, y67, z67⟩, st67⟩ := X58.virtualBack hx (y := (⟨"com/example/muster/muster/core/PhaserState", "isTerminated", "()Z"⟩ : MethodName)) (z := (⟨"com/example/muster/muster/core/PhaserState", "isTerminated", "()Z"⟩ : MethodName)) hown (mvT hZ (hw _ (List.mem_of_getElem? (i := 23) rfl))) (mvT hZ (hw _ (List.mem_of_getElem? (i := 24) rfl))) (notFace_of_selects (args := #[]) (mvT hZ (hw _ (List.mem_of_getElem? (i := 26) rfl)))) (mvT hZ (hw _ (List.mem_of_getElem? (i := 26) rfl))) (mvT hZ (hw _ (List.mem_of_getElem? (i := 25) rfl))) (by decide) (backOf (W := 0) (own_tmM l Z a0 hw [] b49 (p1 &&& (2147483647 : Int32)) T58.heap n0 Z58 Fa58) hZ (hw _ (List.mem_of_getElem? (i := 27) rfl)) (hw _ (List.mem_of_getElem? (i := 4) rfl)) (by decide) (by decide)) q67a q67c (g := (mkF m 102 #[.val (.int p1), .val (.int p2), .val (.int p3), .val (.int pp), .val (.int un), .val (.ref b21), .val (.int z), .val (.ref b33), .val (.ref b49)] [(.ref b49)])) rfl (by rw [hml]; rfl) (Steps.refl _) (argsL := []) (rest := []) (lenOf own_pd2 rfl) rfl (by show 2 * 0 + _ ≤ _; exact Nat.le_of_eq rfl) (hb hby at_102) (fun _ _ => ⟨rfl, rfl, (by decide : 3 + 0 ≤ _), (by decide : 9 + 0 ≤ _)⟩)
    dsimp only [Pt.U, Pt.locs, Pt.cells, Pt.slots] at X67 l67 y67 z67 st67 hQ67
    subst l67 y67 z67
    obtain ⟨rfl, N67q, e67⟩ := hQ67
    have N67 := Fr.app N58 N67q
    refine own_go (fun _ k => st67.trans k) ?_
    show own_Goes p e below (T67.setTop (mkF m 105 #[.val (.int p1), .val (.int p2), .val (.int p3), .val (.int pp), .val (.int un), .val (.ref b21), .val (.int z), .val (.ref b33), .val (.ref b49)] [(.int (own_tm (p1 &&& (2147483647 : Int32))))])) (G_own_law Z p1 p2 p3 h0 n0 s)
    refine own_go (fun _ k => XS.ifYes X67.here hx rfl (pc0 := 105) (pc' := 110) rfl (hb hby at_105) rfl (XT.i0_eq_t (own_mx p1)) (by decide) (by decide) k) ?_
    show own_Goes p e below (T67.setTop (mkF m 110 #[.val (.int p1), .val (.int p2), .val (.int p3), .val (.int pp), .val (.int un), .val (.ref b21), .val (.int z), .val (.ref b33), .val (.ref b49)] [])) (G_own_law Z p1 p2 p3 h0 n0 s)
    refine own_go (fun _ k => XS.iconst X67.here hx rfl (hb hby at_110) k) ?_
    show own_Goes p e below (T67.setTop (mkF m 111 #[.val (.int p1), .val (.int p2), .val (.int p3), .val (.int pp), .val (.int un), .val (.ref b21), .val (.int z), .val (.ref b33), .val (.ref b49)] [(.int (1 : Int32))])) (G_own_law Z p1 p2 p3 h0 n0 s)
    obtain ⟨fs, hr, hrun, hended, hW, hsame⟩ := X67.leave (v := some (.int (1 : Int32))) (fun h => by rw [Bd.returns] at h; cases h) Bd.notSynchronized
    refine ⟨_, _, retN X67 hx (t := .boolean) Bd.returns (by simp) (hb hby at_111) hr, hrun, hended, _, _, rfl, ?_, ⟨_, rfl⟩, hW, hsame.mono (by decide) (by decide)⟩
    show Q_own_law Z p1 p2 p3 h0 n0 _ T67.heap _
    rw [e67]
    exact ⟨rfl, N67⟩
  · intro J44_31
    refine own_go (fun _ k => XS.iloadN X26.here hx rfl (hb hby at_32) rfl k) ?_
    show own_Goes p e below (T26.setTop (mkF m 33 #[.val (.int p1), .val (.int p2), .val (.int p3), .val (.int pp), .val (.int un), .val (.ref b21), .unset, .unset, .unset] [(.int p1)])) (G_own_law Z p1 p2 p3 h0 n0 s)
    refine own_go (fun _ k => Jvm.Stand.ldcI (own := "com/example/muster/muster/core/PhaserStateIsTerminatedPinLaw") (index := 17) (v := (-2147483648 : Int32)) X26 hx hown (mvT hZ (hw _ (List.mem_of_getElem? (i := 22) rfl))) rfl (hb hby at_33) k) ?_
    show own_Goes p e below (T26.setTop (mkF m 35 #[.val (.int p1), .val (.int p2), .val (.int p3), .val (.int pp), .val (.int un), .val (.ref b21), .unset, .unset, .unset] [(.int (-2147483648 : Int32)), (.int p1)])) (G_own_law Z p1 p2 p3 h0 n0 s)
    refine own_go (fun _ k => XS.iand X26.here hx rfl (hb hby at_35) rfl k) ?_
    show own_Goes p e below (T26.setTop (mkF m 36 #[.val (.int p1), .val (.int p2), .val (.int p3), .val (.int pp), .val (.int un), .val (.ref b21), .unset, .unset, .unset] [(.int (p1 &&& (-2147483648 : Int32)))])) (G_own_law Z p1 p2 p3 h0 n0 s)
    by_cases hc36_68 : (p1 &&& (-2147483648 : Int32)) = (0 : Int32)
    · refine own_go (fun _ k => XS.ifYes X26.here hx rfl (pc0 := 36) (pc' := 43) rfl (hb hby at_36) rfl (XT.i0_eq_t hc36_68) (by decide) (by decide) k) ?_
      show own_Goes p e below (T26.setTop (mkF m 43 #[.val (.int p1), .val (.int p2), .val (.int p3), .val (.int pp), .val (.int un), .val (.ref b21), .unset, .unset, .unset] [])) (G_own_law Z p1 p2 p3 h0 n0 s)
      refine own_go (fun _ k => XS.iconst X26.here hx rfl (hb hby at_43) k) ?_
      show own_Goes p e below (T26.setTop (mkF m 44 #[.val (.int p1), .val (.int p2), .val (.int p3), .val (.int pp), .val (.int un), .val (.ref b21), .unset, .unset, .unset] [(.int (0 : Int32))])) (G_own_law Z p1 p2 p3 h0 n0 s)
      exact J44_31 _ (own_zf p1 hc36_68)
    · refine own_go (fun _ k => XS.ifNo X26.here hx rfl (hb hby at_36) rfl (XT.i0_eq_f hc36_68) k) ?_
      show own_Goes p e below (T26.setTop (mkF m 39 #[.val (.int p1), .val (.int p2), .val (.int p3), .val (.int pp), .val (.int un), .val (.ref b21), .unset, .unset, .unset] [])) (G_own_law Z p1 p2 p3 h0 n0 s)
      refine own_go (fun _ k => XS.iconst X26.here hx rfl (hb hby at_39) k) ?_
      show own_Goes p e below (T26.setTop (mkF m 40 #[.val (.int p1), .val (.int p2), .val (.int p3), .val (.int pp), .val (.int un), .val (.ref b21), .unset, .unset, .unset] [(.int (1 : Int32))])) (G_own_law Z p1 p2 p3 h0 n0 s)
      refine own_go (fun _ k => XS.goto X26.here hx rfl (pc0 := 40) (pc' := 44) rfl (hb hby at_40) (by decide) (by decide) k) ?_
      show own_Goes p e below (T26.setTop (mkF m 44 #[.val (.int p1), .val (.int p2), .val (.int p3), .val (.int pp), .val (.int un), .val (.ref b21), .unset, .unset, .unset] [(.int (1 : Int32))])) (G_own_law Z p1 p2 p3 h0 n0 s)
      exact J44_31 _ (own_zt p1 hc36_68)
set_option maxRecDepth 65536 in
set_option maxHeartbeats 40000000 in
theorem comes_1 {Post : Tables → Env → Array Value → State → Outcome → State → Prop} (hpost : ∀ tb e args s v u, (limb_1_1.after args s (.returned v) u = true ∧ limb_1_2.after args s (.returned v) u = true ∧ True) → FrameEnd s (.returned v) u (Jvm.fieldLocs frame_1_writes args s ++ Jvm.arrayLocs frame_1_arrays args s ++ Jvm.staticLocs frame_1_statics s) 16 128 → Post tb e args s (.returned v) u) :
    ArmFor flags0 classFile x code maxLocals ret World_1 tables_1 room_1 Calls_1 rest_1 Pre_1 Post := by
  intro l hfl _ _ p e ha hc hk s m args below hf hA hF happ hP
  obtain ⟨hcalls, hrest, hpre⟩ := hP
  obtain ⟨-, -, -, hnamed, -, -, -, hat⟩ := (Spec.applies_iff hf).mp happ
  obtain ⟨hg, hn⟩ := and_e (Cond.before_iff.mp (show (Jvm.Cond.and given_1 narrow_1).before args s = true from hpre))
  obtain ⟨hcount, k0⟩ := and_e hg
  obtain ⟨g0, k1⟩ := and_e k0
  obtain ⟨g1, k2⟩ := and_e k1
  have g2 := k2
  obtain ⟨w0, w1, w2, rfl⟩ : ∃ w0 w1 w2 : Value, args = #[w0, w1, w2] := by
    have hs : args.size = 3 := by simpa [Cond.value, given_1] using hcount
    obtain ⟨L⟩ := args
    match L, hs with
    | [w0, w1, w2], _ => exact ⟨w0, w1, w2, rfl⟩
  have hw := fun d (hd : d ∈ tables_1) => atoms_spec (ws := Jvm.Cond.code x code maxLocals ret :: tables_1) hat d (List.mem_cons_of_mem _ hd)
  have hfit : Fit s := fun {y c} hc i hi => by
    obtain ⟨ha, rfl⟩ := Array.getElem?_eq_some_iff.mp hc
    have q := List.all_eq_true.mp ((Array.all_eq_true_iff_forall_mem.mp hF) _ (Array.getElem_mem ha)) i (List.mem_range.mpr hi)
    simpa [Array.getElem?_eq_getElem hi] using q
  obtain ⟨i0, ei0⟩ := is_v g0
  obtain rfl : w0 = (.int i0) := Option.some.inj ei0
  obtain ⟨i1, ei1⟩ := is_v g1
  obtain rfl : w1 = (.int i1) := Option.some.inj ei1
  obtain ⟨i2, ei2⟩ := is_v g2
  obtain rfl : w2 = (.int i2) := Option.some.inj ei2
  obtain ⟨n, o, h1, h2, h3, _, L, rfl, ⟨rfl, N⟩, hq⟩ := own_law l s _ hw tables_1 i0 i1 i2 s.heap s.heap.size (Nat.le_refl _)  p e ha hc hk s m _ below hf ((Spec.applies_iff_loose hf).mp happ).1 ⟨rfl, State.Warmed39.refl s, rfl⟩ trivial
  refine ⟨n, _, h1, h2, h3, hpost _ _ _ _ _ _ ⟨Cond.after_iff.mpr rfl, Cond.after_iff.mpr (eq_i res_at (Term.int_eval (1)) rfl), trivial⟩ ⟨hq.1, hq.2.1, (hq.2.2.sift fun y hy => Or.inr (N y hy)).mono (by decide) (by decide)⟩⟩
theorem main_1_1 : Claimed_1_1 := comes_1 fun _ _ _ _ _ _ h hF => ⟨h.1, hF⟩
theorem main_1_2 : Claimed_1_2 := comes_1 fun _ _ _ _ _ _ h hF => ⟨h.2.1, hF⟩
end Jvm.Pilot.@@N@@
namespace Jvm.Pilot.@@N@@
open Jvm Jvm.ClassFile Sem Op Lib Jvm.Free Jvm.Stand Jvm.Pilot.@@N@@.Jvm.D
/-! MADE BY PROGRAM (witnessworld.py) out of the Statement's table words and the real class files: 10 classes; the members and pool entries that the words name. The judged class is class 1, her method 1. -/
namespace start1
open Jvm.ClassFile
def u (s : String) : CpInfo := .utf8 (stringToUtf16 s)
/-- a pool by its gaps: so many unusable entries, then the entry; so many at the end -/
def gap : Nat → List CpInfo → List CpInfo
  | 0, r => r
  | n + 1, r => .unusable :: gap n r
def poolList (es : List (Nat × CpInfo)) (last : Nat) : List CpInfo := es.foldr (fun e r => gap e.1 (e.2 :: r)) (gap last [])
def pool (es : List (Nat × CpInfo)) (last : Nat) : Array CpInfo := ⟨poolList es last⟩
def fileOf (pool : Array CpInfo) (this : Nat) (attrs : Array Attribute := #[]) (ms : Array MethodInfo := #[]) (fl : Nat := 33) (sup : Nat := 0) (ifs : Array Nat := #[]) (fds : Array FieldInfo := #[]) : ClassFile where
  minorVersion := 0
  majorVersion := 65
  constantPool := pool
  accessFlags := fl
  thisClass := this
  superClass := sup
  interfaces := ifs
  fields := fds
  methods := ms
  attributes := attrs
def plain (name : String) (sup : Option ClassId) : Class where
  name := name
  kind := .ordinary
  loader := none
  accessFlags := 33
  super := sup
  interfaces := #[]
  cf := none
  fields := #[]
  methods := #[]
  instanceTypes := #[]
  staticTypes := #[]
  resolved := #[]
  callSites := []
  init := .initialized
  statics := none
  mirror := none

def pool0 : Array CpInfo := pool [(5, u "<init>"), (0, u "()V"), (1, .class_ 10), (1, u "java/lang/Object")] 113

def k0c0 : Code := { maxStack := 0, maxLocals := 1, code := object_method_1_code, exceptionTable := #[], attributes := #[] }
def k0m0 : Method := { name := "<init>", desc := "()V", sig := { parameters := [], returnType := none }, accessFlags := 1, code := some k0c0 }
/-- java/lang/Object -/
def k0 : Class := { plain "java/lang/Object" none with
  accessFlags := 33
  interfaces := #[]
  cf := some (fileOf pool0 8 #[] #[{ accessFlags := 1, nameIndex := 5, descriptorIndex := 6, attributes := #[] }] 33 0 #[] #[])
  fields := #[]
  methods := #[k0m0]
  instanceTypes := #[]
  staticTypes := #[]
  resolved := Array.replicate 124 none
  statics := none }

def pool1 : Array CpInfo := pool [(2, .class_ 4), (1, u "java/lang/Object"), (0, u "<init>"), (0, u "()V"), (0, .integer 2147483647), (0, .long 2147483647), (1, .class_ 11), (0, u "com/example/muster/muster/core/PhaserState"), (0, .methodref 10 13), (0, .nameAndType 5 14), (0, u "(III)V"), (2, .integer 2147483648), (0, .methodref 10 19), (0, .nameAndType 20 21), (0, u "isTerminated"), (0, u "()Z"), (0, .methodref 10 23), (0, .nameAndType 24 25), (0, u "terminatedPhase"), (0, u "(I)I"), (0, .class_ 27), (0, u "com/example/muster/muster/core/PhaserStateIsTerminatedPinLaw"), (2, u "law"), (0, u "(III)Z")] 3

def k1m0 : Method := { name := "<init>", desc := "()V", sig := { parameters := [], returnType := none }, accessFlags := 1, code := none }
def k1c1 : Code := { maxStack := 6, maxLocals := 9, code := code, exceptionTable := #[], attributes := #[] }
def k1m1 : Method := { name := "law", desc := "(III)Z", sig := { parameters := [.int, .int, .int], returnType := some .boolean }, accessFlags := 9, code := some k1c1 }
/-- com/example/muster/muster/core/PhaserStateIsTerminatedPinLaw -/
def k1 : Class := { plain "com/example/muster/muster/core/PhaserStateIsTerminatedPinLaw" (some 0) with
  accessFlags := 49
  interfaces := #[]
  cf := some (fileOf pool1 26 #[] #[{ accessFlags := 1, nameIndex := 5, descriptorIndex := 6, attributes := #[] }, { accessFlags := 9, nameIndex := 30, descriptorIndex := 31, attributes := #[] }] 49 2 #[] #[])
  fields := #[]
  methods := #[k1m0, k1m1]
  instanceTypes := #[]
  staticTypes := #[]
  resolved := Array.replicate 35 none
  statics := none }

def pool2 : Array CpInfo := pool [(1, .methodref 2 3), (0, .class_ 4), (0, .nameAndType 5 6), (0, u "java/lang/Object"), (0, u "<init>"), (0, u "()V"), (0, .class_ 8), (0, u "java/lang/Record")] 13

def k2c0 : Code := { maxStack := 1, maxLocals := 1, code := jdk_30_method_1_code, exceptionTable := #[], attributes := #[] }
def k2m0 : Method := { name := "<init>", desc := "()V", sig := { parameters := [], returnType := none }, accessFlags := 4, code := some k2c0 }
/-- java/lang/Record -/
def k2 : Class := { plain "java/lang/Record" (some 0) with
  accessFlags := 1057
  interfaces := #[]
  cf := some (fileOf pool2 7 #[] #[{ accessFlags := 4, nameIndex := 5, descriptorIndex := 6, attributes := #[] }] 1057 2 #[] #[])
  fields := #[]
  methods := #[k2m0]
  instanceTypes := #[]
  staticTypes := #[]
  resolved := Array.replicate 22 none
  statics := none }

def pool3 : Array CpInfo := pool [(1, .methodref 2 3), (0, .class_ 4), (0, .nameAndType 5 6), (0, u "java/lang/Record"), (0, u "<init>"), (0, u "()V"), (9, .fieldref 17 18), (0, .class_ 19), (0, .nameAndType 20 21), (0, u "com/example/muster/muster/core/PhaserState"), (0, u "phase"), (0, u "I"), (0, .fieldref 17 23), (0, .nameAndType 24 21), (0, u "parties"), (0, .fieldref 17 26), (0, .nameAndType 27 21), (0, u "unarrived"), (3, .integer 2147483648), (15, u "(III)V"), (5, u "(I)I"), (0, u "terminatedPhase"), (0, u "isTerminated"), (0, u "()Z")] 35

def k3c0 : Code := { maxStack := 4, maxLocals := 4, code := prog_12_method_1_code, exceptionTable := #[], attributes := #[] }
def k3m0 : Method := { name := "<init>", desc := "(III)V", sig := { parameters := [.int, .int, .int], returnType := none }, accessFlags := 1, code := some k3c0 }
def k3c1 : Code := { maxStack := 2, maxLocals := 1, code := prog_12_method_3_code, exceptionTable := #[], attributes := #[] }
def k3m1 : Method := { name := "terminatedPhase", desc := "(I)I", sig := { parameters := [.int], returnType := some .int }, accessFlags := 9, code := some k3c1 }
def k3c2 : Code := { maxStack := 1, maxLocals := 1, code := prog_12_method_5_code, exceptionTable := #[], attributes := #[] }
def k3m2 : Method := { name := "isTerminated", desc := "()Z", sig := { parameters := [], returnType := some .boolean }, accessFlags := 1, code := some k3c2 }
/-- com/example/muster/muster/core/PhaserState -/
def k3 : Class := { plain "com/example/muster/muster/core/PhaserState" (some 2) with
  accessFlags := 49
  interfaces := #[]
  cf := some (fileOf pool3 17 #[] #[{ accessFlags := 1, nameIndex := 5, descriptorIndex := 47, attributes := #[] }, { accessFlags := 9, nameIndex := 54, descriptorIndex := 53, attributes := #[] }, { accessFlags := 1, nameIndex := 55, descriptorIndex := 56, attributes := #[] }] 49 2 #[] #[{ accessFlags := 18, nameIndex := 20, descriptorIndex := 21, attributes := #[] }, { accessFlags := 18, nameIndex := 24, descriptorIndex := 21, attributes := #[] }, { accessFlags := 18, nameIndex := 27, descriptorIndex := 21, attributes := #[] }])
  fields := #[{ name := "phase", type := .int, accessFlags := 18, slot := 0, constantValue := 0 }, { name := "parties", type := .int, accessFlags := 18, slot := 1, constantValue := 0 }, { name := "unarrived", type := .int, accessFlags := 18, slot := 2, constantValue := 0 }]
  methods := #[k3m0, k3m1, k3m2]
  instanceTypes := #[.int, .int, .int]
  staticTypes := #[]
  resolved := Array.replicate 92 none
  statics := none }

def pool4 : Array CpInfo := pool [(1, u "java/lang/Cloneable"), (0, .class_ 1), (0, u "java/lang/Object"), (0, .class_ 3)] 3

/-- java/lang/Cloneable -/
def k4 : Class := { plain "java/lang/Cloneable" (some 0) with
  accessFlags := 1537
  interfaces := #[]
  cf := some (fileOf pool4 2 #[] #[] 1537 4 #[] #[])
  fields := #[]
  methods := #[]
  instanceTypes := #[]
  staticTypes := #[]
  resolved := Array.replicate 8 none
  statics := none }

def pool5 : Array CpInfo := pool [(1, u "java/io/Serializable"), (0, .class_ 1), (0, u "java/lang/Object"), (0, .class_ 3)] 3

/-- java/io/Serializable -/
def k5 : Class := { plain "java/io/Serializable" (some 0) with
  accessFlags := 1537
  interfaces := #[]
  cf := some (fileOf pool5 2 #[] #[] 1537 4 #[] #[])
  fields := #[]
  methods := #[]
  instanceTypes := #[]
  staticTypes := #[]
  resolved := Array.replicate 8 none
  statics := none }

/-- the primitive byte -/
def k6 : Class := { plain "byte" none with kind := .primitive 'B', accessFlags := 0x411 }
/-- [B -/
def k7 : Class := { plain "[B" (some 0) with kind := .array 6 .byte, interfaces := #[4, 5], accessFlags := 1041 }

/-- the primitive int -/
def k8 : Class := { plain "int" none with kind := .primitive 'I', accessFlags := 0x411 }
/-- [I -/
def k9 : Class := { plain "[I" (some 0) with kind := .array 8 .int, interfaces := #[4, 5], accessFlags := 1041 }

def heap : Heap := #[]
def classes : Array Class := #[k0, k1, k2, k3, k4, k5, k6, k7, k8, k9]
def interned : List (Array UInt16 × Addr) := []
def slotsUsed : Nat := 0
def theMethod : MethodId := ⟨1, 1⟩
def args0 : Array Value := #[.int 5, .int 6, .int 7]
def aboutOver (below : List Frame) : State where
  vm := { classes := classes, interned := interned.toArray }
  heap := heap
  slotsUsed := slotsUsed
  threads := #[{ frames := .invoking theMethod args0 :: below }]
def below0 : List Frame := [.native { method := ⟨0, 0⟩, args := #[] }]
def about1 : State := aboutOver below0
def p0 : Program := .bare "" "" ""
def e0 : Env := launch0.env 0 0 0
theorem w_frames : about1.frames = Frame.invoking theMethod args0 :: below0 := rfl
set_option maxRecDepth 65536 in
theorem w_args : argsFit about1.vm theMethod args0 = true := by decide +kernel
set_option maxRecDepth 65536 in
theorem w_heap : heapFits about1 = true := by decide +kernel
set_option maxRecDepth 65536 in
theorem w_runnable : about1.curStatus? = some .runnable := by decide +kernel
set_option maxRecDepth 65536 in
theorem w_alone : about1.alone = true := by decide +kernel
set_option maxRecDepth 65536 in
theorem w_named : about1.methodNamed? x = some theMethod := by decide +kernel
set_option maxRecDepth 65536 in
theorem w_hears : about1.hears theMethod below0 = true := by decide +kernel
set_option maxRecDepth 65536 in
theorem w_ripe : about1.ripe theMethod args0 below0 = true := by decide +kernel
theorem w_running : about1.status = .running := rfl
set_option maxRecDepth 65536 in
theorem w_room : about1.hasRoom e0.platform room_1 = true :=
  launch0.hasRoom_least _ room_1 (by decide +kernel) (by decide +kernel) (by decide +kernel) (by decide +kernel) (by decide +kernel) (by decide +kernel)
theorem allAtoms_all (ts : List Jvm.Cond) (a : Array Jvm.Value) (st : Jvm.State) : (allAtoms ts).before a st = ts.all (fun c => c.before a st) := by
  induction ts with
  | nil => rfl
  | cons c t ih =>
    show (Jvm.Cond.and c (allAtoms t)).before a st = _
    rw [Jvm.Cond.before_and, ih, List.all_cons]
def words1 : List Jvm.Cond := Jvm.Cond.code x code maxLocals ret :: tables_1
/-- a 'code' word, met by the world's own term for the bytes: nothing is compared byte by byte -/
theorem code_word {y : MethodName} {bytes : ByteArray} {mx : Nat} {rt : Option FieldType} {a : Array Value} {s : State} {m : MethodId} {meth : Method} {c : Code} (h1 : s.methodNamed? y = some m) (h2 : s.vm.method? m = some meth) (h3 : meth.code = some c) (h4 : c.code = bytes)
    (h5 : (c.maxLocals == mx && c.exceptionTable.isEmpty && decide (c.maxStack ≤ mostOperands) && decide (meth.sig.returnType = rt) && !meth.locks && decide (parseMethodDescriptor y.desc = some meth.sig)) = true) : (Jvm.Cond.code y bytes mx rt).before a s = true := by
  simp only [Bool.and_eq_true, beq_iff_eq, Bool.not_eq_true', decide_eq_true_eq] at h5
  obtain ⟨⟨⟨⟨⟨g1, g2⟩, g3⟩, g4⟩, g5⟩, g6⟩ := h5
  simp [Cond.before, Cond.holds, Cond.value, h1, h2, h3, h4, g1, g2, g3, g4, g5, g6]
def isCode : Jvm.Cond → Bool
  | .code _ _ _ _ => true
  | _ => false
theorem all_split {L : List Jvm.Cond} {P : Jvm.Cond → Bool} (h1 : L.all (fun c => isCode c || P c) = true) (h2 : ∀ c ∈ L.filter isCode, P c = true) : L.all P = true := by
  refine List.all_eq_true.mpr fun c hc => ?_
  have h := List.all_eq_true.mp h1 c hc
  rcases Bool.eq_false_or_eq_true (isCode c) with hi | hi
  · exact h2 c (List.mem_filter.mpr ⟨hc, hi⟩)
  · simpa [hi] using h
set_option maxRecDepth 65536 in
theorem w_c0 : (Jvm.Cond.code x code maxLocals ret).before args0 about1 = true := code_word (m := ⟨1, 1⟩) (meth := k1m1) (c := k1c1) (by decide +kernel) rfl rfl rfl (by decide +kernel)
set_option maxRecDepth 65536 in
theorem w_c1 : (Jvm.Cond.code ({ cls := "com/example/muster/muster/core/PhaserState", name := "<init>", desc := "(III)V" } : Jvm.MethodName) prog_12_method_1_code (4 : Nat) (Option.none : Option Jvm.ClassFile.FieldType)).before args0 about1 = true := code_word (m := ⟨3, 0⟩) (meth := k3m0) (c := k3c0) (by decide +kernel) rfl rfl rfl (by decide +kernel)
set_option maxRecDepth 65536 in
theorem w_c2 : (Jvm.Cond.code ({ cls := "java/lang/Record", name := "<init>", desc := "()V" } : Jvm.MethodName) jdk_30_method_1_code (1 : Nat) (Option.none : Option Jvm.ClassFile.FieldType)).before args0 about1 = true := code_word (m := ⟨2, 0⟩) (meth := k2m0) (c := k2c0) (by decide +kernel) rfl rfl rfl (by decide +kernel)
set_option maxRecDepth 65536 in
theorem w_c3 : (Jvm.Cond.code ({ cls := "java/lang/Object", name := "<init>", desc := "()V" } : Jvm.MethodName) object_method_1_code (1 : Nat) (Option.none : Option Jvm.ClassFile.FieldType)).before args0 about1 = true := code_word (m := ⟨0, 0⟩) (meth := k0m0) (c := k0c0) (by decide +kernel) rfl rfl rfl (by decide +kernel)
set_option maxRecDepth 65536 in
theorem w_c4 : (Jvm.Cond.code ({ cls := "com/example/muster/muster/core/PhaserState", name := "isTerminated", desc := "()Z" } : Jvm.MethodName) prog_12_method_5_code (1 : Nat) (Option.some Jvm.ClassFile.FieldType.boolean)).before args0 about1 = true := code_word (m := ⟨3, 2⟩) (meth := k3m2) (c := k3c2) (by decide +kernel) rfl rfl rfl (by decide +kernel)
set_option maxRecDepth 65536 in
theorem w_c5 : (Jvm.Cond.code ({ cls := "com/example/muster/muster/core/PhaserState", name := "terminatedPhase", desc := "(I)I" } : Jvm.MethodName) prog_12_method_3_code (1 : Nat) (Option.some Jvm.ClassFile.FieldType.int)).before args0 about1 = true := code_word (m := ⟨3, 1⟩) (meth := k3m1) (c := k3c1) (by decide +kernel) rfl rfl rfl (by decide +kernel)
def codes1 : List Jvm.Cond := [Jvm.Cond.code x code maxLocals ret, Jvm.Cond.code ({ cls := "com/example/muster/muster/core/PhaserState", name := "<init>", desc := "(III)V" } : Jvm.MethodName) prog_12_method_1_code (4 : Nat) (Option.none : Option Jvm.ClassFile.FieldType), Jvm.Cond.code ({ cls := "java/lang/Record", name := "<init>", desc := "()V" } : Jvm.MethodName) jdk_30_method_1_code (1 : Nat) (Option.none : Option Jvm.ClassFile.FieldType), Jvm.Cond.code ({ cls := "java/lang/Object", name := "<init>", desc := "()V" } : Jvm.MethodName) object_method_1_code (1 : Nat) (Option.none : Option Jvm.ClassFile.FieldType), Jvm.Cond.code ({ cls := "com/example/muster/muster/core/PhaserState", name := "isTerminated", desc := "()Z" } : Jvm.MethodName) prog_12_method_5_code (1 : Nat) (Option.some Jvm.ClassFile.FieldType.boolean), Jvm.Cond.code ({ cls := "com/example/muster/muster/core/PhaserState", name := "terminatedPhase", desc := "(I)I" } : Jvm.MethodName) prog_12_method_3_code (1 : Nat) (Option.some Jvm.ClassFile.FieldType.int)]
set_option maxRecDepth 65536 in
theorem codes_eq : words1.filter isCode = codes1 := rfl
theorem w_codes : ∀ c ∈ words1.filter isCode, c.before args0 about1 = true := by
  rw [codes_eq]
  intro c hc
  simp only [codes1, List.mem_cons, List.not_mem_nil, or_false] at hc
  rcases hc with rfl | rfl | rfl | rfl | rfl | rfl
  · exact w_c0
  · exact w_c1
  · exact w_c2
  · exact w_c3
  · exact w_c4
  · exact w_c5
set_option maxRecDepth 65536 in
theorem w_t1 : (words1.take 24).all (fun c => isCode c || c.before args0 about1) = true := by decide +kernel
set_option maxRecDepth 65536 in
theorem w_t2 : (words1.drop 24).all (fun c => isCode c || c.before args0 about1) = true := by decide +kernel
theorem w_tables : (allAtoms (Jvm.Cond.code x code maxLocals ret :: tables_1)).before args0 about1 = true := by
  rw [allAtoms_all]
  show words1.all (fun c => c.before args0 about1) = true
  refine all_split ?_ w_codes
  rw [← List.take_append_drop 24 words1, List.all_append, w_t1, w_t2]
  rfl
set_option maxRecDepth 65536 in
theorem w_case : (Jvm.Cond.and given_1 narrow_1).before args0 about1 = true := by decide +kernel
theorem w_applies : (headSpec (Jvm.Cond.code x code maxLocals ret :: tables_1) room_1).applies x e0.platform about1 = true :=
  (Spec.applies_iff w_frames).mpr ⟨w_running, w_runnable, w_alone, w_named, w_hears, w_ripe, w_room, w_tables⟩
theorem atStart : AtStart classFile x code maxLocals ret World_1 tables_1 room_1 Calls_1 rest_1 Pre_1 launch0 p0 e0 about1 theMethod args0 below0 :=
  ⟨lists_1, trivial, launch0.admits_env _ _ _, launch0.least_env, fairChoices_fair.cas, fairChoices_fair.clock, w_frames, w_args, w_heap, w_applies, trivial, trivial, w_case⟩
end start1
theorem witness_1 : WitnessClaimed_1 := ⟨start1.p0, start1.e0, start1.about1, start1.theMethod, start1.args0, start1.below0, start1.atStart⟩
end Jvm.Pilot.@@N@@
