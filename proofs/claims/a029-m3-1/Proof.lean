import JvmDerived
import JvmDerived.Pilot.@@N@@Statement
import JvmDerived.Pilot.@@N@@Code
set_option linter.unusedVariables false
set_option linter.unusedSimpArgs false
namespace Jvm.Pilot.@@N@@
open Jvm Jvm.ClassFile Sem Op Lib Jvm.Free Jvm.Stand Jvm.LawKit Jvm.RoadKit Bundle Jvm.Pilot.@@N@@.Jvm.D
/-- the run comes from S to an end of which Q holds -/
def own_Goes (p : Program) (e : Env) (below : List Frame) (S : State) (Q : Outcome → State → Prop) : Prop := ∃ s₂ o, Steps p.tables e below S s₂ ∧ s₂.status = .running ∧ Ended s₂ below o ∧ Q o s₂
theorem own_go {p : Program} {e : Env} {below : List Frame} {S N : State} {Q : Outcome → State → Prop} (h : ∀ t, Steps p.tables e below N t → Steps p.tables e below S t) (k : own_Goes p e below N Q) : own_Goes p e below S Q := by
  obtain ⟨s₂, o, h1, h2⟩ := k; exact ⟨s₂, o, h _ h1, h2⟩
/-- the model's own selection picks a private method itself -/
theorem own_selp {y : MethodName} {s : State} {args : Array Value} {n : Nat} (hy : y.cls ≠ "java/lang/invoke/MethodHandle" ∧ y.cls ≠ "java/lang/invoke/VarHandle") (hins : (Cond.instantiable y.cls n).before args s = true) (hpriv : (Cond.privateMethod y).before args s = true) (hinst : (Cond.instanceMethod y).before args s = true) : (Cond.selects y.cls y y).before args s = true := by
  obtain ⟨c, k, hc, hk, -, hniab, -, -⟩ := Cond.instantiable_spec hins
  have hni : k.isInterface = false := (Bool.or_eq_false_iff.mp hniab).1
  obtain ⟨mk, methM, hnamed, hmethM, -, -⟩ := Cond.instanceMethod_spec hinst
  have hfound : s.methodFound? y.cls y.name y.desc = some mk := State.methodFound?_of_named hnamed hy
  have hcls : mk.cls = c := Option.some.inj ((findClass_of_methodNamed hnamed).symm.trans hc)
  have hsel : selectMethod {} s.vm c mk = .method mk := selectMethod_private hmethM (Cond.privateMethod_at hpriv mk methM hnamed hmethM)
  simp only [Cond.before, Cond.holds, Cond.value, hc, hfound, hnamed, hsel, hcls, hk]
  simp; exact hni
/-- a place where roads meet: walked once, for whatever the roads bring -/
theorem own_join {p : Program} {e : Env} {below : List Frame} {S : State} {Q : Outcome → State → Prop} {α : Type} {P : α → Prop} {F : α → State} (h1 : ∀ z, P z → own_Goes p e below (F z) Q) (h2 : (∀ z, P z → own_Goes p e below (F z) Q) → own_Goes p e below S Q) : own_Goes p e below S Q := h2 h1
theorem own_19 (k : Int32) (h : 0 ≤ k.toInt ∧ k.toInt < 65536) : ((19 : Int32) + k).toInt64.toInt = 19 + k.toInt := by
  have h1 := c_iadd 19 k
  have h2 := rng32 (19 + k)
  have e : (19 : Int32).toInt = 19 := by decide
  rw [c_i2l]; omega
theorem own_a1 (k n : Int32) (h : 0 ≤ k.toInt ∧ k.toInt < 65536) : (((19 : Int32) + k).toInt64 + n.toInt64) - (((19 : Int32) + (0 : Int32)).toInt64 + (0 : Int32).toInt64) = k.toInt64 + n.toInt64 := by
  have e : (((19 : Int32) + (0 : Int32)).toInt64 + (0 : Int32).toInt64) = (19 : Int64) := by decide
  rw [e]
  apply Int64.toInt_inj.mp
  have h1 := own_19 k h
  have h2 := c_ladd ((19 : Int32) + k).toInt64 n.toInt64
  have h3 := c_lsub (((19 : Int32) + k).toInt64 + n.toInt64) (19 : Int64)
  have h4 := c_ladd k.toInt64 n.toInt64
  have h5 := c_i2l k
  have e2 : (19 : Int64).toInt = 19 := by decide
  have r1 := rng64 (((19 : Int32) + k).toInt64 + n.toInt64 - 19)
  have r2 := rng64 (k.toInt64 + n.toInt64)
  omega
theorem own_a2 (f : Int64) (k n : Int32) (h : 0 ≤ k.toInt ∧ k.toInt < 65536) : f + (((19 : Int32) + k).toInt64 + n.toInt64) = ((f + (19 : Int64)) + k.toInt64) + n.toInt64 := by
  apply Int64.toInt_inj.mp
  have h1 := own_19 k h
  have h2 := c_ladd ((19 : Int32) + k).toInt64 n.toInt64
  have h3 := c_ladd f (((19 : Int32) + k).toInt64 + n.toInt64)
  have h4 := c_ladd f (19 : Int64)
  have h5 := c_ladd (f + (19 : Int64)) k.toInt64
  have h6 := c_ladd ((f + (19 : Int64)) + k.toInt64) n.toInt64
  have h7 := c_i2l k
  have e2 : (19 : Int64).toInt = 19 := by decide
  have r1 := rng64 (f + (((19 : Int32) + k).toInt64 + n.toInt64))
  have r2 := rng64 (((f + (19 : Int64)) + k.toInt64) + n.toInt64)
  omega
theorem own_kk (y : Int32) : 0 ≤ (y &&& (65535 : Int32)).toInt ∧ (y &&& (65535 : Int32)).toInt < 65536 := by
  have h := c_and y 65535 (by decide)
  have e : (65535 : Int32).toInt = 65535 := by decide
  omega
theorem own_pn2 : plainName "java/lang/Record" = true := by first | (simp [plainName, overriddenIn]; done) | decide +kernel
theorem own_ef_own_recM (m : MethodId) (a1 : Addr) : entryFrame m #[(.ref a1)] 1 = (mkF m 0 #[.val (.ref a1)] []) := by first | (simp [entryFrame, mkF, argsToLocals, Value.category]; done) | rfl
def Q_own_recM (Z : State) (a1 : Addr) (h0 : Heap) (n0 : Nat) (v : Option Value) (h : Heap) (L : List Loc) : Prop := v = none ∧ Fr n0 L ∧ h = h0
def G_own_recM (Z : State) (a1 : Addr) (h0 : Heap) (n0 : Nat) (s : State) : Outcome → State → Prop := fun o U' => ∃ v L, o = .returned v ∧ Q_own_recM Z a1 h0 n0 v U'.heap L ∧ FrameEnd s o U' L ({ frames := 1, cells := 0, slots := 0, locals := 12 } : Room).cells ({ frames := 1, cells := 0, slots := 0, locals := 12 } : Room).slots
theorem own_d2_0 : decode jdk_30_method_1_code 0 = .ok (.aload_n 0, 1) := by decide +kernel
theorem own_d2_1 : decode jdk_30_method_1_code 1 = .ok (.invokespecial 1, 3) := by decide +kernel
theorem own_d2_4 : decode jdk_30_method_1_code 4 = .ok (.return_, 1) := by decide +kernel
set_option maxRecDepth 65536 in
set_option maxHeartbeats 40000000 in
theorem own_recM (l : Launch) (Z : State) (a0 : Array Value) (hw : ∀ d ∈ tables_1, d.before a0 Z = true) (ws : List Jvm.Cond) (a1 : Addr) (h0 : Heap) (n0 : Nat) (Z0 : n0 ≤ h0.size)  :
    MetFree l (⟨"java/lang/Record", "<init>", "()V"⟩ : MethodName) (head1 (Jvm.Cond.code (⟨"java/lang/Record", "<init>", "()V"⟩ : MethodName) jdk_30_method_1_code 1 none :: ws) ({ frames := 1, cells := 0, slots := 0, locals := 12 } : Room)) (fun a U => a = #[(.ref a1)] ∧ Z.Warmed39 U.vm ∧ U.heap = h0) (fun _ _ _ _ _ => True) (fun _ U o U' => ∃ v L, o = .returned v ∧ Q_own_recM Z a1 h0 n0 v U'.heap L ∧ FrameEnd U o U' L ({ frames := 1, cells := 0, slots := 0, locals := 12 } : Room).cells ({ frames := 1, cells := 0, slots := 0, locals := 12 } : Room).slots) := by
  refine MetFree.of_bodySF (plainFor_of_name own_pn2) hisR ?_
  intro p e s m args below meth c s₁ Bd hml0 hP hK
  obtain ⟨rfl, hZ, hh⟩ := hP
  have hx := Bd.exec
  have hby := Bd.bytes
  have hml : c.maxLocals = 1 := hml0
  have hown : s.vm.findClass "java/lang/Record" = some m.cls := findClass_of_methodNamed Bd.named
  have hnm := (name_of_methodNamed Bd.named Bd.method).1
  have X0 : Stand p l e ({ frames := 1, cells := 0, slots := 0, locals := 12 } : Room) s m #[(.ref a1)] below meth c s₁ [] 0 0 := Stand.of_body Bd
  have e0 : s₁.heap = h0 := by rw [← hh, Bd.state]; rfl
  have N0 := Fr.nil n0
  refine own_go (S := s₁.setTop (entryFrame m #[(.ref a1)] 1)) (Q := (G_own_recM Z a1 h0 n0 s)) (fun _ k => castTop (own_ef_own_recM m a1) k) ?_
  show own_Goes p e below (s₁.setTop (mkF m 0 #[.val (.ref a1)] [])) (G_own_recM Z a1 h0 n0 s)
  refine own_go (fun _ k => XS.aloadN X0.here hx rfl (hb hby own_d2_0) rfl rfl k) ?_
  show own_Goes p e below (s₁.setTop (mkF m 1 #[.val (.ref a1)] [(.ref a1)])) (G_own_recM Z a1 h0 n0 s)
  obtain ⟨T1, X1, e1, st1⟩ := initO X0 hx hZ hown (hw _ (List.mem_of_getElem? (i := 15) rfl)) (hw _ (List.mem_of_getElem? (i := 16) rfl)) (hw _ (List.mem_of_getElem? (i := 17) rfl)) e0 (g := (mkF m 1 #[.val (.ref a1)] [(.ref a1)])) rfl (by rw [hml]; rfl) rfl (hb hby own_d2_1) (by decide) (W := 0) (by show 2 * 0 + _ ≤ _; exact Nat.le_of_eq rfl) (by decide)
  refine own_go st1 ?_
  show own_Goes p e below (T1.setTop (mkF m 4 #[.val (.ref a1)] [])) (G_own_recM Z a1 h0 n0 s)
  obtain ⟨fs, hr, hrun, hended, hW, hsame⟩ := X1.leave (v := none) (fun _ => rfl)
  refine ⟨_, _, X1.returnOut hx Bd.returns (hb hby own_d2_4) hr, hrun, hended, _, _, rfl, ?_, ⟨_, rfl⟩, hW, hsame.mono (by decide) (by decide)⟩
  show Q_own_recM Z a1 h0 n0 _ T1.heap _
  rw [e1]
  exact ⟨rfl, N0, rfl⟩
theorem own_pn1 : plainName "com/example/keelstore/keelstore/StoreFile$Value" = true := by first | (simp [plainName, overriddenIn]; done) | decide +kernel
theorem own_ef_own_iniM (m : MethodId) (a1 : Addr) (p1 : Int64) (p2 : Int32) (p3 : Int32) (p4 : Int32) : entryFrame m #[(.ref a1), (.long p1), (.int p2), (.int p3), (.int p4)] 6 = (mkF m 0 #[.val (.ref a1), .val (.long p1), .second, .val (.int p2), .val (.int p3), .val (.int p4)] []) := by first | (simp [entryFrame, mkF, argsToLocals, Value.category]; done) | rfl
def Q_own_iniM (Z : State) (a1 : Addr) (p1 : Int64) (p2 : Int32) (p3 : Int32) (p4 : Int32) (h0 : Heap) (n0 : Nat) (v : Option Value) (h : Heap) (L : List Loc) : Prop := v = none ∧ Fr n0 L ∧ Keep h0 h [a1] ∧ Fld Z h a1 "com/example/keelstore/keelstore/StoreFile$Value" "frame" "J" (.long p1) ∧ Fld Z h a1 "com/example/keelstore/keelstore/StoreFile$Value" "keyLength" "I" (.int p2) ∧ Fld Z h a1 "com/example/keelstore/keelstore/StoreFile$Value" "length" "I" (.int p3)
def G_own_iniM (Z : State) (a1 : Addr) (p1 : Int64) (p2 : Int32) (p3 : Int32) (p4 : Int32) (h0 : Heap) (n0 : Nat) (s : State) : Outcome → State → Prop := fun o U' => ∃ v L, o = .returned v ∧ Q_own_iniM Z a1 p1 p2 p3 p4 h0 n0 v U'.heap L ∧ FrameEnd s o U' L ({ frames := 2, cells := 0, slots := 0, locals := 24 } : Room).cells ({ frames := 2, cells := 0, slots := 0, locals := 24 } : Room).slots
theorem own_d1_0 : decode prog_63_method_1_code 0 = .ok (.aload_n 0, 1) := by decide +kernel
theorem own_d1_1 : decode prog_63_method_1_code 1 = .ok (.invokespecial 3, 3) := by decide +kernel
theorem own_pd0 : parseMethodDescriptor "()V" = some ⟨[], none⟩ := by decide +kernel
theorem own_d1_4 : decode prog_63_method_1_code 4 = .ok (.aload_n 0, 1) := by decide +kernel
theorem own_d1_5 : decode prog_63_method_1_code 5 = .ok (.lload_n 1, 1) := by decide +kernel
theorem own_d1_6 : decode prog_63_method_1_code 6 = .ok (.putfield 9, 3) := by decide +kernel
theorem own_d1_9 : decode prog_63_method_1_code 9 = .ok (.aload_n 0, 1) := by decide +kernel
theorem own_d1_10 : decode prog_63_method_1_code 10 = .ok (.iload_n 3, 1) := by decide +kernel
theorem own_d1_11 : decode prog_63_method_1_code 11 = .ok (.putfield 15, 3) := by decide +kernel
theorem own_d1_14 : decode prog_63_method_1_code 14 = .ok (.aload_n 0, 1) := by decide +kernel
theorem own_d1_15 : decode prog_63_method_1_code 15 = .ok (.iload 4, 2) := by decide +kernel
theorem own_d1_17 : decode prog_63_method_1_code 17 = .ok (.putfield 19, 3) := by decide +kernel
theorem own_d1_20 : decode prog_63_method_1_code 20 = .ok (.aload_n 0, 1) := by decide +kernel
theorem own_d1_21 : decode prog_63_method_1_code 21 = .ok (.iload 5, 2) := by decide +kernel
theorem own_d1_23 : decode prog_63_method_1_code 23 = .ok (.putfield 22, 3) := by decide +kernel
theorem own_d1_26 : decode prog_63_method_1_code 26 = .ok (.return_, 1) := by decide +kernel
set_option maxRecDepth 65536 in
set_option maxHeartbeats 40000000 in
theorem own_iniM (l : Launch) (Z : State) (a0 : Array Value) (hw : ∀ d ∈ tables_1, d.before a0 Z = true) (ws : List Jvm.Cond) (a1 : Addr) (p1 : Int64) (p2 : Int32) (p3 : Int32) (p4 : Int32) (h0 : Heap) (n0 : Nat) (Z0 : n0 ≤ h0.size) (E_a1 : Exa Z h0 a1 "com/example/keelstore/keelstore/StoreFile$Value") (g_a1 : n0 ≤ a1) (F_frame : Fld Z h0 a1 "com/example/keelstore/keelstore/StoreFile$Value" "frame" "J" (.long (0 : Int64))) (F_keyLength : Fld Z h0 a1 "com/example/keelstore/keelstore/StoreFile$Value" "keyLength" "I" (.int (0 : Int32))) (F_length : Fld Z h0 a1 "com/example/keelstore/keelstore/StoreFile$Value" "length" "I" (.int (0 : Int32))) (F_checksum : Fld Z h0 a1 "com/example/keelstore/keelstore/StoreFile$Value" "checksum" "I" (.int (0 : Int32))) :
    MetFree l (⟨"com/example/keelstore/keelstore/StoreFile$Value", "<init>", "(JIII)V"⟩ : MethodName) (head1 (Jvm.Cond.code (⟨"com/example/keelstore/keelstore/StoreFile$Value", "<init>", "(JIII)V"⟩ : MethodName) prog_63_method_1_code 6 none :: ws) ({ frames := 2, cells := 0, slots := 0, locals := 24 } : Room)) (fun a U => a = #[(.ref a1), (.long p1), (.int p2), (.int p3), (.int p4)] ∧ Z.Warmed39 U.vm ∧ U.heap = h0) (fun _ _ _ _ _ => True) (fun _ U o U' => ∃ v L, o = .returned v ∧ Q_own_iniM Z a1 p1 p2 p3 p4 h0 n0 v U'.heap L ∧ FrameEnd U o U' L ({ frames := 2, cells := 0, slots := 0, locals := 24 } : Room).cells ({ frames := 2, cells := 0, slots := 0, locals := 24 } : Room).slots) := by
  refine MetFree.of_bodySF (plainFor_of_name own_pn1) hisR ?_
  intro p e s m args below meth c s₁ Bd hml0 hP hK
  obtain ⟨rfl, hZ, hh⟩ := hP
  have hx := Bd.exec
  have hby := Bd.bytes
  have hml : c.maxLocals = 6 := hml0
  have hown : s.vm.findClass "com/example/keelstore/keelstore/StoreFile$Value" = some m.cls := findClass_of_methodNamed Bd.named
  have hnm := (name_of_methodNamed Bd.named Bd.method).1
  have X0 : Stand p l e ({ frames := 2, cells := 0, slots := 0, locals := 24 } : Room) s m #[(.ref a1), (.long p1), (.int p2), (.int p3), (.int p4)] below meth c s₁ [] 0 0 := Stand.of_body Bd
  have e0 : s₁.heap = h0 := by rw [← hh, Bd.state]; rfl
  have N0 := Fr.nil n0
  refine own_go (S := s₁.setTop (entryFrame m #[(.ref a1), (.long p1), (.int p2), (.int p3), (.int p4)] 6)) (Q := (G_own_iniM Z a1 p1 p2 p3 p4 h0 n0 s)) (fun _ k => castTop (own_ef_own_iniM m a1 p1 p2 p3 p4) k) ?_
  show own_Goes p e below (s₁.setTop (mkF m 0 #[.val (.ref a1), .val (.long p1), .second, .val (.int p2), .val (.int p3), .val (.int p4)] [])) (G_own_iniM Z a1 p1 p2 p3 p4 h0 n0 s)
  have K2 : Keep h0 h0 [a1] := Keep.refl h0 [a1]
  refine own_go (fun _ k => XS.aloadN X0.here hx rfl (hb hby own_d1_0) rfl rfl k) ?_
  show own_Goes p e below (s₁.setTop (mkF m 1 #[.val (.ref a1), .val (.long p1), .second, .val (.int p2), .val (.int p3), .val (.int p4)] [(.ref a1)])) (G_own_iniM Z a1 p1 p2 p3 p4 h0 n0 s)
  obtain ⟨_, _, ⟨T3, L3, k3, n3⟩, -, X3, ⟨Lc3, hQ3, l3, y3, z3⟩, st3⟩ := X0.specialBack hx (y := (⟨"java/lang/Record", "<init>", "()V"⟩ : MethodName)) rfl hown (mvT hZ (hw _ (List.mem_of_getElem? (i := 10) rfl))) (mvT hZ (hw _ (List.mem_of_getElem? (i := 11) rfl))) (mvT hZ (hw _ (List.mem_of_getElem? (i := 14) rfl))) (by decide) (backOf (W := 0) (own_recM l Z a0 hw [] a1 h0 n0 Z0 ) hZ (hw _ (List.mem_of_getElem? (i := 14) rfl)) (hw _ (List.mem_of_getElem? (i := 13) rfl)) (by decide) (by decide)) (g := (mkF m 1 #[.val (.ref a1), .val (.long p1), .second, .val (.int p2), .val (.int p3), .val (.int p4)] [(.ref a1)])) rfl (by rw [hml]; rfl) (Steps.refl _) (a := a1) (argsL := []) (rest := []) (lenOf own_pd0 rfl) rfl (by show 2 * 0 + _ ≤ _; exact Nat.le_of_eq rfl) (hb hby own_d1_1) (fun _ _ => ⟨rfl, e0, (by decide : 0 + 0 ≤ _), (by decide : 0 + 0 ≤ _)⟩)
  dsimp only [Pt.U, Pt.locs, Pt.cells, Pt.slots] at X3 l3 y3 z3 st3 hQ3
  subst l3 y3 z3
  obtain ⟨rfl, N3q, e3⟩ := hQ3
  have N3 := Fr.app N0 N3q
  refine own_go (fun _ k => st3.trans k) ?_
  show own_Goes p e below (T3.setTop (mkF m 4 #[.val (.ref a1), .val (.long p1), .second, .val (.int p2), .val (.int p3), .val (.int p4)] [])) (G_own_iniM Z a1 p1 p2 p3 p4 h0 n0 s)
  refine own_go (fun _ k => XS.aloadN X3.here hx rfl (hb hby own_d1_4) rfl rfl k) ?_
  show own_Goes p e below (T3.setTop (mkF m 5 #[.val (.ref a1), .val (.long p1), .second, .val (.int p2), .val (.int p3), .val (.int p4)] [(.ref a1)])) (G_own_iniM Z a1 p1 p2 p3 p4 h0 n0 s)
  refine own_go (fun _ k => XS.lloadN X3.here hx rfl (hb hby own_d1_5) rfl k) ?_
  show own_Goes p e below (T3.setTop (mkF m 6 #[.val (.ref a1), .val (.long p1), .second, .val (.int p2), .val (.int p3), .val (.int p4)] [(.long p1), (.ref a1)])) (G_own_iniM Z a1 p1 p2 p3 p4 h0 n0 s)
  obtain ⟨T4, h4, X4, e4, W4, st4⟩ := putF X3 hx hZ hown (host := "") (Or.inl (hw _ (List.mem_of_getElem? (i := 18) rfl))) Via.refl e3 F_frame E_a1 (Or.inr ⟨(hw _ (List.mem_of_getElem? (i := 19) rfl)), rfl, hnm⟩) (hw _ (List.mem_of_getElem? (i := 5) rfl)) (ty := .long) (by decide) rfl rfl (g := (mkF m 6 #[.val (.ref a1), .val (.long p1), .second, .val (.int p2), .val (.int p3), .val (.int p4)] [(.long p1), (.ref a1)])) rfl rfl (hb hby own_d1_6)
  have E_5 := E_a1.wr W4
  have F_6 := F_keyLength.other W4 (Or.inr (slot_ne (Or.inr (hw _ (List.mem_of_getElem? (i := 21) rfl))) (Or.inr (hw _ (List.mem_of_getElem? (i := 19) rfl))) (by decide) (t := .int) (t' := .long) (by decide) (by decide)))
  have F_7 := F_length.other W4 (Or.inr (slot_ne (Or.inr (hw _ (List.mem_of_getElem? (i := 23) rfl))) (Or.inr (hw _ (List.mem_of_getElem? (i := 19) rfl))) (by decide) (t := .int) (t' := .long) (by decide) (by decide)))
  have F_8 := F_checksum.other W4 (Or.inr (slot_ne (Or.inr (hw _ (List.mem_of_getElem? (i := 25) rfl))) (Or.inr (hw _ (List.mem_of_getElem? (i := 19) rfl))) (by decide) (t := .int) (t' := .long) (by decide) (by decide)))
  have F_9 := F_frame.same W4
  have N4 := Fr.snoc X4 N3 g_a1
  have Z4 : n0 ≤ h4.size := by rw [W4.size]; exact Z0
  have K4 : Keep h0 h4 [a1] := K2.wr W4 (Or.inl (List.mem_of_getElem? (i := 0) rfl))
  refine own_go st4 ?_
  show own_Goes p e below (T4.setTop (mkF m 9 #[.val (.ref a1), .val (.long p1), .second, .val (.int p2), .val (.int p3), .val (.int p4)] [])) (G_own_iniM Z a1 p1 p2 p3 p4 h0 n0 s)
  refine own_go (fun _ k => XS.aloadN X4.here hx rfl (hb hby own_d1_9) rfl rfl k) ?_
  show own_Goes p e below (T4.setTop (mkF m 10 #[.val (.ref a1), .val (.long p1), .second, .val (.int p2), .val (.int p3), .val (.int p4)] [(.ref a1)])) (G_own_iniM Z a1 p1 p2 p3 p4 h0 n0 s)
  refine own_go (fun _ k => XS.iloadN X4.here hx rfl (hb hby own_d1_10) rfl k) ?_
  show own_Goes p e below (T4.setTop (mkF m 11 #[.val (.ref a1), .val (.long p1), .second, .val (.int p2), .val (.int p3), .val (.int p4)] [(.int p2), (.ref a1)])) (G_own_iniM Z a1 p1 p2 p3 p4 h0 n0 s)
  obtain ⟨T10, h10, X10, e10, W10, st10⟩ := putF X4 hx hZ hown (host := "") (Or.inl (hw _ (List.mem_of_getElem? (i := 20) rfl))) Via.refl e4 F_6 E_5 (Or.inr ⟨(hw _ (List.mem_of_getElem? (i := 21) rfl)), rfl, hnm⟩) (hw _ (List.mem_of_getElem? (i := 5) rfl)) (ty := .int) (by decide) rfl rfl (g := (mkF m 11 #[.val (.ref a1), .val (.long p1), .second, .val (.int p2), .val (.int p3), .val (.int p4)] [(.int p2), (.ref a1)])) rfl rfl (hb hby own_d1_11)
  have E_11 := E_5.wr W10
  have F_12 := F_9.other W10 (Or.inr (slot_ne (Or.inr (hw _ (List.mem_of_getElem? (i := 19) rfl))) (Or.inr (hw _ (List.mem_of_getElem? (i := 21) rfl))) (by decide) (t := .long) (t' := .int) (by decide) (by decide)))
  have F_13 := F_7.other W10 (Or.inr (slot_ne (Or.inr (hw _ (List.mem_of_getElem? (i := 23) rfl))) (Or.inr (hw _ (List.mem_of_getElem? (i := 21) rfl))) (by decide) (t := .int) (t' := .int) (by decide) (by decide)))
  have F_14 := F_8.other W10 (Or.inr (slot_ne (Or.inr (hw _ (List.mem_of_getElem? (i := 25) rfl))) (Or.inr (hw _ (List.mem_of_getElem? (i := 21) rfl))) (by decide) (t := .int) (t' := .int) (by decide) (by decide)))
  have F_15 := F_6.same W10
  have N10 := Fr.snoc X10 N4 g_a1
  have Z10 : n0 ≤ h10.size := by rw [W10.size]; exact Z4
  have K10 : Keep h0 h10 [a1] := K4.wr W10 (Or.inl (List.mem_of_getElem? (i := 0) rfl))
  refine own_go st10 ?_
  show own_Goes p e below (T10.setTop (mkF m 14 #[.val (.ref a1), .val (.long p1), .second, .val (.int p2), .val (.int p3), .val (.int p4)] [])) (G_own_iniM Z a1 p1 p2 p3 p4 h0 n0 s)
  refine own_go (fun _ k => XS.aloadN X10.here hx rfl (hb hby own_d1_14) rfl rfl k) ?_
  show own_Goes p e below (T10.setTop (mkF m 15 #[.val (.ref a1), .val (.long p1), .second, .val (.int p2), .val (.int p3), .val (.int p4)] [(.ref a1)])) (G_own_iniM Z a1 p1 p2 p3 p4 h0 n0 s)
  refine own_go (fun _ k => XS.iload X10.here hx rfl (hb hby own_d1_15) rfl k) ?_
  show own_Goes p e below (T10.setTop (mkF m 17 #[.val (.ref a1), .val (.long p1), .second, .val (.int p2), .val (.int p3), .val (.int p4)] [(.int p3), (.ref a1)])) (G_own_iniM Z a1 p1 p2 p3 p4 h0 n0 s)
  obtain ⟨T16, h16, X16, e16, W16, st16⟩ := putF X10 hx hZ hown (host := "") (Or.inl (hw _ (List.mem_of_getElem? (i := 22) rfl))) Via.refl e10 F_13 E_11 (Or.inr ⟨(hw _ (List.mem_of_getElem? (i := 23) rfl)), rfl, hnm⟩) (hw _ (List.mem_of_getElem? (i := 5) rfl)) (ty := .int) (by decide) rfl rfl (g := (mkF m 17 #[.val (.ref a1), .val (.long p1), .second, .val (.int p2), .val (.int p3), .val (.int p4)] [(.int p3), (.ref a1)])) rfl rfl (hb hby own_d1_17)
  have E_17 := E_11.wr W16
  have F_18 := F_12.other W16 (Or.inr (slot_ne (Or.inr (hw _ (List.mem_of_getElem? (i := 19) rfl))) (Or.inr (hw _ (List.mem_of_getElem? (i := 23) rfl))) (by decide) (t := .long) (t' := .int) (by decide) (by decide)))
  have F_19 := F_15.other W16 (Or.inr (slot_ne (Or.inr (hw _ (List.mem_of_getElem? (i := 21) rfl))) (Or.inr (hw _ (List.mem_of_getElem? (i := 23) rfl))) (by decide) (t := .int) (t' := .int) (by decide) (by decide)))
  have F_20 := F_14.other W16 (Or.inr (slot_ne (Or.inr (hw _ (List.mem_of_getElem? (i := 25) rfl))) (Or.inr (hw _ (List.mem_of_getElem? (i := 23) rfl))) (by decide) (t := .int) (t' := .int) (by decide) (by decide)))
  have F_21 := F_13.same W16
  have N16 := Fr.snoc X16 N10 g_a1
  have Z16 : n0 ≤ h16.size := by rw [W16.size]; exact Z10
  have K16 : Keep h0 h16 [a1] := K10.wr W16 (Or.inl (List.mem_of_getElem? (i := 0) rfl))
  refine own_go st16 ?_
  show own_Goes p e below (T16.setTop (mkF m 20 #[.val (.ref a1), .val (.long p1), .second, .val (.int p2), .val (.int p3), .val (.int p4)] [])) (G_own_iniM Z a1 p1 p2 p3 p4 h0 n0 s)
  refine own_go (fun _ k => XS.aloadN X16.here hx rfl (hb hby own_d1_20) rfl rfl k) ?_
  show own_Goes p e below (T16.setTop (mkF m 21 #[.val (.ref a1), .val (.long p1), .second, .val (.int p2), .val (.int p3), .val (.int p4)] [(.ref a1)])) (G_own_iniM Z a1 p1 p2 p3 p4 h0 n0 s)
  refine own_go (fun _ k => XS.iload X16.here hx rfl (hb hby own_d1_21) rfl k) ?_
  show own_Goes p e below (T16.setTop (mkF m 23 #[.val (.ref a1), .val (.long p1), .second, .val (.int p2), .val (.int p3), .val (.int p4)] [(.int p4), (.ref a1)])) (G_own_iniM Z a1 p1 p2 p3 p4 h0 n0 s)
  obtain ⟨T22, h22, X22, e22, W22, st22⟩ := putF X16 hx hZ hown (host := "") (Or.inl (hw _ (List.mem_of_getElem? (i := 24) rfl))) Via.refl e16 F_20 E_17 (Or.inr ⟨(hw _ (List.mem_of_getElem? (i := 25) rfl)), rfl, hnm⟩) (hw _ (List.mem_of_getElem? (i := 5) rfl)) (ty := .int) (by decide) rfl rfl (g := (mkF m 23 #[.val (.ref a1), .val (.long p1), .second, .val (.int p2), .val (.int p3), .val (.int p4)] [(.int p4), (.ref a1)])) rfl rfl (hb hby own_d1_23)
  have E_23 := E_17.wr W22
  have F_24 := F_18.other W22 (Or.inr (slot_ne (Or.inr (hw _ (List.mem_of_getElem? (i := 19) rfl))) (Or.inr (hw _ (List.mem_of_getElem? (i := 25) rfl))) (by decide) (t := .long) (t' := .int) (by decide) (by decide)))
  have F_25 := F_19.other W22 (Or.inr (slot_ne (Or.inr (hw _ (List.mem_of_getElem? (i := 21) rfl))) (Or.inr (hw _ (List.mem_of_getElem? (i := 25) rfl))) (by decide) (t := .int) (t' := .int) (by decide) (by decide)))
  have F_26 := F_21.other W22 (Or.inr (slot_ne (Or.inr (hw _ (List.mem_of_getElem? (i := 23) rfl))) (Or.inr (hw _ (List.mem_of_getElem? (i := 25) rfl))) (by decide) (t := .int) (t' := .int) (by decide) (by decide)))
  have F_27 := F_20.same W22
  have N22 := Fr.snoc X22 N16 g_a1
  have Z22 : n0 ≤ h22.size := by rw [W22.size]; exact Z16
  have K22 : Keep h0 h22 [a1] := K16.wr W22 (Or.inl (List.mem_of_getElem? (i := 0) rfl))
  refine own_go st22 ?_
  show own_Goes p e below (T22.setTop (mkF m 26 #[.val (.ref a1), .val (.long p1), .second, .val (.int p2), .val (.int p3), .val (.int p4)] [])) (G_own_iniM Z a1 p1 p2 p3 p4 h0 n0 s)
  obtain ⟨fs, hr, hrun, hended, hW, hsame⟩ := X22.leave (v := none) (fun _ => rfl)
  refine ⟨_, _, X22.returnOut hx Bd.returns (hb hby own_d1_26) hr, hrun, hended, _, _, rfl, ?_, ⟨_, rfl⟩, hW, hsame.mono (by decide) (by decide)⟩
  show Q_own_iniM Z a1 p1 p2 p3 p4 h0 n0 _ T22.heap _
  rw [e22]
  exact ⟨rfl, N22, K22, F_24, F_25, F_26⟩
theorem own_pn4 : plainName "com/example/keelstore/keelstore/StoreFile$Value" = true := by first | (simp [plainName, overriddenIn]; done) | decide +kernel
theorem own_ef_own_flM (m : MethodId) (a1 : Addr) : entryFrame m #[(.ref a1)] 1 = (mkF m 0 #[.val (.ref a1)] []) := by first | (simp [entryFrame, mkF, argsToLocals, Value.category]; done) | rfl
def Q_own_flM (Z : State) (a1 : Addr) (p2 : Int32) (p3 : Int32) (h0 : Heap) (n0 : Nat) (v : Option Value) (h : Heap) (L : List Loc) : Prop := v = some (.long (((19 : Int32) + p2).toInt64 + p3.toInt64)) ∧ Fr n0 L ∧ h = h0
def G_own_flM (Z : State) (a1 : Addr) (p2 : Int32) (p3 : Int32) (h0 : Heap) (n0 : Nat) (s : State) : Outcome → State → Prop := fun o U' => ∃ v L, o = .returned v ∧ Q_own_flM Z a1 p2 p3 h0 n0 v U'.heap L ∧ FrameEnd s o U' L ({ frames := 0, cells := 0, slots := 0, locals := 0 } : Room).cells ({ frames := 0, cells := 0, slots := 0, locals := 0 } : Room).slots
theorem own_d4_0 : decode prog_63_method_3_code 0 = .ok (.bipush 19, 2) := by decide +kernel
theorem own_d4_2 : decode prog_63_method_3_code 2 = .ok (.aload_n 0, 1) := by decide +kernel
theorem own_d4_3 : decode prog_63_method_3_code 3 = .ok (.getfield 15, 3) := by decide +kernel
theorem own_d4_6 : decode prog_63_method_3_code 6 = .ok (.iadd, 1) := by decide +kernel
theorem own_d4_7 : decode prog_63_method_3_code 7 = .ok (.i2l, 1) := by decide +kernel
theorem own_d4_8 : decode prog_63_method_3_code 8 = .ok (.aload_n 0, 1) := by decide +kernel
theorem own_d4_9 : decode prog_63_method_3_code 9 = .ok (.getfield 19, 3) := by decide +kernel
theorem own_d4_12 : decode prog_63_method_3_code 12 = .ok (.i2l, 1) := by decide +kernel
theorem own_d4_13 : decode prog_63_method_3_code 13 = .ok (.ladd, 1) := by decide +kernel
theorem own_d4_14 : decode prog_63_method_3_code 14 = .ok (.lreturn, 1) := by decide +kernel
set_option maxRecDepth 65536 in
set_option maxHeartbeats 40000000 in
theorem own_flM (l : Launch) (Z : State) (a0 : Array Value) (hw : ∀ d ∈ tables_1, d.before a0 Z = true) (ws : List Jvm.Cond) (a1 : Addr) (p2 : Int32) (p3 : Int32) (h0 : Heap) (n0 : Nat) (Z0 : n0 ≤ h0.size) (F_keyLength : Fld Z h0 a1 "com/example/keelstore/keelstore/StoreFile$Value" "keyLength" "I" (.int p2)) (F_length : Fld Z h0 a1 "com/example/keelstore/keelstore/StoreFile$Value" "length" "I" (.int p3)) :
    MetFree l (⟨"com/example/keelstore/keelstore/StoreFile$Value", "frameLength", "()J"⟩ : MethodName) (head1 (Jvm.Cond.code (⟨"com/example/keelstore/keelstore/StoreFile$Value", "frameLength", "()J"⟩ : MethodName) prog_63_method_3_code 1 (some .long) :: ws) ({ frames := 0, cells := 0, slots := 0, locals := 0 } : Room)) (fun a U => a = #[(.ref a1)] ∧ Z.Warmed39 U.vm ∧ U.heap = h0) (fun _ _ _ _ _ => True) (fun _ U o U' => ∃ v L, o = .returned v ∧ Q_own_flM Z a1 p2 p3 h0 n0 v U'.heap L ∧ FrameEnd U o U' L ({ frames := 0, cells := 0, slots := 0, locals := 0 } : Room).cells ({ frames := 0, cells := 0, slots := 0, locals := 0 } : Room).slots) := by
  refine MetFree.of_bodySF (plainFor_of_name own_pn4) hisR ?_
  intro p e s m args below meth c s₁ Bd hml0 hP hK
  obtain ⟨rfl, hZ, hh⟩ := hP
  have hx := Bd.exec
  have hby := Bd.bytes
  have hml : c.maxLocals = 1 := hml0
  have hown : s.vm.findClass "com/example/keelstore/keelstore/StoreFile$Value" = some m.cls := findClass_of_methodNamed Bd.named
  have hnm := (name_of_methodNamed Bd.named Bd.method).1
  have X0 : Stand p l e ({ frames := 0, cells := 0, slots := 0, locals := 0 } : Room) s m #[(.ref a1)] below meth c s₁ [] 0 0 := Stand.of_body Bd
  have e0 : s₁.heap = h0 := by rw [← hh, Bd.state]; rfl
  have N0 := Fr.nil n0
  refine own_go (S := s₁.setTop (entryFrame m #[(.ref a1)] 1)) (Q := (G_own_flM Z a1 p2 p3 h0 n0 s)) (fun _ k => castTop (own_ef_own_flM m a1) k) ?_
  show own_Goes p e below (s₁.setTop (mkF m 0 #[.val (.ref a1)] [])) (G_own_flM Z a1 p2 p3 h0 n0 s)
  refine own_go (fun _ k => XS.bipush X0.here hx rfl (hb hby own_d4_0) k) ?_
  show own_Goes p e below (s₁.setTop (mkF m 2 #[.val (.ref a1)] [(.int (19 : Int32))])) (G_own_flM Z a1 p2 p3 h0 n0 s)
  refine own_go (fun _ k => XS.aloadN X0.here hx rfl (hb hby own_d4_2) rfl rfl k) ?_
  show own_Goes p e below (s₁.setTop (mkF m 3 #[.val (.ref a1)] [(.ref a1), (.int (19 : Int32))])) (G_own_flM Z a1 p2 p3 h0 n0 s)
  obtain ⟨T28, X28, e28, st28⟩ := getF X0 hx hZ hown (host := "") (Or.inl (hw _ (List.mem_of_getElem? (i := 20) rfl))) Via.refl e0 F_keyLength (g := (mkF m 3 #[.val (.ref a1)] [(.ref a1), (.int (19 : Int32))])) rfl rfl (hb hby own_d4_3)
  refine own_go st28 ?_
  show own_Goes p e below (T28.setTop (mkF m 6 #[.val (.ref a1)] [(.int p2), (.int (19 : Int32))])) (G_own_flM Z a1 p2 p3 h0 n0 s)
  refine own_go (fun _ k => XS.iadd X28.here hx rfl (hb hby own_d4_6) rfl k) ?_
  show own_Goes p e below (T28.setTop (mkF m 7 #[.val (.ref a1)] [(.int ((19 : Int32) + p2))])) (G_own_flM Z a1 p2 p3 h0 n0 s)
  refine own_go (fun _ k => XS.i2l X28.here hx rfl (hb hby own_d4_7) rfl k) ?_
  show own_Goes p e below (T28.setTop (mkF m 8 #[.val (.ref a1)] [(.long (((19 : Int32) + p2).toInt64))])) (G_own_flM Z a1 p2 p3 h0 n0 s)
  refine own_go (fun _ k => XS.aloadN X28.here hx rfl (hb hby own_d4_8) rfl rfl k) ?_
  show own_Goes p e below (T28.setTop (mkF m 9 #[.val (.ref a1)] [(.ref a1), (.long (((19 : Int32) + p2).toInt64))])) (G_own_flM Z a1 p2 p3 h0 n0 s)
  obtain ⟨T29, X29, e29, st29⟩ := getF X28 hx hZ hown (host := "") (Or.inl (hw _ (List.mem_of_getElem? (i := 22) rfl))) Via.refl e28 F_length (g := (mkF m 9 #[.val (.ref a1)] [(.ref a1), (.long (((19 : Int32) + p2).toInt64))])) rfl rfl (hb hby own_d4_9)
  refine own_go st29 ?_
  show own_Goes p e below (T29.setTop (mkF m 12 #[.val (.ref a1)] [(.int p3), (.long (((19 : Int32) + p2).toInt64))])) (G_own_flM Z a1 p2 p3 h0 n0 s)
  refine own_go (fun _ k => XS.i2l X29.here hx rfl (hb hby own_d4_12) rfl k) ?_
  show own_Goes p e below (T29.setTop (mkF m 13 #[.val (.ref a1)] [(.long (p3.toInt64)), (.long (((19 : Int32) + p2).toInt64))])) (G_own_flM Z a1 p2 p3 h0 n0 s)
  refine own_go (fun _ k => XS.ladd X29.here hx rfl (hb hby own_d4_13) rfl k) ?_
  show own_Goes p e below (T29.setTop (mkF m 14 #[.val (.ref a1)] [(.long ((((19 : Int32) + p2).toInt64) + (p3.toInt64)))])) (G_own_flM Z a1 p2 p3 h0 n0 s)
  obtain ⟨fs, hr, hrun, hended, hW, hsame⟩ := X29.leave (v := some (.long ((((19 : Int32) + p2).toInt64) + (p3.toInt64)))) (fun h => by rw [Bd.returns] at h; cases h)
  refine ⟨_, _, retOut X29 hx (t := .long) (i := .lreturn) Bd.returns rfl (Or.inr (Or.inl ⟨rfl, rfl, _, rfl⟩)) (hb hby own_d4_14) hr, hrun, hended, _, _, rfl, ?_, ⟨_, rfl⟩, hW, hsame.mono (by decide) (by decide)⟩
  show Q_own_flM Z a1 p2 p3 h0 n0 _ T29.heap _
  rw [e29]
  exact ⟨rfl, N0, rfl⟩
theorem own_pn5 : plainName "com/example/keelstore/keelstore/StoreFile$Value" = true := by first | (simp [plainName, overriddenIn]; done) | decide +kernel
theorem own_ef_own_ofM (m : MethodId) (a1 : Addr) : entryFrame m #[(.ref a1)] 1 = (mkF m 0 #[.val (.ref a1)] []) := by first | (simp [entryFrame, mkF, argsToLocals, Value.category]; done) | rfl
def Q_own_ofM (Z : State) (a1 : Addr) (p1 : Int64) (p2 : Int32) (h0 : Heap) (n0 : Nat) (v : Option Value) (h : Heap) (L : List Loc) : Prop := v = some (.long ((p1 + (19 : Int64)) + p2.toInt64)) ∧ Fr n0 L ∧ h = h0
def G_own_ofM (Z : State) (a1 : Addr) (p1 : Int64) (p2 : Int32) (h0 : Heap) (n0 : Nat) (s : State) : Outcome → State → Prop := fun o U' => ∃ v L, o = .returned v ∧ Q_own_ofM Z a1 p1 p2 h0 n0 v U'.heap L ∧ FrameEnd s o U' L ({ frames := 0, cells := 0, slots := 0, locals := 0 } : Room).cells ({ frames := 0, cells := 0, slots := 0, locals := 0 } : Room).slots
theorem own_d5_0 : decode prog_63_method_2_code 0 = .ok (.aload_n 0, 1) := by decide +kernel
theorem own_d5_1 : decode prog_63_method_2_code 1 = .ok (.getfield 9, 3) := by decide +kernel
theorem own_d5_4 : decode prog_63_method_2_code 4 = .ok (.ldc2_w 25, 3) := by decide +kernel
theorem own_d5_7 : decode prog_63_method_2_code 7 = .ok (.ladd, 1) := by decide +kernel
theorem own_d5_8 : decode prog_63_method_2_code 8 = .ok (.aload_n 0, 1) := by decide +kernel
theorem own_d5_9 : decode prog_63_method_2_code 9 = .ok (.getfield 15, 3) := by decide +kernel
theorem own_d5_12 : decode prog_63_method_2_code 12 = .ok (.i2l, 1) := by decide +kernel
theorem own_d5_13 : decode prog_63_method_2_code 13 = .ok (.ladd, 1) := by decide +kernel
theorem own_d5_14 : decode prog_63_method_2_code 14 = .ok (.lreturn, 1) := by decide +kernel
set_option maxRecDepth 65536 in
set_option maxHeartbeats 40000000 in
theorem own_ofM (l : Launch) (Z : State) (a0 : Array Value) (hw : ∀ d ∈ tables_1, d.before a0 Z = true) (ws : List Jvm.Cond) (a1 : Addr) (p1 : Int64) (p2 : Int32) (h0 : Heap) (n0 : Nat) (Z0 : n0 ≤ h0.size) (F_frame : Fld Z h0 a1 "com/example/keelstore/keelstore/StoreFile$Value" "frame" "J" (.long p1)) (F_keyLength : Fld Z h0 a1 "com/example/keelstore/keelstore/StoreFile$Value" "keyLength" "I" (.int p2)) :
    MetFree l (⟨"com/example/keelstore/keelstore/StoreFile$Value", "offset", "()J"⟩ : MethodName) (head1 (Jvm.Cond.code (⟨"com/example/keelstore/keelstore/StoreFile$Value", "offset", "()J"⟩ : MethodName) prog_63_method_2_code 1 (some .long) :: ws) ({ frames := 0, cells := 0, slots := 0, locals := 0 } : Room)) (fun a U => a = #[(.ref a1)] ∧ Z.Warmed39 U.vm ∧ U.heap = h0) (fun _ _ _ _ _ => True) (fun _ U o U' => ∃ v L, o = .returned v ∧ Q_own_ofM Z a1 p1 p2 h0 n0 v U'.heap L ∧ FrameEnd U o U' L ({ frames := 0, cells := 0, slots := 0, locals := 0 } : Room).cells ({ frames := 0, cells := 0, slots := 0, locals := 0 } : Room).slots) := by
  refine MetFree.of_bodySF (plainFor_of_name own_pn5) hisR ?_
  intro p e s m args below meth c s₁ Bd hml0 hP hK
  obtain ⟨rfl, hZ, hh⟩ := hP
  have hx := Bd.exec
  have hby := Bd.bytes
  have hml : c.maxLocals = 1 := hml0
  have hown : s.vm.findClass "com/example/keelstore/keelstore/StoreFile$Value" = some m.cls := findClass_of_methodNamed Bd.named
  have hnm := (name_of_methodNamed Bd.named Bd.method).1
  have X0 : Stand p l e ({ frames := 0, cells := 0, slots := 0, locals := 0 } : Room) s m #[(.ref a1)] below meth c s₁ [] 0 0 := Stand.of_body Bd
  have e0 : s₁.heap = h0 := by rw [← hh, Bd.state]; rfl
  have N0 := Fr.nil n0
  refine own_go (S := s₁.setTop (entryFrame m #[(.ref a1)] 1)) (Q := (G_own_ofM Z a1 p1 p2 h0 n0 s)) (fun _ k => castTop (own_ef_own_ofM m a1) k) ?_
  show own_Goes p e below (s₁.setTop (mkF m 0 #[.val (.ref a1)] [])) (G_own_ofM Z a1 p1 p2 h0 n0 s)
  refine own_go (fun _ k => XS.aloadN X0.here hx rfl (hb hby own_d5_0) rfl rfl k) ?_
  show own_Goes p e below (s₁.setTop (mkF m 1 #[.val (.ref a1)] [(.ref a1)])) (G_own_ofM Z a1 p1 p2 h0 n0 s)
  obtain ⟨T30, X30, e30, st30⟩ := getF X0 hx hZ hown (host := "") (Or.inl (hw _ (List.mem_of_getElem? (i := 18) rfl))) Via.refl e0 F_frame (g := (mkF m 1 #[.val (.ref a1)] [(.ref a1)])) rfl rfl (hb hby own_d5_1)
  refine own_go st30 ?_
  show own_Goes p e below (T30.setTop (mkF m 4 #[.val (.ref a1)] [(.long p1)])) (G_own_ofM Z a1 p1 p2 h0 n0 s)
  refine own_go (fun _ k => Jvm.Stand.ldc2J (own := "com/example/keelstore/keelstore/StoreFile$Value") (index := 25) (v := (19 : Int64)) X30 hx hown (mvT hZ (hw _ (List.mem_of_getElem? (i := 37) rfl))) rfl (hb hby own_d5_4) k) ?_
  show own_Goes p e below (T30.setTop (mkF m 7 #[.val (.ref a1)] [(.long (19 : Int64)), (.long p1)])) (G_own_ofM Z a1 p1 p2 h0 n0 s)
  refine own_go (fun _ k => XS.ladd X30.here hx rfl (hb hby own_d5_7) rfl k) ?_
  show own_Goes p e below (T30.setTop (mkF m 8 #[.val (.ref a1)] [(.long (p1 + (19 : Int64)))])) (G_own_ofM Z a1 p1 p2 h0 n0 s)
  refine own_go (fun _ k => XS.aloadN X30.here hx rfl (hb hby own_d5_8) rfl rfl k) ?_
  show own_Goes p e below (T30.setTop (mkF m 9 #[.val (.ref a1)] [(.ref a1), (.long (p1 + (19 : Int64)))])) (G_own_ofM Z a1 p1 p2 h0 n0 s)
  obtain ⟨T31, X31, e31, st31⟩ := getF X30 hx hZ hown (host := "") (Or.inl (hw _ (List.mem_of_getElem? (i := 20) rfl))) Via.refl e30 F_keyLength (g := (mkF m 9 #[.val (.ref a1)] [(.ref a1), (.long (p1 + (19 : Int64)))])) rfl rfl (hb hby own_d5_9)
  refine own_go st31 ?_
  show own_Goes p e below (T31.setTop (mkF m 12 #[.val (.ref a1)] [(.int p2), (.long (p1 + (19 : Int64)))])) (G_own_ofM Z a1 p1 p2 h0 n0 s)
  refine own_go (fun _ k => XS.i2l X31.here hx rfl (hb hby own_d5_12) rfl k) ?_
  show own_Goes p e below (T31.setTop (mkF m 13 #[.val (.ref a1)] [(.long (p2.toInt64)), (.long (p1 + (19 : Int64)))])) (G_own_ofM Z a1 p1 p2 h0 n0 s)
  refine own_go (fun _ k => XS.ladd X31.here hx rfl (hb hby own_d5_13) rfl k) ?_
  show own_Goes p e below (T31.setTop (mkF m 14 #[.val (.ref a1)] [(.long ((p1 + (19 : Int64)) + (p2.toInt64)))])) (G_own_ofM Z a1 p1 p2 h0 n0 s)
  obtain ⟨fs, hr, hrun, hended, hW, hsame⟩ := X31.leave (v := some (.long ((p1 + (19 : Int64)) + (p2.toInt64)))) (fun h => by rw [Bd.returns] at h; cases h)
  refine ⟨_, _, retOut X31 hx (t := .long) (i := .lreturn) Bd.returns rfl (Or.inr (Or.inl ⟨rfl, rfl, _, rfl⟩)) (hb hby own_d5_14) hr, hrun, hended, _, _, rfl, ?_, ⟨_, rfl⟩, hW, hsame.mono (by decide) (by decide)⟩
  show Q_own_ofM Z a1 p1 p2 h0 n0 _ T31.heap _
  rw [e31]
  exact ⟨rfl, N0, rfl⟩
theorem own_pn0 : plainName "com/example/keelstore/keelstore/ValueFrameLengthPinLaw" = true := by first | (simp [plainName, overriddenIn]; done) | decide +kernel
theorem own_ef_own_law (m : MethodId) (p1 : Int64) (p2 : Int32) (p3 : Int32) (p4 : Int32) (p5 : Int64) (p6 : Int32) : entryFrame m #[(.long p1), (.int p2), (.int p3), (.int p4), (.long p5), (.int p6)] maxLocals = (mkF m 0 #[.val (.long p1), .second, .val (.int p2), .val (.int p3), .val (.int p4), .val (.long p5), .second, .val (.int p6), .unset, .unset, .unset, .unset, .unset, .unset, .unset, .unset, .unset, .unset, .unset, .unset, .unset, .unset, .unset, .unset, .unset] []) := by first | (simp [entryFrame, mkF, argsToLocals, Value.category, maxLocals]; done) | rfl
def Q_own_law (Z : State) (p1 : Int64) (p2 : Int32) (p3 : Int32) (p4 : Int32) (p5 : Int64) (p6 : Int32) (h0 : Heap) (n0 : Nat) (v : Option Value) (h : Heap) (L : List Loc) : Prop := v = some (.int 1) ∧ Fr n0 L
def G_own_law (Z : State) (p1 : Int64) (p2 : Int32) (p3 : Int32) (p4 : Int32) (p5 : Int64) (p6 : Int32) (h0 : Heap) (n0 : Nat) (s : State) : Outcome → State → Prop := fun o U' => ∃ v L, o = .returned v ∧ Q_own_law Z p1 p2 p3 p4 p5 p6 h0 n0 v U'.heap L ∧ FrameEnd s o U' L room_1.cells room_1.slots
theorem own_pd1 : parseMethodDescriptor "(JIII)V" = some ⟨[.long, .int, .int, .int], none⟩ := by decide +kernel
theorem own_pd2 : parseMethodDescriptor "()J" = some ⟨[], some .long⟩ := by decide +kernel
set_option maxRecDepth 65536 in
set_option maxHeartbeats 40000000 in
theorem own_law (l : Launch) (Z : State) (a0 : Array Value) (hw : ∀ d ∈ tables_1, d.before a0 Z = true) (ws : List Jvm.Cond) (p1 : Int64) (p2 : Int32) (p3 : Int32) (p4 : Int32) (p5 : Int64) (p6 : Int32) (h0 : Heap) (n0 : Nat) (Z0 : n0 ≤ h0.size)  :
    MetFree l x (head1 (Jvm.Cond.code x code maxLocals ret :: ws) room_1) (fun a U => a = #[(.long p1), (.int p2), (.int p3), (.int p4), (.long p5), (.int p6)] ∧ Z.Warmed39 U.vm ∧ U.heap = h0) (fun _ _ _ _ _ => True) (fun _ U o U' => ∃ v L, o = .returned v ∧ Q_own_law Z p1 p2 p3 p4 p5 p6 h0 n0 v U'.heap L ∧ FrameEnd U o U' L room_1.cells room_1.slots) := by
  refine MetFree.of_bodySF (plainFor_of_name own_pn0) hisR ?_
  intro p e s m args below meth c s₁ Bd hml0 hP hK
  obtain ⟨rfl, hZ, hh⟩ := hP
  have hx := Bd.exec
  have hby := Bd.bytes
  have hml : c.maxLocals = 25 := hml0
  have hown : s.vm.findClass "com/example/keelstore/keelstore/ValueFrameLengthPinLaw" = some m.cls := findClass_of_methodNamed Bd.named
  have hnm := (name_of_methodNamed Bd.named Bd.method).1
  have X0 : Stand p l e room_1 s m #[(.long p1), (.int p2), (.int p3), (.int p4), (.long p5), (.int p6)] below meth c s₁ [] 0 0 := Stand.of_body Bd
  have e0 : s₁.heap = h0 := by rw [← hh, Bd.state]; rfl
  have N0 := Fr.nil n0
  refine own_go (S := s₁.setTop (entryFrame m #[(.long p1), (.int p2), (.int p3), (.int p4), (.long p5), (.int p6)] maxLocals)) (Q := (G_own_law Z p1 p2 p3 p4 p5 p6 h0 n0 s)) (fun _ k => castTop (own_ef_own_law m p1 p2 p3 p4 p5 p6) k) ?_
  show own_Goes p e below (s₁.setTop (mkF m 0 #[.val (.long p1), .second, .val (.int p2), .val (.int p3), .val (.int p4), .val (.long p5), .second, .val (.int p6), .unset, .unset, .unset, .unset, .unset, .unset, .unset, .unset, .unset, .unset, .unset, .unset, .unset, .unset, .unset, .unset, .unset] [])) (G_own_law Z p1 p2 p3 p4 p5 p6 h0 n0 s)
  refine own_go (fun _ k => XS.lloadN X0.here hx rfl (hb hby at_0) rfl k) ?_
  show own_Goes p e below (s₁.setTop (mkF m 1 #[.val (.long p1), .second, .val (.int p2), .val (.int p3), .val (.int p4), .val (.long p5), .second, .val (.int p6), .unset, .unset, .unset, .unset, .unset, .unset, .unset, .unset, .unset, .unset, .unset, .unset, .unset, .unset, .unset, .unset, .unset] [(.long p1)])) (G_own_law Z p1 p2 p3 p4 p5 p6 h0 n0 s)
  refine own_go (fun _ k => Jvm.Stand.ldc2J (own := "com/example/keelstore/keelstore/ValueFrameLengthPinLaw") (index := 9) (v := (9223372036854775807 : Int64)) X0 hx hown (mvT hZ (hw _ (List.mem_of_getElem? (i := 0) rfl))) rfl (hb hby at_1) k) ?_
  show own_Goes p e below (s₁.setTop (mkF m 4 #[.val (.long p1), .second, .val (.int p2), .val (.int p3), .val (.int p4), .val (.long p5), .second, .val (.int p6), .unset, .unset, .unset, .unset, .unset, .unset, .unset, .unset, .unset, .unset, .unset, .unset, .unset, .unset, .unset, .unset, .unset] [(.long (9223372036854775807 : Int64)), (.long p1)])) (G_own_law Z p1 p2 p3 p4 p5 p6 h0 n0 s)
  refine own_go (fun _ k => XS.land X0.here hx rfl (hb hby at_4) rfl k) ?_
  show own_Goes p e below (s₁.setTop (mkF m 5 #[.val (.long p1), .second, .val (.int p2), .val (.int p3), .val (.int p4), .val (.long p5), .second, .val (.int p6), .unset, .unset, .unset, .unset, .unset, .unset, .unset, .unset, .unset, .unset, .unset, .unset, .unset, .unset, .unset, .unset, .unset] [(.long (p1 &&& (9223372036854775807 : Int64)))])) (G_own_law Z p1 p2 p3 p4 p5 p6 h0 n0 s)
  refine own_go (fun _ k => XS.lstore X0.here hx rfl (hb hby at_5) rfl (l' := #[.val (.long p1), .second, .val (.int p2), .val (.int p3), .val (.int p4), .val (.long p5), .second, .val (.int p6), .val (.long (p1 &&& (9223372036854775807 : Int64))), .second, .unset, .unset, .unset, .unset, .unset, .unset, .unset, .unset, .unset, .unset, .unset, .unset, .unset, .unset, .unset]) rfl k) ?_
  show own_Goes p e below (s₁.setTop (mkF m 7 #[.val (.long p1), .second, .val (.int p2), .val (.int p3), .val (.int p4), .val (.long p5), .second, .val (.int p6), .val (.long (p1 &&& (9223372036854775807 : Int64))), .second, .unset, .unset, .unset, .unset, .unset, .unset, .unset, .unset, .unset, .unset, .unset, .unset, .unset, .unset, .unset] [])) (G_own_law Z p1 p2 p3 p4 p5 p6 h0 n0 s)
  refine own_go (fun _ k => XS.lload X0.here hx rfl (hb hby at_7) rfl k) ?_
  show own_Goes p e below (s₁.setTop (mkF m 9 #[.val (.long p1), .second, .val (.int p2), .val (.int p3), .val (.int p4), .val (.long p5), .second, .val (.int p6), .val (.long (p1 &&& (9223372036854775807 : Int64))), .second, .unset, .unset, .unset, .unset, .unset, .unset, .unset, .unset, .unset, .unset, .unset, .unset, .unset, .unset, .unset] [(.long p5)])) (G_own_law Z p1 p2 p3 p4 p5 p6 h0 n0 s)
  refine own_go (fun _ k => Jvm.Stand.ldc2J (own := "com/example/keelstore/keelstore/ValueFrameLengthPinLaw") (index := 9) (v := (9223372036854775807 : Int64)) X0 hx hown (mvT hZ (hw _ (List.mem_of_getElem? (i := 0) rfl))) rfl (hb hby at_9) k) ?_
  show own_Goes p e below (s₁.setTop (mkF m 12 #[.val (.long p1), .second, .val (.int p2), .val (.int p3), .val (.int p4), .val (.long p5), .second, .val (.int p6), .val (.long (p1 &&& (9223372036854775807 : Int64))), .second, .unset, .unset, .unset, .unset, .unset, .unset, .unset, .unset, .unset, .unset, .unset, .unset, .unset, .unset, .unset] [(.long (9223372036854775807 : Int64)), (.long p5)])) (G_own_law Z p1 p2 p3 p4 p5 p6 h0 n0 s)
  refine own_go (fun _ k => XS.land X0.here hx rfl (hb hby at_12) rfl k) ?_
  show own_Goes p e below (s₁.setTop (mkF m 13 #[.val (.long p1), .second, .val (.int p2), .val (.int p3), .val (.int p4), .val (.long p5), .second, .val (.int p6), .val (.long (p1 &&& (9223372036854775807 : Int64))), .second, .unset, .unset, .unset, .unset, .unset, .unset, .unset, .unset, .unset, .unset, .unset, .unset, .unset, .unset, .unset] [(.long (p5 &&& (9223372036854775807 : Int64)))])) (G_own_law Z p1 p2 p3 p4 p5 p6 h0 n0 s)
  refine own_go (fun _ k => XS.lstore X0.here hx rfl (hb hby at_13) rfl (l' := #[.val (.long p1), .second, .val (.int p2), .val (.int p3), .val (.int p4), .val (.long p5), .second, .val (.int p6), .val (.long (p1 &&& (9223372036854775807 : Int64))), .second, .val (.long (p5 &&& (9223372036854775807 : Int64))), .second, .unset, .unset, .unset, .unset, .unset, .unset, .unset, .unset, .unset, .unset, .unset, .unset, .unset]) rfl k) ?_
  show own_Goes p e below (s₁.setTop (mkF m 15 #[.val (.long p1), .second, .val (.int p2), .val (.int p3), .val (.int p4), .val (.long p5), .second, .val (.int p6), .val (.long (p1 &&& (9223372036854775807 : Int64))), .second, .val (.long (p5 &&& (9223372036854775807 : Int64))), .second, .unset, .unset, .unset, .unset, .unset, .unset, .unset, .unset, .unset, .unset, .unset, .unset, .unset] [])) (G_own_law Z p1 p2 p3 p4 p5 p6 h0 n0 s)
  refine own_go (fun _ k => XS.iloadN X0.here hx rfl (hb hby at_15) rfl k) ?_
  show own_Goes p e below (s₁.setTop (mkF m 16 #[.val (.long p1), .second, .val (.int p2), .val (.int p3), .val (.int p4), .val (.long p5), .second, .val (.int p6), .val (.long (p1 &&& (9223372036854775807 : Int64))), .second, .val (.long (p5 &&& (9223372036854775807 : Int64))), .second, .unset, .unset, .unset, .unset, .unset, .unset, .unset, .unset, .unset, .unset, .unset, .unset, .unset] [(.int p2)])) (G_own_law Z p1 p2 p3 p4 p5 p6 h0 n0 s)
  refine own_go (fun _ k => Jvm.Stand.ldcI (own := "com/example/keelstore/keelstore/ValueFrameLengthPinLaw") (index := 11) (v := (65535 : Int32)) X0 hx hown (mvT hZ (hw _ (List.mem_of_getElem? (i := 1) rfl))) rfl (hb hby at_16) k) ?_
  show own_Goes p e below (s₁.setTop (mkF m 18 #[.val (.long p1), .second, .val (.int p2), .val (.int p3), .val (.int p4), .val (.long p5), .second, .val (.int p6), .val (.long (p1 &&& (9223372036854775807 : Int64))), .second, .val (.long (p5 &&& (9223372036854775807 : Int64))), .second, .unset, .unset, .unset, .unset, .unset, .unset, .unset, .unset, .unset, .unset, .unset, .unset, .unset] [(.int (65535 : Int32)), (.int p2)])) (G_own_law Z p1 p2 p3 p4 p5 p6 h0 n0 s)
  refine own_go (fun _ k => XS.iand X0.here hx rfl (hb hby at_18) rfl k) ?_
  show own_Goes p e below (s₁.setTop (mkF m 19 #[.val (.long p1), .second, .val (.int p2), .val (.int p3), .val (.int p4), .val (.long p5), .second, .val (.int p6), .val (.long (p1 &&& (9223372036854775807 : Int64))), .second, .val (.long (p5 &&& (9223372036854775807 : Int64))), .second, .unset, .unset, .unset, .unset, .unset, .unset, .unset, .unset, .unset, .unset, .unset, .unset, .unset] [(.int (p2 &&& (65535 : Int32)))])) (G_own_law Z p1 p2 p3 p4 p5 p6 h0 n0 s)
  refine own_go (fun _ k => XS.istore X0.here hx rfl (hb hby at_19) rfl (l' := #[.val (.long p1), .second, .val (.int p2), .val (.int p3), .val (.int p4), .val (.long p5), .second, .val (.int p6), .val (.long (p1 &&& (9223372036854775807 : Int64))), .second, .val (.long (p5 &&& (9223372036854775807 : Int64))), .second, .val (.int (p2 &&& (65535 : Int32))), .unset, .unset, .unset, .unset, .unset, .unset, .unset, .unset, .unset, .unset, .unset, .unset]) rfl k) ?_
  show own_Goes p e below (s₁.setTop (mkF m 21 #[.val (.long p1), .second, .val (.int p2), .val (.int p3), .val (.int p4), .val (.long p5), .second, .val (.int p6), .val (.long (p1 &&& (9223372036854775807 : Int64))), .second, .val (.long (p5 &&& (9223372036854775807 : Int64))), .second, .val (.int (p2 &&& (65535 : Int32))), .unset, .unset, .unset, .unset, .unset, .unset, .unset, .unset, .unset, .unset, .unset, .unset] [])) (G_own_law Z p1 p2 p3 p4 p5 p6 h0 n0 s)
  refine own_go (fun _ k => XS.iloadN X0.here hx rfl (hb hby at_21) rfl k) ?_
  show own_Goes p e below (s₁.setTop (mkF m 22 #[.val (.long p1), .second, .val (.int p2), .val (.int p3), .val (.int p4), .val (.long p5), .second, .val (.int p6), .val (.long (p1 &&& (9223372036854775807 : Int64))), .second, .val (.long (p5 &&& (9223372036854775807 : Int64))), .second, .val (.int (p2 &&& (65535 : Int32))), .unset, .unset, .unset, .unset, .unset, .unset, .unset, .unset, .unset, .unset, .unset, .unset] [(.int p3)])) (G_own_law Z p1 p2 p3 p4 p5 p6 h0 n0 s)
  refine own_go (fun _ k => Jvm.Stand.ldcI (own := "com/example/keelstore/keelstore/ValueFrameLengthPinLaw") (index := 12) (v := (2147483647 : Int32)) X0 hx hown (mvT hZ (hw _ (List.mem_of_getElem? (i := 2) rfl))) rfl (hb hby at_22) k) ?_
  show own_Goes p e below (s₁.setTop (mkF m 24 #[.val (.long p1), .second, .val (.int p2), .val (.int p3), .val (.int p4), .val (.long p5), .second, .val (.int p6), .val (.long (p1 &&& (9223372036854775807 : Int64))), .second, .val (.long (p5 &&& (9223372036854775807 : Int64))), .second, .val (.int (p2 &&& (65535 : Int32))), .unset, .unset, .unset, .unset, .unset, .unset, .unset, .unset, .unset, .unset, .unset, .unset] [(.int (2147483647 : Int32)), (.int p3)])) (G_own_law Z p1 p2 p3 p4 p5 p6 h0 n0 s)
  refine own_go (fun _ k => XS.iand X0.here hx rfl (hb hby at_24) rfl k) ?_
  show own_Goes p e below (s₁.setTop (mkF m 25 #[.val (.long p1), .second, .val (.int p2), .val (.int p3), .val (.int p4), .val (.long p5), .second, .val (.int p6), .val (.long (p1 &&& (9223372036854775807 : Int64))), .second, .val (.long (p5 &&& (9223372036854775807 : Int64))), .second, .val (.int (p2 &&& (65535 : Int32))), .unset, .unset, .unset, .unset, .unset, .unset, .unset, .unset, .unset, .unset, .unset, .unset] [(.int (p3 &&& (2147483647 : Int32)))])) (G_own_law Z p1 p2 p3 p4 p5 p6 h0 n0 s)
  refine own_go (fun _ k => Jvm.Stand.ldcI (own := "com/example/keelstore/keelstore/ValueFrameLengthPinLaw") (index := 15) (v := (2147483640 : Int32)) X0 hx hown (mvT hZ (hw _ (List.mem_of_getElem? (i := 3) rfl))) rfl (hb hby at_25) k) ?_
  show own_Goes p e below (s₁.setTop (mkF m 27 #[.val (.long p1), .second, .val (.int p2), .val (.int p3), .val (.int p4), .val (.long p5), .second, .val (.int p6), .val (.long (p1 &&& (9223372036854775807 : Int64))), .second, .val (.long (p5 &&& (9223372036854775807 : Int64))), .second, .val (.int (p2 &&& (65535 : Int32))), .unset, .unset, .unset, .unset, .unset, .unset, .unset, .unset, .unset, .unset, .unset, .unset] [(.int (2147483640 : Int32)), (.int (p3 &&& (2147483647 : Int32)))])) (G_own_law Z p1 p2 p3 p4 p5 p6 h0 n0 s)
  refine own_go (fun _ k => iremM X0 hx rfl (hb hby at_27) rfl (by decide) k) ?_
  show own_Goes p e below (s₁.setTop (mkF m 28 #[.val (.long p1), .second, .val (.int p2), .val (.int p3), .val (.int p4), .val (.long p5), .second, .val (.int p6), .val (.long (p1 &&& (9223372036854775807 : Int64))), .second, .val (.long (p5 &&& (9223372036854775807 : Int64))), .second, .val (.int (p2 &&& (65535 : Int32))), .unset, .unset, .unset, .unset, .unset, .unset, .unset, .unset, .unset, .unset, .unset, .unset] [(.int ((p3 &&& (2147483647 : Int32)) % (2147483640 : Int32)))])) (G_own_law Z p1 p2 p3 p4 p5 p6 h0 n0 s)
  refine own_go (fun _ k => XS.istore X0.here hx rfl (hb hby at_28) rfl (l' := #[.val (.long p1), .second, .val (.int p2), .val (.int p3), .val (.int p4), .val (.long p5), .second, .val (.int p6), .val (.long (p1 &&& (9223372036854775807 : Int64))), .second, .val (.long (p5 &&& (9223372036854775807 : Int64))), .second, .val (.int (p2 &&& (65535 : Int32))), .val (.int ((p3 &&& (2147483647 : Int32)) % (2147483640 : Int32))), .unset, .unset, .unset, .unset, .unset, .unset, .unset, .unset, .unset, .unset, .unset]) rfl k) ?_
  show own_Goes p e below (s₁.setTop (mkF m 30 #[.val (.long p1), .second, .val (.int p2), .val (.int p3), .val (.int p4), .val (.long p5), .second, .val (.int p6), .val (.long (p1 &&& (9223372036854775807 : Int64))), .second, .val (.long (p5 &&& (9223372036854775807 : Int64))), .second, .val (.int (p2 &&& (65535 : Int32))), .val (.int ((p3 &&& (2147483647 : Int32)) % (2147483640 : Int32))), .unset, .unset, .unset, .unset, .unset, .unset, .unset, .unset, .unset, .unset, .unset] [])) (G_own_law Z p1 p2 p3 p4 p5 p6 h0 n0 s)
  obtain ⟨ff, h_ff⟩ : ∃ z : Int64, z = (p1 &&& (9223372036854775807 : Int64)) := ⟨_, rfl⟩
  rw [← h_ff]
  show own_Goes p e below (s₁.setTop (mkF m 30 #[.val (.long p1), .second, .val (.int p2), .val (.int p3), .val (.int p4), .val (.long p5), .second, .val (.int p6), .val (.long ff), .second, .val (.long (p5 &&& (9223372036854775807 : Int64))), .second, .val (.int (p2 &&& (65535 : Int32))), .val (.int ((p3 &&& (2147483647 : Int32)) % (2147483640 : Int32))), .unset, .unset, .unset, .unset, .unset, .unset, .unset, .unset, .unset, .unset, .unset] [])) (G_own_law Z p1 p2 p3 p4 p5 p6 h0 n0 s)
  obtain ⟨gg, h_gg⟩ : ∃ z : Int64, z = (p5 &&& (9223372036854775807 : Int64)) := ⟨_, rfl⟩
  rw [← h_gg]
  show own_Goes p e below (s₁.setTop (mkF m 30 #[.val (.long p1), .second, .val (.int p2), .val (.int p3), .val (.int p4), .val (.long p5), .second, .val (.int p6), .val (.long ff), .second, .val (.long gg), .second, .val (.int (p2 &&& (65535 : Int32))), .val (.int ((p3 &&& (2147483647 : Int32)) % (2147483640 : Int32))), .unset, .unset, .unset, .unset, .unset, .unset, .unset, .unset, .unset, .unset, .unset] [])) (G_own_law Z p1 p2 p3 p4 p5 p6 h0 n0 s)
  obtain ⟨kk, h_kk⟩ : ∃ z : Int32, z = (p2 &&& (65535 : Int32)) := ⟨_, rfl⟩
  rw [← h_kk]
  show own_Goes p e below (s₁.setTop (mkF m 30 #[.val (.long p1), .second, .val (.int p2), .val (.int p3), .val (.int p4), .val (.long p5), .second, .val (.int p6), .val (.long ff), .second, .val (.long gg), .second, .val (.int kk), .val (.int ((p3 &&& (2147483647 : Int32)) % (2147483640 : Int32))), .unset, .unset, .unset, .unset, .unset, .unset, .unset, .unset, .unset, .unset, .unset] [])) (G_own_law Z p1 p2 p3 p4 p5 p6 h0 n0 s)
  obtain ⟨nn, h_nn⟩ : ∃ z : Int32, z = ((p3 &&& (2147483647 : Int32)) % (2147483640 : Int32)) := ⟨_, rfl⟩
  rw [← h_nn]
  show own_Goes p e below (s₁.setTop (mkF m 30 #[.val (.long p1), .second, .val (.int p2), .val (.int p3), .val (.int p4), .val (.long p5), .second, .val (.int p6), .val (.long ff), .second, .val (.long gg), .second, .val (.int kk), .val (.int nn), .unset, .unset, .unset, .unset, .unset, .unset, .unset, .unset, .unset, .unset, .unset] [])) (G_own_law Z p1 p2 p3 p4 p5 p6 h0 n0 s)
  have hkk : 0 ≤ kk.toInt ∧ kk.toInt < 65536 := by rw [h_kk]; exact own_kk _
  obtain ⟨T32, h32, X32, e32, E32, A32, D32, -, st32⟩ := newO X0 hx hZ hown (hw _ (List.mem_of_getElem? (i := 4) rfl)) (hw _ (List.mem_of_getElem? (i := 5) rfl)) (hw _ (List.mem_of_getElem? (i := 6) rfl)) e0 (g := (mkF m 30 #[.val (.long p1), .second, .val (.int p2), .val (.int p3), .val (.int p4), .val (.long p5), .second, .val (.int p6), .val (.long ff), .second, .val (.long gg), .second, .val (.int kk), .val (.int nn), .unset, .unset, .unset, .unset, .unset, .unset, .unset, .unset, .unset, .unset, .unset] [])) rfl (hb hby at_30) (by decide) (by decide)
  obtain ⟨b32, g32⟩ : ∃ z, z = h0.size := ⟨_, rfl⟩
  rw [← g32] at A32 D32 st32
  have g_b32 : n0 ≤ b32 := by rw [g32]; exact Z0
  have Z32 : n0 ≤ h32.size := Nat.le_trans Z0 E32.1
  have F_34 : Fld Z h32 b32 "com/example/keelstore/keelstore/StoreFile$Value" "frame" "J" (.long (0 : Int64)) := D32 (Or.inr (hw _ (List.mem_of_getElem? (i := 19) rfl))) (ty := .long) (by decide)
  have F_35 : Fld Z h32 b32 "com/example/keelstore/keelstore/StoreFile$Value" "keyLength" "I" (.int (0 : Int32)) := D32 (Or.inr (hw _ (List.mem_of_getElem? (i := 21) rfl))) (ty := .int) (by decide)
  have F_36 : Fld Z h32 b32 "com/example/keelstore/keelstore/StoreFile$Value" "length" "I" (.int (0 : Int32)) := D32 (Or.inr (hw _ (List.mem_of_getElem? (i := 23) rfl))) (ty := .int) (by decide)
  have F_37 : Fld Z h32 b32 "com/example/keelstore/keelstore/StoreFile$Value" "checksum" "I" (.int (0 : Int32)) := D32 (Or.inr (hw _ (List.mem_of_getElem? (i := 25) rfl))) (ty := .int) (by decide)
  refine own_go st32 ?_
  show own_Goes p e below (T32.setTop (mkF m 33 #[.val (.long p1), .second, .val (.int p2), .val (.int p3), .val (.int p4), .val (.long p5), .second, .val (.int p6), .val (.long ff), .second, .val (.long gg), .second, .val (.int kk), .val (.int nn), .unset, .unset, .unset, .unset, .unset, .unset, .unset, .unset, .unset, .unset, .unset] [(.ref b32)])) (G_own_law Z p1 p2 p3 p4 p5 p6 h0 n0 s)
  refine own_go (fun _ k => XS.dup X32.here hx rfl (hb hby at_33) rfl rfl k) ?_
  show own_Goes p e below (T32.setTop (mkF m 34 #[.val (.long p1), .second, .val (.int p2), .val (.int p3), .val (.int p4), .val (.long p5), .second, .val (.int p6), .val (.long ff), .second, .val (.long gg), .second, .val (.int kk), .val (.int nn), .unset, .unset, .unset, .unset, .unset, .unset, .unset, .unset, .unset, .unset, .unset] [(.ref b32), (.ref b32)])) (G_own_law Z p1 p2 p3 p4 p5 p6 h0 n0 s)
  refine own_go (fun _ k => XS.lload X32.here hx rfl (hb hby at_34) rfl k) ?_
  show own_Goes p e below (T32.setTop (mkF m 36 #[.val (.long p1), .second, .val (.int p2), .val (.int p3), .val (.int p4), .val (.long p5), .second, .val (.int p6), .val (.long ff), .second, .val (.long gg), .second, .val (.int kk), .val (.int nn), .unset, .unset, .unset, .unset, .unset, .unset, .unset, .unset, .unset, .unset, .unset] [(.long ff), (.ref b32), (.ref b32)])) (G_own_law Z p1 p2 p3 p4 p5 p6 h0 n0 s)
  refine own_go (fun _ k => XS.iload X32.here hx rfl (hb hby at_36) rfl k) ?_
  show own_Goes p e below (T32.setTop (mkF m 38 #[.val (.long p1), .second, .val (.int p2), .val (.int p3), .val (.int p4), .val (.long p5), .second, .val (.int p6), .val (.long ff), .second, .val (.long gg), .second, .val (.int kk), .val (.int nn), .unset, .unset, .unset, .unset, .unset, .unset, .unset, .unset, .unset, .unset, .unset] [(.int kk), (.long ff), (.ref b32), (.ref b32)])) (G_own_law Z p1 p2 p3 p4 p5 p6 h0 n0 s)
  refine own_go (fun _ k => XS.iload X32.here hx rfl (hb hby at_38) rfl k) ?_
  show own_Goes p e below (T32.setTop (mkF m 40 #[.val (.long p1), .second, .val (.int p2), .val (.int p3), .val (.int p4), .val (.long p5), .second, .val (.int p6), .val (.long ff), .second, .val (.long gg), .second, .val (.int kk), .val (.int nn), .unset, .unset, .unset, .unset, .unset, .unset, .unset, .unset, .unset, .unset, .unset] [(.int nn), (.int kk), (.long ff), (.ref b32), (.ref b32)])) (G_own_law Z p1 p2 p3 p4 p5 p6 h0 n0 s)
  refine own_go (fun _ k => XS.iload X32.here hx rfl (hb hby at_40) rfl k) ?_
  show own_Goes p e below (T32.setTop (mkF m 42 #[.val (.long p1), .second, .val (.int p2), .val (.int p3), .val (.int p4), .val (.long p5), .second, .val (.int p6), .val (.long ff), .second, .val (.long gg), .second, .val (.int kk), .val (.int nn), .unset, .unset, .unset, .unset, .unset, .unset, .unset, .unset, .unset, .unset, .unset] [(.int p4), (.int nn), (.int kk), (.long ff), (.ref b32), (.ref b32)])) (G_own_law Z p1 p2 p3 p4 p5 p6 h0 n0 s)
  obtain ⟨_, _, ⟨T38, L38, k38, n38⟩, -, X38, ⟨Lc38, hQ38, l38, y38, z38⟩, st38⟩ := X32.specialBack hx (y := (⟨"com/example/keelstore/keelstore/StoreFile$Value", "<init>", "(JIII)V"⟩ : MethodName)) rfl hown (mvT hZ (hw _ (List.mem_of_getElem? (i := 7) rfl))) (mvT hZ (hw _ (List.mem_of_getElem? (i := 8) rfl))) (mvT hZ (hw _ (List.mem_of_getElem? (i := 9) rfl))) (by decide) (backOf (W := 1) (own_iniM l Z a0 hw [] b32 ff kk nn p4 h32 n0 Z32 A32 g_b32 F_34 F_35 F_36 F_37) hZ (hw _ (List.mem_of_getElem? (i := 9) rfl)) (hw _ (List.mem_of_getElem? (i := 6) rfl)) (by decide) (by decide)) (g := (mkF m 42 #[.val (.long p1), .second, .val (.int p2), .val (.int p3), .val (.int p4), .val (.long p5), .second, .val (.int p6), .val (.long ff), .second, .val (.long gg), .second, .val (.int kk), .val (.int nn), .unset, .unset, .unset, .unset, .unset, .unset, .unset, .unset, .unset, .unset, .unset] [(.int p4), (.int nn), (.int kk), (.long ff), (.ref b32), (.ref b32)])) rfl (by rw [hml]; rfl) (Steps.refl _) (a := b32) (argsL := [(.long ff), (.int kk), (.int nn), (.int p4)]) (rest := [(.ref b32)]) (lenOf own_pd1 rfl) rfl (by show 2 * 0 + _ ≤ _; exact Nat.le_of_eq rfl) (hb hby at_42) (fun _ _ => ⟨rfl, e32, (by decide : 1 + 0 ≤ _), (by decide : 4 + 0 ≤ _)⟩)
  dsimp only [Pt.U, Pt.locs, Pt.cells, Pt.slots] at X38 l38 y38 z38 st38 hQ38
  subst l38 y38 z38
  obtain ⟨rfl, N38q, Kq38, Fa38, Fb38, Fc38⟩ := hQ38
  have N38 := Fr.app N0 N38q
  have A32_39 := A32.keep Kq38
  have Z38 : n0 ≤ T38.heap.size := Nat.le_trans Z32 Kq38.1
  refine own_go (fun _ k => st38.trans k) ?_
  show own_Goes p e below (T38.setTop (mkF m 45 #[.val (.long p1), .second, .val (.int p2), .val (.int p3), .val (.int p4), .val (.long p5), .second, .val (.int p6), .val (.long ff), .second, .val (.long gg), .second, .val (.int kk), .val (.int nn), .unset, .unset, .unset, .unset, .unset, .unset, .unset, .unset, .unset, .unset, .unset] [(.ref b32)])) (G_own_law Z p1 p2 p3 p4 p5 p6 h0 n0 s)
  refine own_go (fun _ k => XS.astore X38.here hx rfl (hb hby at_45) rfl rfl (l' := #[.val (.long p1), .second, .val (.int p2), .val (.int p3), .val (.int p4), .val (.long p5), .second, .val (.int p6), .val (.long ff), .second, .val (.long gg), .second, .val (.int kk), .val (.int nn), .val (.ref b32), .unset, .unset, .unset, .unset, .unset, .unset, .unset, .unset, .unset, .unset]) rfl k) ?_
  show own_Goes p e below (T38.setTop (mkF m 47 #[.val (.long p1), .second, .val (.int p2), .val (.int p3), .val (.int p4), .val (.long p5), .second, .val (.int p6), .val (.long ff), .second, .val (.long gg), .second, .val (.int kk), .val (.int nn), .val (.ref b32), .unset, .unset, .unset, .unset, .unset, .unset, .unset, .unset, .unset, .unset] [])) (G_own_law Z p1 p2 p3 p4 p5 p6 h0 n0 s)
  obtain ⟨T44, h44, X44, e44, E44, A44, D44, -, st44⟩ := newO X38 hx hZ hown (hw _ (List.mem_of_getElem? (i := 4) rfl)) (hw _ (List.mem_of_getElem? (i := 5) rfl)) (hw _ (List.mem_of_getElem? (i := 6) rfl)) rfl (g := (mkF m 47 #[.val (.long p1), .second, .val (.int p2), .val (.int p3), .val (.int p4), .val (.long p5), .second, .val (.int p6), .val (.long ff), .second, .val (.long gg), .second, .val (.int kk), .val (.int nn), .val (.ref b32), .unset, .unset, .unset, .unset, .unset, .unset, .unset, .unset, .unset, .unset] [])) rfl (hb hby at_47) (by decide) (by decide)
  obtain ⟨b44, g44⟩ : ∃ z, z = T38.heap.size := ⟨_, rfl⟩
  rw [← g44] at A44 D44 st44
  have ne_b32_b44 : b32 ≠ b44 := by rw [g44]; exact Nat.ne_of_lt A32_39.lt
  have A32_46 := A32_39.ext E44
  have Fa38_47 := Fa38.ext E44
  have Fb38_48 := Fb38.ext E44
  have Fc38_49 := Fc38.ext E44
  have g_b44 : n0 ≤ b44 := by rw [g44]; exact Z38
  have Z44 : n0 ≤ h44.size := Nat.le_trans Z38 E44.1
  have F_50 : Fld Z h44 b44 "com/example/keelstore/keelstore/StoreFile$Value" "frame" "J" (.long (0 : Int64)) := D44 (Or.inr (hw _ (List.mem_of_getElem? (i := 19) rfl))) (ty := .long) (by decide)
  have F_51 : Fld Z h44 b44 "com/example/keelstore/keelstore/StoreFile$Value" "keyLength" "I" (.int (0 : Int32)) := D44 (Or.inr (hw _ (List.mem_of_getElem? (i := 21) rfl))) (ty := .int) (by decide)
  have F_52 : Fld Z h44 b44 "com/example/keelstore/keelstore/StoreFile$Value" "length" "I" (.int (0 : Int32)) := D44 (Or.inr (hw _ (List.mem_of_getElem? (i := 23) rfl))) (ty := .int) (by decide)
  have F_53 : Fld Z h44 b44 "com/example/keelstore/keelstore/StoreFile$Value" "checksum" "I" (.int (0 : Int32)) := D44 (Or.inr (hw _ (List.mem_of_getElem? (i := 25) rfl))) (ty := .int) (by decide)
  refine own_go st44 ?_
  show own_Goes p e below (T44.setTop (mkF m 50 #[.val (.long p1), .second, .val (.int p2), .val (.int p3), .val (.int p4), .val (.long p5), .second, .val (.int p6), .val (.long ff), .second, .val (.long gg), .second, .val (.int kk), .val (.int nn), .val (.ref b32), .unset, .unset, .unset, .unset, .unset, .unset, .unset, .unset, .unset, .unset] [(.ref b44)])) (G_own_law Z p1 p2 p3 p4 p5 p6 h0 n0 s)
  refine own_go (fun _ k => XS.dup X44.here hx rfl (hb hby at_50) rfl rfl k) ?_
  show own_Goes p e below (T44.setTop (mkF m 51 #[.val (.long p1), .second, .val (.int p2), .val (.int p3), .val (.int p4), .val (.long p5), .second, .val (.int p6), .val (.long ff), .second, .val (.long gg), .second, .val (.int kk), .val (.int nn), .val (.ref b32), .unset, .unset, .unset, .unset, .unset, .unset, .unset, .unset, .unset, .unset] [(.ref b44), (.ref b44)])) (G_own_law Z p1 p2 p3 p4 p5 p6 h0 n0 s)
  refine own_go (fun _ k => XS.lload X44.here hx rfl (hb hby at_51) rfl k) ?_
  show own_Goes p e below (T44.setTop (mkF m 53 #[.val (.long p1), .second, .val (.int p2), .val (.int p3), .val (.int p4), .val (.long p5), .second, .val (.int p6), .val (.long ff), .second, .val (.long gg), .second, .val (.int kk), .val (.int nn), .val (.ref b32), .unset, .unset, .unset, .unset, .unset, .unset, .unset, .unset, .unset, .unset] [(.long gg), (.ref b44), (.ref b44)])) (G_own_law Z p1 p2 p3 p4 p5 p6 h0 n0 s)
  refine own_go (fun _ k => XS.iload X44.here hx rfl (hb hby at_53) rfl k) ?_
  show own_Goes p e below (T44.setTop (mkF m 55 #[.val (.long p1), .second, .val (.int p2), .val (.int p3), .val (.int p4), .val (.long p5), .second, .val (.int p6), .val (.long ff), .second, .val (.long gg), .second, .val (.int kk), .val (.int nn), .val (.ref b32), .unset, .unset, .unset, .unset, .unset, .unset, .unset, .unset, .unset, .unset] [(.int kk), (.long gg), (.ref b44), (.ref b44)])) (G_own_law Z p1 p2 p3 p4 p5 p6 h0 n0 s)
  refine own_go (fun _ k => XS.iload X44.here hx rfl (hb hby at_55) rfl k) ?_
  show own_Goes p e below (T44.setTop (mkF m 57 #[.val (.long p1), .second, .val (.int p2), .val (.int p3), .val (.int p4), .val (.long p5), .second, .val (.int p6), .val (.long ff), .second, .val (.long gg), .second, .val (.int kk), .val (.int nn), .val (.ref b32), .unset, .unset, .unset, .unset, .unset, .unset, .unset, .unset, .unset, .unset] [(.int nn), (.int kk), (.long gg), (.ref b44), (.ref b44)])) (G_own_law Z p1 p2 p3 p4 p5 p6 h0 n0 s)
  refine own_go (fun _ k => XS.iload X44.here hx rfl (hb hby at_57) rfl k) ?_
  show own_Goes p e below (T44.setTop (mkF m 59 #[.val (.long p1), .second, .val (.int p2), .val (.int p3), .val (.int p4), .val (.long p5), .second, .val (.int p6), .val (.long ff), .second, .val (.long gg), .second, .val (.int kk), .val (.int nn), .val (.ref b32), .unset, .unset, .unset, .unset, .unset, .unset, .unset, .unset, .unset, .unset] [(.int p6), (.int nn), (.int kk), (.long gg), (.ref b44), (.ref b44)])) (G_own_law Z p1 p2 p3 p4 p5 p6 h0 n0 s)
  obtain ⟨_, _, ⟨T54, L54, k54, n54⟩, -, X54, ⟨Lc54, hQ54, l54, y54, z54⟩, st54⟩ := X44.specialBack hx (y := (⟨"com/example/keelstore/keelstore/StoreFile$Value", "<init>", "(JIII)V"⟩ : MethodName)) rfl hown (mvT hZ (hw _ (List.mem_of_getElem? (i := 7) rfl))) (mvT hZ (hw _ (List.mem_of_getElem? (i := 8) rfl))) (mvT hZ (hw _ (List.mem_of_getElem? (i := 9) rfl))) (by decide) (backOf (W := 1) (own_iniM l Z a0 hw [] b44 gg kk nn p6 h44 n0 Z44 A44 g_b44 F_50 F_51 F_52 F_53) hZ (hw _ (List.mem_of_getElem? (i := 9) rfl)) (hw _ (List.mem_of_getElem? (i := 6) rfl)) (by decide) (by decide)) (g := (mkF m 59 #[.val (.long p1), .second, .val (.int p2), .val (.int p3), .val (.int p4), .val (.long p5), .second, .val (.int p6), .val (.long ff), .second, .val (.long gg), .second, .val (.int kk), .val (.int nn), .val (.ref b32), .unset, .unset, .unset, .unset, .unset, .unset, .unset, .unset, .unset, .unset] [(.int p6), (.int nn), (.int kk), (.long gg), (.ref b44), (.ref b44)])) rfl (by rw [hml]; rfl) (Steps.refl _) (a := b44) (argsL := [(.long gg), (.int kk), (.int nn), (.int p6)]) (rest := [(.ref b44)]) (lenOf own_pd1 rfl) rfl (by show 2 * 0 + _ ≤ _; exact Nat.le_of_eq rfl) (hb hby at_59) (fun _ _ => ⟨rfl, e44, (by decide : 2 + 0 ≤ _), (by decide : 8 + 0 ≤ _)⟩)
  dsimp only [Pt.U, Pt.locs, Pt.cells, Pt.slots] at X54 l54 y54 z54 st54 hQ54
  subst l54 y54 z54
  obtain ⟨rfl, N54q, Kq54, Fa54, Fb54, Fc54⟩ := hQ54
  have N54 := Fr.app N38 N54q
  have A32_55 := A32_46.keep Kq54
  have Fa38_56 := Fa38_47.keep Kq54 (ninS ne_b32_b44 nin0)
  have Fb38_57 := Fb38_48.keep Kq54 (ninS ne_b32_b44 nin0)
  have Fc38_58 := Fc38_49.keep Kq54 (ninS ne_b32_b44 nin0)
  have A44_59 := A44.keep Kq54
  have Z54 : n0 ≤ T54.heap.size := Nat.le_trans Z44 Kq54.1
  refine own_go (fun _ k => st54.trans k) ?_
  show own_Goes p e below (T54.setTop (mkF m 62 #[.val (.long p1), .second, .val (.int p2), .val (.int p3), .val (.int p4), .val (.long p5), .second, .val (.int p6), .val (.long ff), .second, .val (.long gg), .second, .val (.int kk), .val (.int nn), .val (.ref b32), .unset, .unset, .unset, .unset, .unset, .unset, .unset, .unset, .unset, .unset] [(.ref b44)])) (G_own_law Z p1 p2 p3 p4 p5 p6 h0 n0 s)
  refine own_go (fun _ k => XS.astore X54.here hx rfl (hb hby at_62) rfl rfl (l' := #[.val (.long p1), .second, .val (.int p2), .val (.int p3), .val (.int p4), .val (.long p5), .second, .val (.int p6), .val (.long ff), .second, .val (.long gg), .second, .val (.int kk), .val (.int nn), .val (.ref b32), .val (.ref b44), .unset, .unset, .unset, .unset, .unset, .unset, .unset, .unset, .unset]) rfl k) ?_
  show own_Goes p e below (T54.setTop (mkF m 64 #[.val (.long p1), .second, .val (.int p2), .val (.int p3), .val (.int p4), .val (.long p5), .second, .val (.int p6), .val (.long ff), .second, .val (.long gg), .second, .val (.int kk), .val (.int nn), .val (.ref b32), .val (.ref b44), .unset, .unset, .unset, .unset, .unset, .unset, .unset, .unset, .unset] [])) (G_own_law Z p1 p2 p3 p4 p5 p6 h0 n0 s)
  obtain ⟨T64, h64, X64, e64, E64, A64, D64, -, st64⟩ := newO X54 hx hZ hown (hw _ (List.mem_of_getElem? (i := 4) rfl)) (hw _ (List.mem_of_getElem? (i := 5) rfl)) (hw _ (List.mem_of_getElem? (i := 6) rfl)) rfl (g := (mkF m 64 #[.val (.long p1), .second, .val (.int p2), .val (.int p3), .val (.int p4), .val (.long p5), .second, .val (.int p6), .val (.long ff), .second, .val (.long gg), .second, .val (.int kk), .val (.int nn), .val (.ref b32), .val (.ref b44), .unset, .unset, .unset, .unset, .unset, .unset, .unset, .unset, .unset] [])) rfl (hb hby at_64) (by decide) (by decide)
  obtain ⟨b64, g64⟩ : ∃ z, z = T54.heap.size := ⟨_, rfl⟩
  rw [← g64] at A64 D64 st64
  have ne_b32_b64 : b32 ≠ b64 := by rw [g64]; exact Nat.ne_of_lt A32_55.lt
  have ne_b44_b64 : b44 ≠ b64 := by rw [g64]; exact Nat.ne_of_lt A44_59.lt
  have A32_66 := A32_55.ext E64
  have Fa38_67 := Fa38_56.ext E64
  have Fb38_68 := Fb38_57.ext E64
  have Fc38_69 := Fc38_58.ext E64
  have A44_70 := A44_59.ext E64
  have Fa54_71 := Fa54.ext E64
  have Fb54_72 := Fb54.ext E64
  have Fc54_73 := Fc54.ext E64
  have g_b64 : n0 ≤ b64 := by rw [g64]; exact Z54
  have Z64 : n0 ≤ h64.size := Nat.le_trans Z54 E64.1
  have F_74 : Fld Z h64 b64 "com/example/keelstore/keelstore/StoreFile$Value" "frame" "J" (.long (0 : Int64)) := D64 (Or.inr (hw _ (List.mem_of_getElem? (i := 19) rfl))) (ty := .long) (by decide)
  have F_75 : Fld Z h64 b64 "com/example/keelstore/keelstore/StoreFile$Value" "keyLength" "I" (.int (0 : Int32)) := D64 (Or.inr (hw _ (List.mem_of_getElem? (i := 21) rfl))) (ty := .int) (by decide)
  have F_76 : Fld Z h64 b64 "com/example/keelstore/keelstore/StoreFile$Value" "length" "I" (.int (0 : Int32)) := D64 (Or.inr (hw _ (List.mem_of_getElem? (i := 23) rfl))) (ty := .int) (by decide)
  have F_77 : Fld Z h64 b64 "com/example/keelstore/keelstore/StoreFile$Value" "checksum" "I" (.int (0 : Int32)) := D64 (Or.inr (hw _ (List.mem_of_getElem? (i := 25) rfl))) (ty := .int) (by decide)
  refine own_go st64 ?_
  show own_Goes p e below (T64.setTop (mkF m 67 #[.val (.long p1), .second, .val (.int p2), .val (.int p3), .val (.int p4), .val (.long p5), .second, .val (.int p6), .val (.long ff), .second, .val (.long gg), .second, .val (.int kk), .val (.int nn), .val (.ref b32), .val (.ref b44), .unset, .unset, .unset, .unset, .unset, .unset, .unset, .unset, .unset] [(.ref b64)])) (G_own_law Z p1 p2 p3 p4 p5 p6 h0 n0 s)
  refine own_go (fun _ k => XS.dup X64.here hx rfl (hb hby at_67) rfl rfl k) ?_
  show own_Goes p e below (T64.setTop (mkF m 68 #[.val (.long p1), .second, .val (.int p2), .val (.int p3), .val (.int p4), .val (.long p5), .second, .val (.int p6), .val (.long ff), .second, .val (.long gg), .second, .val (.int kk), .val (.int nn), .val (.ref b32), .val (.ref b44), .unset, .unset, .unset, .unset, .unset, .unset, .unset, .unset, .unset] [(.ref b64), (.ref b64)])) (G_own_law Z p1 p2 p3 p4 p5 p6 h0 n0 s)
  refine own_go (fun _ k => XS.lload X64.here hx rfl (hb hby at_68) rfl k) ?_
  show own_Goes p e below (T64.setTop (mkF m 70 #[.val (.long p1), .second, .val (.int p2), .val (.int p3), .val (.int p4), .val (.long p5), .second, .val (.int p6), .val (.long ff), .second, .val (.long gg), .second, .val (.int kk), .val (.int nn), .val (.ref b32), .val (.ref b44), .unset, .unset, .unset, .unset, .unset, .unset, .unset, .unset, .unset] [(.long gg), (.ref b64), (.ref b64)])) (G_own_law Z p1 p2 p3 p4 p5 p6 h0 n0 s)
  refine own_go (fun _ k => XS.iconst X64.here hx rfl (hb hby at_70) k) ?_
  show own_Goes p e below (T64.setTop (mkF m 71 #[.val (.long p1), .second, .val (.int p2), .val (.int p3), .val (.int p4), .val (.long p5), .second, .val (.int p6), .val (.long ff), .second, .val (.long gg), .second, .val (.int kk), .val (.int nn), .val (.ref b32), .val (.ref b44), .unset, .unset, .unset, .unset, .unset, .unset, .unset, .unset, .unset] [(.int (0 : Int32)), (.long gg), (.ref b64), (.ref b64)])) (G_own_law Z p1 p2 p3 p4 p5 p6 h0 n0 s)
  refine own_go (fun _ k => XS.iconst X64.here hx rfl (hb hby at_71) k) ?_
  show own_Goes p e below (T64.setTop (mkF m 72 #[.val (.long p1), .second, .val (.int p2), .val (.int p3), .val (.int p4), .val (.long p5), .second, .val (.int p6), .val (.long ff), .second, .val (.long gg), .second, .val (.int kk), .val (.int nn), .val (.ref b32), .val (.ref b44), .unset, .unset, .unset, .unset, .unset, .unset, .unset, .unset, .unset] [(.int (0 : Int32)), (.int (0 : Int32)), (.long gg), (.ref b64), (.ref b64)])) (G_own_law Z p1 p2 p3 p4 p5 p6 h0 n0 s)
  refine own_go (fun _ k => XS.iload X64.here hx rfl (hb hby at_72) rfl k) ?_
  show own_Goes p e below (T64.setTop (mkF m 74 #[.val (.long p1), .second, .val (.int p2), .val (.int p3), .val (.int p4), .val (.long p5), .second, .val (.int p6), .val (.long ff), .second, .val (.long gg), .second, .val (.int kk), .val (.int nn), .val (.ref b32), .val (.ref b44), .unset, .unset, .unset, .unset, .unset, .unset, .unset, .unset, .unset] [(.int p6), (.int (0 : Int32)), (.int (0 : Int32)), (.long gg), (.ref b64), (.ref b64)])) (G_own_law Z p1 p2 p3 p4 p5 p6 h0 n0 s)
  obtain ⟨_, _, ⟨T78, L78, k78, n78⟩, -, X78, ⟨Lc78, hQ78, l78, y78, z78⟩, st78⟩ := X64.specialBack hx (y := (⟨"com/example/keelstore/keelstore/StoreFile$Value", "<init>", "(JIII)V"⟩ : MethodName)) rfl hown (mvT hZ (hw _ (List.mem_of_getElem? (i := 7) rfl))) (mvT hZ (hw _ (List.mem_of_getElem? (i := 8) rfl))) (mvT hZ (hw _ (List.mem_of_getElem? (i := 9) rfl))) (by decide) (backOf (W := 1) (own_iniM l Z a0 hw [] b64 gg (0 : Int32) (0 : Int32) p6 h64 n0 Z64 A64 g_b64 F_74 F_75 F_76 F_77) hZ (hw _ (List.mem_of_getElem? (i := 9) rfl)) (hw _ (List.mem_of_getElem? (i := 6) rfl)) (by decide) (by decide)) (g := (mkF m 74 #[.val (.long p1), .second, .val (.int p2), .val (.int p3), .val (.int p4), .val (.long p5), .second, .val (.int p6), .val (.long ff), .second, .val (.long gg), .second, .val (.int kk), .val (.int nn), .val (.ref b32), .val (.ref b44), .unset, .unset, .unset, .unset, .unset, .unset, .unset, .unset, .unset] [(.int p6), (.int (0 : Int32)), (.int (0 : Int32)), (.long gg), (.ref b64), (.ref b64)])) rfl (by rw [hml]; rfl) (Steps.refl _) (a := b64) (argsL := [(.long gg), (.int (0 : Int32)), (.int (0 : Int32)), (.int p6)]) (rest := [(.ref b64)]) (lenOf own_pd1 rfl) rfl (by show 2 * 0 + _ ≤ _; exact Nat.le_of_eq rfl) (hb hby at_74) (fun _ _ => ⟨rfl, e64, (by decide : 3 + 0 ≤ _), (by decide : 12 + 0 ≤ _)⟩)
  dsimp only [Pt.U, Pt.locs, Pt.cells, Pt.slots] at X78 l78 y78 z78 st78 hQ78
  subst l78 y78 z78
  obtain ⟨rfl, N78q, Kq78, Fa78, Fb78, Fc78⟩ := hQ78
  have N78 := Fr.app N54 N78q
  have A32_79 := A32_66.keep Kq78
  have Fa38_80 := Fa38_67.keep Kq78 (ninS ne_b32_b64 nin0)
  have Fb38_81 := Fb38_68.keep Kq78 (ninS ne_b32_b64 nin0)
  have Fc38_82 := Fc38_69.keep Kq78 (ninS ne_b32_b64 nin0)
  have A44_83 := A44_70.keep Kq78
  have Fa54_84 := Fa54_71.keep Kq78 (ninS ne_b44_b64 nin0)
  have Fb54_85 := Fb54_72.keep Kq78 (ninS ne_b44_b64 nin0)
  have Fc54_86 := Fc54_73.keep Kq78 (ninS ne_b44_b64 nin0)
  have A64_87 := A64.keep Kq78
  have Z78 : n0 ≤ T78.heap.size := Nat.le_trans Z64 Kq78.1
  refine own_go (fun _ k => st78.trans k) ?_
  show own_Goes p e below (T78.setTop (mkF m 77 #[.val (.long p1), .second, .val (.int p2), .val (.int p3), .val (.int p4), .val (.long p5), .second, .val (.int p6), .val (.long ff), .second, .val (.long gg), .second, .val (.int kk), .val (.int nn), .val (.ref b32), .val (.ref b44), .unset, .unset, .unset, .unset, .unset, .unset, .unset, .unset, .unset] [(.ref b64)])) (G_own_law Z p1 p2 p3 p4 p5 p6 h0 n0 s)
  refine own_go (fun _ k => XS.astore X78.here hx rfl (hb hby at_77) rfl rfl (l' := #[.val (.long p1), .second, .val (.int p2), .val (.int p3), .val (.int p4), .val (.long p5), .second, .val (.int p6), .val (.long ff), .second, .val (.long gg), .second, .val (.int kk), .val (.int nn), .val (.ref b32), .val (.ref b44), .val (.ref b64), .unset, .unset, .unset, .unset, .unset, .unset, .unset, .unset]) rfl k) ?_
  show own_Goes p e below (T78.setTop (mkF m 79 #[.val (.long p1), .second, .val (.int p2), .val (.int p3), .val (.int p4), .val (.long p5), .second, .val (.int p6), .val (.long ff), .second, .val (.long gg), .second, .val (.int kk), .val (.int nn), .val (.ref b32), .val (.ref b44), .val (.ref b64), .unset, .unset, .unset, .unset, .unset, .unset, .unset, .unset] [])) (G_own_law Z p1 p2 p3 p4 p5 p6 h0 n0 s)
  refine own_go (fun _ k => XS.aload X78.here hx rfl (hb hby at_79) rfl rfl k) ?_
  show own_Goes p e below (T78.setTop (mkF m 81 #[.val (.long p1), .second, .val (.int p2), .val (.int p3), .val (.int p4), .val (.long p5), .second, .val (.int p6), .val (.long ff), .second, .val (.long gg), .second, .val (.int kk), .val (.int nn), .val (.ref b32), .val (.ref b44), .val (.ref b64), .unset, .unset, .unset, .unset, .unset, .unset, .unset, .unset] [(.ref b32)])) (G_own_law Z p1 p2 p3 p4 p5 p6 h0 n0 s)
  obtain ⟨cq92, kq92, q92a, q92b, q92c⟩ := isOf hZ rfl A32_79
  obtain ⟨_, _, ⟨T92, L92, k92, n92⟩, -, X92, ⟨Lc92, hQ92, l92, y92, z92⟩, st92⟩ := X78.virtualBack hx (y := (⟨"com/example/keelstore/keelstore/StoreFile$Value", "frameLength", "()J"⟩ : MethodName)) (z := (⟨"com/example/keelstore/keelstore/StoreFile$Value", "frameLength", "()J"⟩ : MethodName)) hown (mvT hZ (hw _ (List.mem_of_getElem? (i := 26) rfl))) (mvT hZ (hw _ (List.mem_of_getElem? (i := 27) rfl))) (notFace_of_selects (args := #[]) (mvT hZ (hw _ (List.mem_of_getElem? (i := 29) rfl)))) (mvT hZ (hw _ (List.mem_of_getElem? (i := 29) rfl))) (mvT hZ (hw _ (List.mem_of_getElem? (i := 28) rfl))) (by decide) (backOf (W := 0) (own_flM l Z a0 hw [] b32 kk nn T78.heap n0 Z78 Fb38_81 Fc38_82) hZ (hw _ (List.mem_of_getElem? (i := 30) rfl)) (hw _ (List.mem_of_getElem? (i := 6) rfl)) (by decide) (by decide)) q92a q92c (g := (mkF m 81 #[.val (.long p1), .second, .val (.int p2), .val (.int p3), .val (.int p4), .val (.long p5), .second, .val (.int p6), .val (.long ff), .second, .val (.long gg), .second, .val (.int kk), .val (.int nn), .val (.ref b32), .val (.ref b44), .val (.ref b64), .unset, .unset, .unset, .unset, .unset, .unset, .unset, .unset] [(.ref b32)])) rfl (by rw [hml]; rfl) (Steps.refl _) (argsL := []) (rest := []) (lenOf own_pd2 rfl) rfl (by show 2 * 0 + _ ≤ _; exact Nat.le_of_eq rfl) (hb hby at_81) (fun _ _ => ⟨rfl, rfl, (by decide : 3 + 0 ≤ _), (by decide : 12 + 0 ≤ _)⟩)
  dsimp only [Pt.U, Pt.locs, Pt.cells, Pt.slots] at X92 l92 y92 z92 st92 hQ92
  subst l92 y92 z92
  obtain ⟨rfl, N92q, e92⟩ := hQ92
  have N92 := Fr.app N78 N92q
  refine own_go (fun _ k => st92.trans k) ?_
  show own_Goes p e below (T92.setTop (mkF m 84 #[.val (.long p1), .second, .val (.int p2), .val (.int p3), .val (.int p4), .val (.long p5), .second, .val (.int p6), .val (.long ff), .second, .val (.long gg), .second, .val (.int kk), .val (.int nn), .val (.ref b32), .val (.ref b44), .val (.ref b64), .unset, .unset, .unset, .unset, .unset, .unset, .unset, .unset] [(.long (((19 : Int32) + kk).toInt64 + nn.toInt64))])) (G_own_law Z p1 p2 p3 p4 p5 p6 h0 n0 s)
  refine own_go (fun _ k => XS.lstore X92.here hx rfl (hb hby at_84) rfl (l' := #[.val (.long p1), .second, .val (.int p2), .val (.int p3), .val (.int p4), .val (.long p5), .second, .val (.int p6), .val (.long ff), .second, .val (.long gg), .second, .val (.int kk), .val (.int nn), .val (.ref b32), .val (.ref b44), .val (.ref b64), .val (.long (((19 : Int32) + kk).toInt64 + nn.toInt64)), .second, .unset, .unset, .unset, .unset, .unset, .unset]) rfl k) ?_
  show own_Goes p e below (T92.setTop (mkF m 86 #[.val (.long p1), .second, .val (.int p2), .val (.int p3), .val (.int p4), .val (.long p5), .second, .val (.int p6), .val (.long ff), .second, .val (.long gg), .second, .val (.int kk), .val (.int nn), .val (.ref b32), .val (.ref b44), .val (.ref b64), .val (.long (((19 : Int32) + kk).toInt64 + nn.toInt64)), .second, .unset, .unset, .unset, .unset, .unset, .unset] [])) (G_own_law Z p1 p2 p3 p4 p5 p6 h0 n0 s)
  refine own_go (fun _ k => XS.aload X92.here hx rfl (hb hby at_86) rfl rfl k) ?_
  show own_Goes p e below (T92.setTop (mkF m 88 #[.val (.long p1), .second, .val (.int p2), .val (.int p3), .val (.int p4), .val (.long p5), .second, .val (.int p6), .val (.long ff), .second, .val (.long gg), .second, .val (.int kk), .val (.int nn), .val (.ref b32), .val (.ref b44), .val (.ref b64), .val (.long (((19 : Int32) + kk).toInt64 + nn.toInt64)), .second, .unset, .unset, .unset, .unset, .unset, .unset] [(.ref b64)])) (G_own_law Z p1 p2 p3 p4 p5 p6 h0 n0 s)
  obtain ⟨cq93, kq93, q93a, q93b, q93c⟩ := isOf hZ e92 A64_87
  obtain ⟨_, _, ⟨T93, L93, k93, n93⟩, -, X93, ⟨Lc93, hQ93, l93, y93, z93⟩, st93⟩ := X92.virtualBack hx (y := (⟨"com/example/keelstore/keelstore/StoreFile$Value", "frameLength", "()J"⟩ : MethodName)) (z := (⟨"com/example/keelstore/keelstore/StoreFile$Value", "frameLength", "()J"⟩ : MethodName)) hown (mvT hZ (hw _ (List.mem_of_getElem? (i := 26) rfl))) (mvT hZ (hw _ (List.mem_of_getElem? (i := 27) rfl))) (notFace_of_selects (args := #[]) (mvT hZ (hw _ (List.mem_of_getElem? (i := 29) rfl)))) (mvT hZ (hw _ (List.mem_of_getElem? (i := 29) rfl))) (mvT hZ (hw _ (List.mem_of_getElem? (i := 28) rfl))) (by decide) (backOf (W := 0) (own_flM l Z a0 hw [] b64 (0 : Int32) (0 : Int32) T78.heap n0 Z78 Fb78 Fc78) hZ (hw _ (List.mem_of_getElem? (i := 30) rfl)) (hw _ (List.mem_of_getElem? (i := 6) rfl)) (by decide) (by decide)) q93a q93c (g := (mkF m 88 #[.val (.long p1), .second, .val (.int p2), .val (.int p3), .val (.int p4), .val (.long p5), .second, .val (.int p6), .val (.long ff), .second, .val (.long gg), .second, .val (.int kk), .val (.int nn), .val (.ref b32), .val (.ref b44), .val (.ref b64), .val (.long (((19 : Int32) + kk).toInt64 + nn.toInt64)), .second, .unset, .unset, .unset, .unset, .unset, .unset] [(.ref b64)])) rfl (by rw [hml]; rfl) (Steps.refl _) (argsL := []) (rest := []) (lenOf own_pd2 rfl) rfl (by show 2 * 0 + _ ≤ _; exact Nat.le_of_eq rfl) (hb hby at_88) (fun _ _ => ⟨rfl, e92, (by decide : 3 + 0 ≤ _), (by decide : 12 + 0 ≤ _)⟩)
  dsimp only [Pt.U, Pt.locs, Pt.cells, Pt.slots] at X93 l93 y93 z93 st93 hQ93
  subst l93 y93 z93
  obtain ⟨rfl, N93q, e93⟩ := hQ93
  have N93 := Fr.app N92 N93q
  refine own_go (fun _ k => st93.trans k) ?_
  show own_Goes p e below (T93.setTop (mkF m 91 #[.val (.long p1), .second, .val (.int p2), .val (.int p3), .val (.int p4), .val (.long p5), .second, .val (.int p6), .val (.long ff), .second, .val (.long gg), .second, .val (.int kk), .val (.int nn), .val (.ref b32), .val (.ref b44), .val (.ref b64), .val (.long (((19 : Int32) + kk).toInt64 + nn.toInt64)), .second, .unset, .unset, .unset, .unset, .unset, .unset] [(.long (((19 : Int32) + (0 : Int32)).toInt64 + (0 : Int32).toInt64))])) (G_own_law Z p1 p2 p3 p4 p5 p6 h0 n0 s)
  refine own_go (fun _ k => XS.lstore X93.here hx rfl (hb hby at_91) rfl (l' := #[.val (.long p1), .second, .val (.int p2), .val (.int p3), .val (.int p4), .val (.long p5), .second, .val (.int p6), .val (.long ff), .second, .val (.long gg), .second, .val (.int kk), .val (.int nn), .val (.ref b32), .val (.ref b44), .val (.ref b64), .val (.long (((19 : Int32) + kk).toInt64 + nn.toInt64)), .second, .val (.long (((19 : Int32) + (0 : Int32)).toInt64 + (0 : Int32).toInt64)), .second, .unset, .unset, .unset, .unset]) rfl k) ?_
  show own_Goes p e below (T93.setTop (mkF m 93 #[.val (.long p1), .second, .val (.int p2), .val (.int p3), .val (.int p4), .val (.long p5), .second, .val (.int p6), .val (.long ff), .second, .val (.long gg), .second, .val (.int kk), .val (.int nn), .val (.ref b32), .val (.ref b44), .val (.ref b64), .val (.long (((19 : Int32) + kk).toInt64 + nn.toInt64)), .second, .val (.long (((19 : Int32) + (0 : Int32)).toInt64 + (0 : Int32).toInt64)), .second, .unset, .unset, .unset, .unset] [])) (G_own_law Z p1 p2 p3 p4 p5 p6 h0 n0 s)
  refine own_go (fun _ k => XS.lload X93.here hx rfl (hb hby at_93) rfl k) ?_
  show own_Goes p e below (T93.setTop (mkF m 95 #[.val (.long p1), .second, .val (.int p2), .val (.int p3), .val (.int p4), .val (.long p5), .second, .val (.int p6), .val (.long ff), .second, .val (.long gg), .second, .val (.int kk), .val (.int nn), .val (.ref b32), .val (.ref b44), .val (.ref b64), .val (.long (((19 : Int32) + kk).toInt64 + nn.toInt64)), .second, .val (.long (((19 : Int32) + (0 : Int32)).toInt64 + (0 : Int32).toInt64)), .second, .unset, .unset, .unset, .unset] [(.long (((19 : Int32) + (0 : Int32)).toInt64 + (0 : Int32).toInt64))])) (G_own_law Z p1 p2 p3 p4 p5 p6 h0 n0 s)
  refine own_go (fun _ k => Jvm.Stand.ldc2J (own := "com/example/keelstore/keelstore/ValueFrameLengthPinLaw") (index := 25) (v := (19 : Int64)) X93 hx hown (mvT hZ (hw _ (List.mem_of_getElem? (i := 31) rfl))) rfl (hb hby at_95) k) ?_
  show own_Goes p e below (T93.setTop (mkF m 98 #[.val (.long p1), .second, .val (.int p2), .val (.int p3), .val (.int p4), .val (.long p5), .second, .val (.int p6), .val (.long ff), .second, .val (.long gg), .second, .val (.int kk), .val (.int nn), .val (.ref b32), .val (.ref b44), .val (.ref b64), .val (.long (((19 : Int32) + kk).toInt64 + nn.toInt64)), .second, .val (.long (((19 : Int32) + (0 : Int32)).toInt64 + (0 : Int32).toInt64)), .second, .unset, .unset, .unset, .unset] [(.long (19 : Int64)), (.long (((19 : Int32) + (0 : Int32)).toInt64 + (0 : Int32).toInt64))])) (G_own_law Z p1 p2 p3 p4 p5 p6 h0 n0 s)
  refine own_go (fun _ k => XT.lcmp X93.here hx rfl (hb hby at_98) rfl k) ?_
  show own_Goes p e below (T93.setTop (mkF m 99 #[.val (.long p1), .second, .val (.int p2), .val (.int p3), .val (.int p4), .val (.long p5), .second, .val (.int p6), .val (.long ff), .second, .val (.long gg), .second, .val (.int kk), .val (.int nn), .val (.ref b32), .val (.ref b44), .val (.ref b64), .val (.long (((19 : Int32) + kk).toInt64 + nn.toInt64)), .second, .val (.long (((19 : Int32) + (0 : Int32)).toInt64 + (0 : Int32).toInt64)), .second, .unset, .unset, .unset, .unset] [(.int (XT.cmpL (((19 : Int32) + (0 : Int32)).toInt64 + (0 : Int32).toInt64) (19 : Int64)))])) (G_own_law Z p1 p2 p3 p4 p5 p6 h0 n0 s)
  refine own_go (fun _ k => XS.ifNo X93.here hx rfl (hb hby at_99) rfl (XT.ll_ne_f (by decide)) k) ?_
  show own_Goes p e below (T93.setTop (mkF m 102 #[.val (.long p1), .second, .val (.int p2), .val (.int p3), .val (.int p4), .val (.long p5), .second, .val (.int p6), .val (.long ff), .second, .val (.long gg), .second, .val (.int kk), .val (.int nn), .val (.ref b32), .val (.ref b44), .val (.ref b64), .val (.long (((19 : Int32) + kk).toInt64 + nn.toInt64)), .second, .val (.long (((19 : Int32) + (0 : Int32)).toInt64 + (0 : Int32).toInt64)), .second, .unset, .unset, .unset, .unset] [])) (G_own_law Z p1 p2 p3 p4 p5 p6 h0 n0 s)
  refine own_go (fun _ k => XS.iconst X93.here hx rfl (hb hby at_102) k) ?_
  show own_Goes p e below (T93.setTop (mkF m 103 #[.val (.long p1), .second, .val (.int p2), .val (.int p3), .val (.int p4), .val (.long p5), .second, .val (.int p6), .val (.long ff), .second, .val (.long gg), .second, .val (.int kk), .val (.int nn), .val (.ref b32), .val (.ref b44), .val (.ref b64), .val (.long (((19 : Int32) + kk).toInt64 + nn.toInt64)), .second, .val (.long (((19 : Int32) + (0 : Int32)).toInt64 + (0 : Int32).toInt64)), .second, .unset, .unset, .unset, .unset] [(.int (1 : Int32))])) (G_own_law Z p1 p2 p3 p4 p5 p6 h0 n0 s)
  refine own_go (fun _ k => XS.goto X93.here hx rfl (pc0 := 103) (pc' := 107) rfl (hb hby at_103) (by decide) (by decide) k) ?_
  show own_Goes p e below (T93.setTop (mkF m 107 #[.val (.long p1), .second, .val (.int p2), .val (.int p3), .val (.int p4), .val (.long p5), .second, .val (.int p6), .val (.long ff), .second, .val (.long gg), .second, .val (.int kk), .val (.int nn), .val (.ref b32), .val (.ref b44), .val (.ref b64), .val (.long (((19 : Int32) + kk).toInt64 + nn.toInt64)), .second, .val (.long (((19 : Int32) + (0 : Int32)).toInt64 + (0 : Int32).toInt64)), .second, .unset, .unset, .unset, .unset] [(.int (1 : Int32))])) (G_own_law Z p1 p2 p3 p4 p5 p6 h0 n0 s)
  refine own_go (fun _ k => XS.istore X93.here hx rfl (hb hby at_107) rfl (l' := #[.val (.long p1), .second, .val (.int p2), .val (.int p3), .val (.int p4), .val (.long p5), .second, .val (.int p6), .val (.long ff), .second, .val (.long gg), .second, .val (.int kk), .val (.int nn), .val (.ref b32), .val (.ref b44), .val (.ref b64), .val (.long (((19 : Int32) + kk).toInt64 + nn.toInt64)), .second, .val (.long (((19 : Int32) + (0 : Int32)).toInt64 + (0 : Int32).toInt64)), .second, .val (.int (1 : Int32)), .unset, .unset, .unset]) rfl k) ?_
  show own_Goes p e below (T93.setTop (mkF m 109 #[.val (.long p1), .second, .val (.int p2), .val (.int p3), .val (.int p4), .val (.long p5), .second, .val (.int p6), .val (.long ff), .second, .val (.long gg), .second, .val (.int kk), .val (.int nn), .val (.ref b32), .val (.ref b44), .val (.ref b64), .val (.long (((19 : Int32) + kk).toInt64 + nn.toInt64)), .second, .val (.long (((19 : Int32) + (0 : Int32)).toInt64 + (0 : Int32).toInt64)), .second, .val (.int (1 : Int32)), .unset, .unset, .unset] [])) (G_own_law Z p1 p2 p3 p4 p5 p6 h0 n0 s)
  refine own_go (fun _ k => XS.lload X93.here hx rfl (hb hby at_109) rfl k) ?_
  show own_Goes p e below (T93.setTop (mkF m 111 #[.val (.long p1), .second, .val (.int p2), .val (.int p3), .val (.int p4), .val (.long p5), .second, .val (.int p6), .val (.long ff), .second, .val (.long gg), .second, .val (.int kk), .val (.int nn), .val (.ref b32), .val (.ref b44), .val (.ref b64), .val (.long (((19 : Int32) + kk).toInt64 + nn.toInt64)), .second, .val (.long (((19 : Int32) + (0 : Int32)).toInt64 + (0 : Int32).toInt64)), .second, .val (.int (1 : Int32)), .unset, .unset, .unset] [(.long (((19 : Int32) + kk).toInt64 + nn.toInt64))])) (G_own_law Z p1 p2 p3 p4 p5 p6 h0 n0 s)
  refine own_go (fun _ k => XS.lload X93.here hx rfl (hb hby at_111) rfl k) ?_
  show own_Goes p e below (T93.setTop (mkF m 113 #[.val (.long p1), .second, .val (.int p2), .val (.int p3), .val (.int p4), .val (.long p5), .second, .val (.int p6), .val (.long ff), .second, .val (.long gg), .second, .val (.int kk), .val (.int nn), .val (.ref b32), .val (.ref b44), .val (.ref b64), .val (.long (((19 : Int32) + kk).toInt64 + nn.toInt64)), .second, .val (.long (((19 : Int32) + (0 : Int32)).toInt64 + (0 : Int32).toInt64)), .second, .val (.int (1 : Int32)), .unset, .unset, .unset] [(.long (((19 : Int32) + (0 : Int32)).toInt64 + (0 : Int32).toInt64)), (.long (((19 : Int32) + kk).toInt64 + nn.toInt64))])) (G_own_law Z p1 p2 p3 p4 p5 p6 h0 n0 s)
  refine own_go (fun _ k => XS.lsub X93.here hx rfl (hb hby at_113) rfl k) ?_
  show own_Goes p e below (T93.setTop (mkF m 114 #[.val (.long p1), .second, .val (.int p2), .val (.int p3), .val (.int p4), .val (.long p5), .second, .val (.int p6), .val (.long ff), .second, .val (.long gg), .second, .val (.int kk), .val (.int nn), .val (.ref b32), .val (.ref b44), .val (.ref b64), .val (.long (((19 : Int32) + kk).toInt64 + nn.toInt64)), .second, .val (.long (((19 : Int32) + (0 : Int32)).toInt64 + (0 : Int32).toInt64)), .second, .val (.int (1 : Int32)), .unset, .unset, .unset] [(.long ((((19 : Int32) + kk).toInt64 + nn.toInt64) - (((19 : Int32) + (0 : Int32)).toInt64 + (0 : Int32).toInt64)))])) (G_own_law Z p1 p2 p3 p4 p5 p6 h0 n0 s)
  refine own_go (fun _ k => XS.iload X93.here hx rfl (hb hby at_114) rfl k) ?_
  show own_Goes p e below (T93.setTop (mkF m 116 #[.val (.long p1), .second, .val (.int p2), .val (.int p3), .val (.int p4), .val (.long p5), .second, .val (.int p6), .val (.long ff), .second, .val (.long gg), .second, .val (.int kk), .val (.int nn), .val (.ref b32), .val (.ref b44), .val (.ref b64), .val (.long (((19 : Int32) + kk).toInt64 + nn.toInt64)), .second, .val (.long (((19 : Int32) + (0 : Int32)).toInt64 + (0 : Int32).toInt64)), .second, .val (.int (1 : Int32)), .unset, .unset, .unset] [(.int kk), (.long ((((19 : Int32) + kk).toInt64 + nn.toInt64) - (((19 : Int32) + (0 : Int32)).toInt64 + (0 : Int32).toInt64)))])) (G_own_law Z p1 p2 p3 p4 p5 p6 h0 n0 s)
  refine own_go (fun _ k => XS.i2l X93.here hx rfl (hb hby at_116) rfl k) ?_
  show own_Goes p e below (T93.setTop (mkF m 117 #[.val (.long p1), .second, .val (.int p2), .val (.int p3), .val (.int p4), .val (.long p5), .second, .val (.int p6), .val (.long ff), .second, .val (.long gg), .second, .val (.int kk), .val (.int nn), .val (.ref b32), .val (.ref b44), .val (.ref b64), .val (.long (((19 : Int32) + kk).toInt64 + nn.toInt64)), .second, .val (.long (((19 : Int32) + (0 : Int32)).toInt64 + (0 : Int32).toInt64)), .second, .val (.int (1 : Int32)), .unset, .unset, .unset] [(.long (kk.toInt64)), (.long ((((19 : Int32) + kk).toInt64 + nn.toInt64) - (((19 : Int32) + (0 : Int32)).toInt64 + (0 : Int32).toInt64)))])) (G_own_law Z p1 p2 p3 p4 p5 p6 h0 n0 s)
  refine own_go (fun _ k => XS.iload X93.here hx rfl (hb hby at_117) rfl k) ?_
  show own_Goes p e below (T93.setTop (mkF m 119 #[.val (.long p1), .second, .val (.int p2), .val (.int p3), .val (.int p4), .val (.long p5), .second, .val (.int p6), .val (.long ff), .second, .val (.long gg), .second, .val (.int kk), .val (.int nn), .val (.ref b32), .val (.ref b44), .val (.ref b64), .val (.long (((19 : Int32) + kk).toInt64 + nn.toInt64)), .second, .val (.long (((19 : Int32) + (0 : Int32)).toInt64 + (0 : Int32).toInt64)), .second, .val (.int (1 : Int32)), .unset, .unset, .unset] [(.int nn), (.long (kk.toInt64)), (.long ((((19 : Int32) + kk).toInt64 + nn.toInt64) - (((19 : Int32) + (0 : Int32)).toInt64 + (0 : Int32).toInt64)))])) (G_own_law Z p1 p2 p3 p4 p5 p6 h0 n0 s)
  refine own_go (fun _ k => XS.i2l X93.here hx rfl (hb hby at_119) rfl k) ?_
  show own_Goes p e below (T93.setTop (mkF m 120 #[.val (.long p1), .second, .val (.int p2), .val (.int p3), .val (.int p4), .val (.long p5), .second, .val (.int p6), .val (.long ff), .second, .val (.long gg), .second, .val (.int kk), .val (.int nn), .val (.ref b32), .val (.ref b44), .val (.ref b64), .val (.long (((19 : Int32) + kk).toInt64 + nn.toInt64)), .second, .val (.long (((19 : Int32) + (0 : Int32)).toInt64 + (0 : Int32).toInt64)), .second, .val (.int (1 : Int32)), .unset, .unset, .unset] [(.long (nn.toInt64)), (.long (kk.toInt64)), (.long ((((19 : Int32) + kk).toInt64 + nn.toInt64) - (((19 : Int32) + (0 : Int32)).toInt64 + (0 : Int32).toInt64)))])) (G_own_law Z p1 p2 p3 p4 p5 p6 h0 n0 s)
  refine own_go (fun _ k => XS.ladd X93.here hx rfl (hb hby at_120) rfl k) ?_
  show own_Goes p e below (T93.setTop (mkF m 121 #[.val (.long p1), .second, .val (.int p2), .val (.int p3), .val (.int p4), .val (.long p5), .second, .val (.int p6), .val (.long ff), .second, .val (.long gg), .second, .val (.int kk), .val (.int nn), .val (.ref b32), .val (.ref b44), .val (.ref b64), .val (.long (((19 : Int32) + kk).toInt64 + nn.toInt64)), .second, .val (.long (((19 : Int32) + (0 : Int32)).toInt64 + (0 : Int32).toInt64)), .second, .val (.int (1 : Int32)), .unset, .unset, .unset] [(.long ((kk.toInt64) + (nn.toInt64))), (.long ((((19 : Int32) + kk).toInt64 + nn.toInt64) - (((19 : Int32) + (0 : Int32)).toInt64 + (0 : Int32).toInt64)))])) (G_own_law Z p1 p2 p3 p4 p5 p6 h0 n0 s)
  refine own_go (fun _ k => XT.lcmp X93.here hx rfl (hb hby at_121) rfl k) ?_
  show own_Goes p e below (T93.setTop (mkF m 122 #[.val (.long p1), .second, .val (.int p2), .val (.int p3), .val (.int p4), .val (.long p5), .second, .val (.int p6), .val (.long ff), .second, .val (.long gg), .second, .val (.int kk), .val (.int nn), .val (.ref b32), .val (.ref b44), .val (.ref b64), .val (.long (((19 : Int32) + kk).toInt64 + nn.toInt64)), .second, .val (.long (((19 : Int32) + (0 : Int32)).toInt64 + (0 : Int32).toInt64)), .second, .val (.int (1 : Int32)), .unset, .unset, .unset] [(.int (XT.cmpL ((((19 : Int32) + kk).toInt64 + nn.toInt64) - (((19 : Int32) + (0 : Int32)).toInt64 + (0 : Int32).toInt64)) ((kk.toInt64) + (nn.toInt64))))])) (G_own_law Z p1 p2 p3 p4 p5 p6 h0 n0 s)
  refine own_go (fun _ k => XS.ifNo X93.here hx rfl (hb hby at_122) rfl (XT.ll_ne_f (own_a1 kk nn hkk)) k) ?_
  show own_Goes p e below (T93.setTop (mkF m 125 #[.val (.long p1), .second, .val (.int p2), .val (.int p3), .val (.int p4), .val (.long p5), .second, .val (.int p6), .val (.long ff), .second, .val (.long gg), .second, .val (.int kk), .val (.int nn), .val (.ref b32), .val (.ref b44), .val (.ref b64), .val (.long (((19 : Int32) + kk).toInt64 + nn.toInt64)), .second, .val (.long (((19 : Int32) + (0 : Int32)).toInt64 + (0 : Int32).toInt64)), .second, .val (.int (1 : Int32)), .unset, .unset, .unset] [])) (G_own_law Z p1 p2 p3 p4 p5 p6 h0 n0 s)
  refine own_go (fun _ k => XS.iconst X93.here hx rfl (hb hby at_125) k) ?_
  show own_Goes p e below (T93.setTop (mkF m 126 #[.val (.long p1), .second, .val (.int p2), .val (.int p3), .val (.int p4), .val (.long p5), .second, .val (.int p6), .val (.long ff), .second, .val (.long gg), .second, .val (.int kk), .val (.int nn), .val (.ref b32), .val (.ref b44), .val (.ref b64), .val (.long (((19 : Int32) + kk).toInt64 + nn.toInt64)), .second, .val (.long (((19 : Int32) + (0 : Int32)).toInt64 + (0 : Int32).toInt64)), .second, .val (.int (1 : Int32)), .unset, .unset, .unset] [(.int (1 : Int32))])) (G_own_law Z p1 p2 p3 p4 p5 p6 h0 n0 s)
  refine own_go (fun _ k => XS.goto X93.here hx rfl (pc0 := 126) (pc' := 130) rfl (hb hby at_126) (by decide) (by decide) k) ?_
  show own_Goes p e below (T93.setTop (mkF m 130 #[.val (.long p1), .second, .val (.int p2), .val (.int p3), .val (.int p4), .val (.long p5), .second, .val (.int p6), .val (.long ff), .second, .val (.long gg), .second, .val (.int kk), .val (.int nn), .val (.ref b32), .val (.ref b44), .val (.ref b64), .val (.long (((19 : Int32) + kk).toInt64 + nn.toInt64)), .second, .val (.long (((19 : Int32) + (0 : Int32)).toInt64 + (0 : Int32).toInt64)), .second, .val (.int (1 : Int32)), .unset, .unset, .unset] [(.int (1 : Int32))])) (G_own_law Z p1 p2 p3 p4 p5 p6 h0 n0 s)
  refine own_go (fun _ k => XS.istore X93.here hx rfl (hb hby at_130) rfl (l' := #[.val (.long p1), .second, .val (.int p2), .val (.int p3), .val (.int p4), .val (.long p5), .second, .val (.int p6), .val (.long ff), .second, .val (.long gg), .second, .val (.int kk), .val (.int nn), .val (.ref b32), .val (.ref b44), .val (.ref b64), .val (.long (((19 : Int32) + kk).toInt64 + nn.toInt64)), .second, .val (.long (((19 : Int32) + (0 : Int32)).toInt64 + (0 : Int32).toInt64)), .second, .val (.int (1 : Int32)), .val (.int (1 : Int32)), .unset, .unset]) rfl k) ?_
  show own_Goes p e below (T93.setTop (mkF m 132 #[.val (.long p1), .second, .val (.int p2), .val (.int p3), .val (.int p4), .val (.long p5), .second, .val (.int p6), .val (.long ff), .second, .val (.long gg), .second, .val (.int kk), .val (.int nn), .val (.ref b32), .val (.ref b44), .val (.ref b64), .val (.long (((19 : Int32) + kk).toInt64 + nn.toInt64)), .second, .val (.long (((19 : Int32) + (0 : Int32)).toInt64 + (0 : Int32).toInt64)), .second, .val (.int (1 : Int32)), .val (.int (1 : Int32)), .unset, .unset] [])) (G_own_law Z p1 p2 p3 p4 p5 p6 h0 n0 s)
  refine own_go (fun _ k => XS.lload X93.here hx rfl (hb hby at_132) rfl k) ?_
  show own_Goes p e below (T93.setTop (mkF m 134 #[.val (.long p1), .second, .val (.int p2), .val (.int p3), .val (.int p4), .val (.long p5), .second, .val (.int p6), .val (.long ff), .second, .val (.long gg), .second, .val (.int kk), .val (.int nn), .val (.ref b32), .val (.ref b44), .val (.ref b64), .val (.long (((19 : Int32) + kk).toInt64 + nn.toInt64)), .second, .val (.long (((19 : Int32) + (0 : Int32)).toInt64 + (0 : Int32).toInt64)), .second, .val (.int (1 : Int32)), .val (.int (1 : Int32)), .unset, .unset] [(.long ff)])) (G_own_law Z p1 p2 p3 p4 p5 p6 h0 n0 s)
  refine own_go (fun _ k => XS.lload X93.here hx rfl (hb hby at_134) rfl k) ?_
  show own_Goes p e below (T93.setTop (mkF m 136 #[.val (.long p1), .second, .val (.int p2), .val (.int p3), .val (.int p4), .val (.long p5), .second, .val (.int p6), .val (.long ff), .second, .val (.long gg), .second, .val (.int kk), .val (.int nn), .val (.ref b32), .val (.ref b44), .val (.ref b64), .val (.long (((19 : Int32) + kk).toInt64 + nn.toInt64)), .second, .val (.long (((19 : Int32) + (0 : Int32)).toInt64 + (0 : Int32).toInt64)), .second, .val (.int (1 : Int32)), .val (.int (1 : Int32)), .unset, .unset] [(.long (((19 : Int32) + kk).toInt64 + nn.toInt64)), (.long ff)])) (G_own_law Z p1 p2 p3 p4 p5 p6 h0 n0 s)
  refine own_go (fun _ k => XS.ladd X93.here hx rfl (hb hby at_136) rfl k) ?_
  show own_Goes p e below (T93.setTop (mkF m 137 #[.val (.long p1), .second, .val (.int p2), .val (.int p3), .val (.int p4), .val (.long p5), .second, .val (.int p6), .val (.long ff), .second, .val (.long gg), .second, .val (.int kk), .val (.int nn), .val (.ref b32), .val (.ref b44), .val (.ref b64), .val (.long (((19 : Int32) + kk).toInt64 + nn.toInt64)), .second, .val (.long (((19 : Int32) + (0 : Int32)).toInt64 + (0 : Int32).toInt64)), .second, .val (.int (1 : Int32)), .val (.int (1 : Int32)), .unset, .unset] [(.long (ff + (((19 : Int32) + kk).toInt64 + nn.toInt64)))])) (G_own_law Z p1 p2 p3 p4 p5 p6 h0 n0 s)
  refine own_go (fun _ k => XS.aload X93.here hx rfl (hb hby at_137) rfl rfl k) ?_
  show own_Goes p e below (T93.setTop (mkF m 139 #[.val (.long p1), .second, .val (.int p2), .val (.int p3), .val (.int p4), .val (.long p5), .second, .val (.int p6), .val (.long ff), .second, .val (.long gg), .second, .val (.int kk), .val (.int nn), .val (.ref b32), .val (.ref b44), .val (.ref b64), .val (.long (((19 : Int32) + kk).toInt64 + nn.toInt64)), .second, .val (.long (((19 : Int32) + (0 : Int32)).toInt64 + (0 : Int32).toInt64)), .second, .val (.int (1 : Int32)), .val (.int (1 : Int32)), .unset, .unset] [(.ref b32), (.long (ff + (((19 : Int32) + kk).toInt64 + nn.toInt64)))])) (G_own_law Z p1 p2 p3 p4 p5 p6 h0 n0 s)
  obtain ⟨cq94, kq94, q94a, q94b, q94c⟩ := isOf hZ e93 A32_79
  obtain ⟨_, _, ⟨T94, L94, k94, n94⟩, -, X94, ⟨Lc94, hQ94, l94, y94, z94⟩, st94⟩ := X93.virtualBack hx (y := (⟨"com/example/keelstore/keelstore/StoreFile$Value", "offset", "()J"⟩ : MethodName)) (z := (⟨"com/example/keelstore/keelstore/StoreFile$Value", "offset", "()J"⟩ : MethodName)) hown (mvT hZ (hw _ (List.mem_of_getElem? (i := 32) rfl))) (mvT hZ (hw _ (List.mem_of_getElem? (i := 33) rfl))) (notFace_of_selects (args := #[]) (mvT hZ (hw _ (List.mem_of_getElem? (i := 35) rfl)))) (mvT hZ (hw _ (List.mem_of_getElem? (i := 35) rfl))) (mvT hZ (hw _ (List.mem_of_getElem? (i := 34) rfl))) (by decide) (backOf (W := 2) (own_ofM l Z a0 hw [] b32 ff kk T78.heap n0 Z78 Fa38_80 Fb38_81) hZ (hw _ (List.mem_of_getElem? (i := 36) rfl)) (hw _ (List.mem_of_getElem? (i := 6) rfl)) (by decide) (by decide)) q94a q94c (g := (mkF m 139 #[.val (.long p1), .second, .val (.int p2), .val (.int p3), .val (.int p4), .val (.long p5), .second, .val (.int p6), .val (.long ff), .second, .val (.long gg), .second, .val (.int kk), .val (.int nn), .val (.ref b32), .val (.ref b44), .val (.ref b64), .val (.long (((19 : Int32) + kk).toInt64 + nn.toInt64)), .second, .val (.long (((19 : Int32) + (0 : Int32)).toInt64 + (0 : Int32).toInt64)), .second, .val (.int (1 : Int32)), .val (.int (1 : Int32)), .unset, .unset] [(.ref b32), (.long (ff + (((19 : Int32) + kk).toInt64 + nn.toInt64)))])) rfl (by rw [hml]; rfl) (Steps.refl _) (argsL := []) (rest := [(.long (ff + (((19 : Int32) + kk).toInt64 + nn.toInt64)))]) (lenOf own_pd2 rfl) rfl (by show 2 * 0 + _ ≤ _; exact Nat.le_of_eq rfl) (hb hby at_139) (fun _ _ => ⟨rfl, e93, (by decide : 3 + 0 ≤ _), (by decide : 12 + 0 ≤ _)⟩)
  dsimp only [Pt.U, Pt.locs, Pt.cells, Pt.slots] at X94 l94 y94 z94 st94 hQ94
  subst l94 y94 z94
  obtain ⟨rfl, N94q, e94⟩ := hQ94
  have N94 := Fr.app N93 N94q
  refine own_go (fun _ k => st94.trans k) ?_
  show own_Goes p e below (T94.setTop (mkF m 142 #[.val (.long p1), .second, .val (.int p2), .val (.int p3), .val (.int p4), .val (.long p5), .second, .val (.int p6), .val (.long ff), .second, .val (.long gg), .second, .val (.int kk), .val (.int nn), .val (.ref b32), .val (.ref b44), .val (.ref b64), .val (.long (((19 : Int32) + kk).toInt64 + nn.toInt64)), .second, .val (.long (((19 : Int32) + (0 : Int32)).toInt64 + (0 : Int32).toInt64)), .second, .val (.int (1 : Int32)), .val (.int (1 : Int32)), .unset, .unset] [(.long ((ff + (19 : Int64)) + kk.toInt64)), (.long (ff + (((19 : Int32) + kk).toInt64 + nn.toInt64)))])) (G_own_law Z p1 p2 p3 p4 p5 p6 h0 n0 s)
  refine own_go (fun _ k => XS.iload X94.here hx rfl (hb hby at_142) rfl k) ?_
  show own_Goes p e below (T94.setTop (mkF m 144 #[.val (.long p1), .second, .val (.int p2), .val (.int p3), .val (.int p4), .val (.long p5), .second, .val (.int p6), .val (.long ff), .second, .val (.long gg), .second, .val (.int kk), .val (.int nn), .val (.ref b32), .val (.ref b44), .val (.ref b64), .val (.long (((19 : Int32) + kk).toInt64 + nn.toInt64)), .second, .val (.long (((19 : Int32) + (0 : Int32)).toInt64 + (0 : Int32).toInt64)), .second, .val (.int (1 : Int32)), .val (.int (1 : Int32)), .unset, .unset] [(.int nn), (.long ((ff + (19 : Int64)) + kk.toInt64)), (.long (ff + (((19 : Int32) + kk).toInt64 + nn.toInt64)))])) (G_own_law Z p1 p2 p3 p4 p5 p6 h0 n0 s)
  refine own_go (fun _ k => XS.i2l X94.here hx rfl (hb hby at_144) rfl k) ?_
  show own_Goes p e below (T94.setTop (mkF m 145 #[.val (.long p1), .second, .val (.int p2), .val (.int p3), .val (.int p4), .val (.long p5), .second, .val (.int p6), .val (.long ff), .second, .val (.long gg), .second, .val (.int kk), .val (.int nn), .val (.ref b32), .val (.ref b44), .val (.ref b64), .val (.long (((19 : Int32) + kk).toInt64 + nn.toInt64)), .second, .val (.long (((19 : Int32) + (0 : Int32)).toInt64 + (0 : Int32).toInt64)), .second, .val (.int (1 : Int32)), .val (.int (1 : Int32)), .unset, .unset] [(.long (nn.toInt64)), (.long ((ff + (19 : Int64)) + kk.toInt64)), (.long (ff + (((19 : Int32) + kk).toInt64 + nn.toInt64)))])) (G_own_law Z p1 p2 p3 p4 p5 p6 h0 n0 s)
  refine own_go (fun _ k => XS.ladd X94.here hx rfl (hb hby at_145) rfl k) ?_
  show own_Goes p e below (T94.setTop (mkF m 146 #[.val (.long p1), .second, .val (.int p2), .val (.int p3), .val (.int p4), .val (.long p5), .second, .val (.int p6), .val (.long ff), .second, .val (.long gg), .second, .val (.int kk), .val (.int nn), .val (.ref b32), .val (.ref b44), .val (.ref b64), .val (.long (((19 : Int32) + kk).toInt64 + nn.toInt64)), .second, .val (.long (((19 : Int32) + (0 : Int32)).toInt64 + (0 : Int32).toInt64)), .second, .val (.int (1 : Int32)), .val (.int (1 : Int32)), .unset, .unset] [(.long (((ff + (19 : Int64)) + kk.toInt64) + (nn.toInt64))), (.long (ff + (((19 : Int32) + kk).toInt64 + nn.toInt64)))])) (G_own_law Z p1 p2 p3 p4 p5 p6 h0 n0 s)
  refine own_go (fun _ k => XT.lcmp X94.here hx rfl (hb hby at_146) rfl k) ?_
  show own_Goes p e below (T94.setTop (mkF m 147 #[.val (.long p1), .second, .val (.int p2), .val (.int p3), .val (.int p4), .val (.long p5), .second, .val (.int p6), .val (.long ff), .second, .val (.long gg), .second, .val (.int kk), .val (.int nn), .val (.ref b32), .val (.ref b44), .val (.ref b64), .val (.long (((19 : Int32) + kk).toInt64 + nn.toInt64)), .second, .val (.long (((19 : Int32) + (0 : Int32)).toInt64 + (0 : Int32).toInt64)), .second, .val (.int (1 : Int32)), .val (.int (1 : Int32)), .unset, .unset] [(.int (XT.cmpL (ff + (((19 : Int32) + kk).toInt64 + nn.toInt64)) (((ff + (19 : Int64)) + kk.toInt64) + (nn.toInt64))))])) (G_own_law Z p1 p2 p3 p4 p5 p6 h0 n0 s)
  refine own_go (fun _ k => XS.ifNo X94.here hx rfl (hb hby at_147) rfl (XT.ll_ne_f (own_a2 ff kk nn hkk)) k) ?_
  show own_Goes p e below (T94.setTop (mkF m 150 #[.val (.long p1), .second, .val (.int p2), .val (.int p3), .val (.int p4), .val (.long p5), .second, .val (.int p6), .val (.long ff), .second, .val (.long gg), .second, .val (.int kk), .val (.int nn), .val (.ref b32), .val (.ref b44), .val (.ref b64), .val (.long (((19 : Int32) + kk).toInt64 + nn.toInt64)), .second, .val (.long (((19 : Int32) + (0 : Int32)).toInt64 + (0 : Int32).toInt64)), .second, .val (.int (1 : Int32)), .val (.int (1 : Int32)), .unset, .unset] [])) (G_own_law Z p1 p2 p3 p4 p5 p6 h0 n0 s)
  refine own_go (fun _ k => XS.iconst X94.here hx rfl (hb hby at_150) k) ?_
  show own_Goes p e below (T94.setTop (mkF m 151 #[.val (.long p1), .second, .val (.int p2), .val (.int p3), .val (.int p4), .val (.long p5), .second, .val (.int p6), .val (.long ff), .second, .val (.long gg), .second, .val (.int kk), .val (.int nn), .val (.ref b32), .val (.ref b44), .val (.ref b64), .val (.long (((19 : Int32) + kk).toInt64 + nn.toInt64)), .second, .val (.long (((19 : Int32) + (0 : Int32)).toInt64 + (0 : Int32).toInt64)), .second, .val (.int (1 : Int32)), .val (.int (1 : Int32)), .unset, .unset] [(.int (1 : Int32))])) (G_own_law Z p1 p2 p3 p4 p5 p6 h0 n0 s)
  refine own_go (fun _ k => XS.goto X94.here hx rfl (pc0 := 151) (pc' := 155) rfl (hb hby at_151) (by decide) (by decide) k) ?_
  show own_Goes p e below (T94.setTop (mkF m 155 #[.val (.long p1), .second, .val (.int p2), .val (.int p3), .val (.int p4), .val (.long p5), .second, .val (.int p6), .val (.long ff), .second, .val (.long gg), .second, .val (.int kk), .val (.int nn), .val (.ref b32), .val (.ref b44), .val (.ref b64), .val (.long (((19 : Int32) + kk).toInt64 + nn.toInt64)), .second, .val (.long (((19 : Int32) + (0 : Int32)).toInt64 + (0 : Int32).toInt64)), .second, .val (.int (1 : Int32)), .val (.int (1 : Int32)), .unset, .unset] [(.int (1 : Int32))])) (G_own_law Z p1 p2 p3 p4 p5 p6 h0 n0 s)
  refine own_go (fun _ k => XS.istore X94.here hx rfl (hb hby at_155) rfl (l' := #[.val (.long p1), .second, .val (.int p2), .val (.int p3), .val (.int p4), .val (.long p5), .second, .val (.int p6), .val (.long ff), .second, .val (.long gg), .second, .val (.int kk), .val (.int nn), .val (.ref b32), .val (.ref b44), .val (.ref b64), .val (.long (((19 : Int32) + kk).toInt64 + nn.toInt64)), .second, .val (.long (((19 : Int32) + (0 : Int32)).toInt64 + (0 : Int32).toInt64)), .second, .val (.int (1 : Int32)), .val (.int (1 : Int32)), .val (.int (1 : Int32)), .unset]) rfl k) ?_
  show own_Goes p e below (T94.setTop (mkF m 157 #[.val (.long p1), .second, .val (.int p2), .val (.int p3), .val (.int p4), .val (.long p5), .second, .val (.int p6), .val (.long ff), .second, .val (.long gg), .second, .val (.int kk), .val (.int nn), .val (.ref b32), .val (.ref b44), .val (.ref b64), .val (.long (((19 : Int32) + kk).toInt64 + nn.toInt64)), .second, .val (.long (((19 : Int32) + (0 : Int32)).toInt64 + (0 : Int32).toInt64)), .second, .val (.int (1 : Int32)), .val (.int (1 : Int32)), .val (.int (1 : Int32)), .unset] [])) (G_own_law Z p1 p2 p3 p4 p5 p6 h0 n0 s)
  refine own_go (fun _ k => XS.aload X94.here hx rfl (hb hby at_157) rfl rfl k) ?_
  show own_Goes p e below (T94.setTop (mkF m 159 #[.val (.long p1), .second, .val (.int p2), .val (.int p3), .val (.int p4), .val (.long p5), .second, .val (.int p6), .val (.long ff), .second, .val (.long gg), .second, .val (.int kk), .val (.int nn), .val (.ref b32), .val (.ref b44), .val (.ref b64), .val (.long (((19 : Int32) + kk).toInt64 + nn.toInt64)), .second, .val (.long (((19 : Int32) + (0 : Int32)).toInt64 + (0 : Int32).toInt64)), .second, .val (.int (1 : Int32)), .val (.int (1 : Int32)), .val (.int (1 : Int32)), .unset] [(.ref b44)])) (G_own_law Z p1 p2 p3 p4 p5 p6 h0 n0 s)
  obtain ⟨cq95, kq95, q95a, q95b, q95c⟩ := isOf hZ e94 A44_83
  obtain ⟨_, _, ⟨T95, L95, k95, n95⟩, -, X95, ⟨Lc95, hQ95, l95, y95, z95⟩, st95⟩ := X94.virtualBack hx (y := (⟨"com/example/keelstore/keelstore/StoreFile$Value", "frameLength", "()J"⟩ : MethodName)) (z := (⟨"com/example/keelstore/keelstore/StoreFile$Value", "frameLength", "()J"⟩ : MethodName)) hown (mvT hZ (hw _ (List.mem_of_getElem? (i := 26) rfl))) (mvT hZ (hw _ (List.mem_of_getElem? (i := 27) rfl))) (notFace_of_selects (args := #[]) (mvT hZ (hw _ (List.mem_of_getElem? (i := 29) rfl)))) (mvT hZ (hw _ (List.mem_of_getElem? (i := 29) rfl))) (mvT hZ (hw _ (List.mem_of_getElem? (i := 28) rfl))) (by decide) (backOf (W := 0) (own_flM l Z a0 hw [] b44 kk nn T78.heap n0 Z78 Fb54_85 Fc54_86) hZ (hw _ (List.mem_of_getElem? (i := 30) rfl)) (hw _ (List.mem_of_getElem? (i := 6) rfl)) (by decide) (by decide)) q95a q95c (g := (mkF m 159 #[.val (.long p1), .second, .val (.int p2), .val (.int p3), .val (.int p4), .val (.long p5), .second, .val (.int p6), .val (.long ff), .second, .val (.long gg), .second, .val (.int kk), .val (.int nn), .val (.ref b32), .val (.ref b44), .val (.ref b64), .val (.long (((19 : Int32) + kk).toInt64 + nn.toInt64)), .second, .val (.long (((19 : Int32) + (0 : Int32)).toInt64 + (0 : Int32).toInt64)), .second, .val (.int (1 : Int32)), .val (.int (1 : Int32)), .val (.int (1 : Int32)), .unset] [(.ref b44)])) rfl (by rw [hml]; rfl) (Steps.refl _) (argsL := []) (rest := []) (lenOf own_pd2 rfl) rfl (by show 2 * 0 + _ ≤ _; exact Nat.le_of_eq rfl) (hb hby at_159) (fun _ _ => ⟨rfl, e94, (by decide : 3 + 0 ≤ _), (by decide : 12 + 0 ≤ _)⟩)
  dsimp only [Pt.U, Pt.locs, Pt.cells, Pt.slots] at X95 l95 y95 z95 st95 hQ95
  subst l95 y95 z95
  obtain ⟨rfl, N95q, e95⟩ := hQ95
  have N95 := Fr.app N94 N95q
  refine own_go (fun _ k => st95.trans k) ?_
  show own_Goes p e below (T95.setTop (mkF m 162 #[.val (.long p1), .second, .val (.int p2), .val (.int p3), .val (.int p4), .val (.long p5), .second, .val (.int p6), .val (.long ff), .second, .val (.long gg), .second, .val (.int kk), .val (.int nn), .val (.ref b32), .val (.ref b44), .val (.ref b64), .val (.long (((19 : Int32) + kk).toInt64 + nn.toInt64)), .second, .val (.long (((19 : Int32) + (0 : Int32)).toInt64 + (0 : Int32).toInt64)), .second, .val (.int (1 : Int32)), .val (.int (1 : Int32)), .val (.int (1 : Int32)), .unset] [(.long (((19 : Int32) + kk).toInt64 + nn.toInt64))])) (G_own_law Z p1 p2 p3 p4 p5 p6 h0 n0 s)
  refine own_go (fun _ k => XS.lload X95.here hx rfl (hb hby at_162) rfl k) ?_
  show own_Goes p e below (T95.setTop (mkF m 164 #[.val (.long p1), .second, .val (.int p2), .val (.int p3), .val (.int p4), .val (.long p5), .second, .val (.int p6), .val (.long ff), .second, .val (.long gg), .second, .val (.int kk), .val (.int nn), .val (.ref b32), .val (.ref b44), .val (.ref b64), .val (.long (((19 : Int32) + kk).toInt64 + nn.toInt64)), .second, .val (.long (((19 : Int32) + (0 : Int32)).toInt64 + (0 : Int32).toInt64)), .second, .val (.int (1 : Int32)), .val (.int (1 : Int32)), .val (.int (1 : Int32)), .unset] [(.long (((19 : Int32) + kk).toInt64 + nn.toInt64)), (.long (((19 : Int32) + kk).toInt64 + nn.toInt64))])) (G_own_law Z p1 p2 p3 p4 p5 p6 h0 n0 s)
  refine own_go (fun _ k => XT.lcmp X95.here hx rfl (hb hby at_164) rfl k) ?_
  show own_Goes p e below (T95.setTop (mkF m 165 #[.val (.long p1), .second, .val (.int p2), .val (.int p3), .val (.int p4), .val (.long p5), .second, .val (.int p6), .val (.long ff), .second, .val (.long gg), .second, .val (.int kk), .val (.int nn), .val (.ref b32), .val (.ref b44), .val (.ref b64), .val (.long (((19 : Int32) + kk).toInt64 + nn.toInt64)), .second, .val (.long (((19 : Int32) + (0 : Int32)).toInt64 + (0 : Int32).toInt64)), .second, .val (.int (1 : Int32)), .val (.int (1 : Int32)), .val (.int (1 : Int32)), .unset] [(.int (XT.cmpL (((19 : Int32) + kk).toInt64 + nn.toInt64) (((19 : Int32) + kk).toInt64 + nn.toInt64)))])) (G_own_law Z p1 p2 p3 p4 p5 p6 h0 n0 s)
  refine own_go (fun _ k => XS.ifNo X95.here hx rfl (hb hby at_165) rfl (XT.ll_ne_f (rfl : (((19 : Int32) + kk).toInt64 + nn.toInt64) = (((19 : Int32) + kk).toInt64 + nn.toInt64))) k) ?_
  show own_Goes p e below (T95.setTop (mkF m 168 #[.val (.long p1), .second, .val (.int p2), .val (.int p3), .val (.int p4), .val (.long p5), .second, .val (.int p6), .val (.long ff), .second, .val (.long gg), .second, .val (.int kk), .val (.int nn), .val (.ref b32), .val (.ref b44), .val (.ref b64), .val (.long (((19 : Int32) + kk).toInt64 + nn.toInt64)), .second, .val (.long (((19 : Int32) + (0 : Int32)).toInt64 + (0 : Int32).toInt64)), .second, .val (.int (1 : Int32)), .val (.int (1 : Int32)), .val (.int (1 : Int32)), .unset] [])) (G_own_law Z p1 p2 p3 p4 p5 p6 h0 n0 s)
  refine own_go (fun _ k => XS.iconst X95.here hx rfl (hb hby at_168) k) ?_
  show own_Goes p e below (T95.setTop (mkF m 169 #[.val (.long p1), .second, .val (.int p2), .val (.int p3), .val (.int p4), .val (.long p5), .second, .val (.int p6), .val (.long ff), .second, .val (.long gg), .second, .val (.int kk), .val (.int nn), .val (.ref b32), .val (.ref b44), .val (.ref b64), .val (.long (((19 : Int32) + kk).toInt64 + nn.toInt64)), .second, .val (.long (((19 : Int32) + (0 : Int32)).toInt64 + (0 : Int32).toInt64)), .second, .val (.int (1 : Int32)), .val (.int (1 : Int32)), .val (.int (1 : Int32)), .unset] [(.int (1 : Int32))])) (G_own_law Z p1 p2 p3 p4 p5 p6 h0 n0 s)
  refine own_go (fun _ k => XS.goto X95.here hx rfl (pc0 := 169) (pc' := 173) rfl (hb hby at_169) (by decide) (by decide) k) ?_
  show own_Goes p e below (T95.setTop (mkF m 173 #[.val (.long p1), .second, .val (.int p2), .val (.int p3), .val (.int p4), .val (.long p5), .second, .val (.int p6), .val (.long ff), .second, .val (.long gg), .second, .val (.int kk), .val (.int nn), .val (.ref b32), .val (.ref b44), .val (.ref b64), .val (.long (((19 : Int32) + kk).toInt64 + nn.toInt64)), .second, .val (.long (((19 : Int32) + (0 : Int32)).toInt64 + (0 : Int32).toInt64)), .second, .val (.int (1 : Int32)), .val (.int (1 : Int32)), .val (.int (1 : Int32)), .unset] [(.int (1 : Int32))])) (G_own_law Z p1 p2 p3 p4 p5 p6 h0 n0 s)
  refine own_go (fun _ k => XS.istore X95.here hx rfl (hb hby at_173) rfl (l' := #[.val (.long p1), .second, .val (.int p2), .val (.int p3), .val (.int p4), .val (.long p5), .second, .val (.int p6), .val (.long ff), .second, .val (.long gg), .second, .val (.int kk), .val (.int nn), .val (.ref b32), .val (.ref b44), .val (.ref b64), .val (.long (((19 : Int32) + kk).toInt64 + nn.toInt64)), .second, .val (.long (((19 : Int32) + (0 : Int32)).toInt64 + (0 : Int32).toInt64)), .second, .val (.int (1 : Int32)), .val (.int (1 : Int32)), .val (.int (1 : Int32)), .val (.int (1 : Int32))]) rfl k) ?_
  show own_Goes p e below (T95.setTop (mkF m 175 #[.val (.long p1), .second, .val (.int p2), .val (.int p3), .val (.int p4), .val (.long p5), .second, .val (.int p6), .val (.long ff), .second, .val (.long gg), .second, .val (.int kk), .val (.int nn), .val (.ref b32), .val (.ref b44), .val (.ref b64), .val (.long (((19 : Int32) + kk).toInt64 + nn.toInt64)), .second, .val (.long (((19 : Int32) + (0 : Int32)).toInt64 + (0 : Int32).toInt64)), .second, .val (.int (1 : Int32)), .val (.int (1 : Int32)), .val (.int (1 : Int32)), .val (.int (1 : Int32))] [])) (G_own_law Z p1 p2 p3 p4 p5 p6 h0 n0 s)
  refine own_go (fun _ k => XS.iload X95.here hx rfl (hb hby at_175) rfl k) ?_
  show own_Goes p e below (T95.setTop (mkF m 177 #[.val (.long p1), .second, .val (.int p2), .val (.int p3), .val (.int p4), .val (.long p5), .second, .val (.int p6), .val (.long ff), .second, .val (.long gg), .second, .val (.int kk), .val (.int nn), .val (.ref b32), .val (.ref b44), .val (.ref b64), .val (.long (((19 : Int32) + kk).toInt64 + nn.toInt64)), .second, .val (.long (((19 : Int32) + (0 : Int32)).toInt64 + (0 : Int32).toInt64)), .second, .val (.int (1 : Int32)), .val (.int (1 : Int32)), .val (.int (1 : Int32)), .val (.int (1 : Int32))] [(.int (1 : Int32))])) (G_own_law Z p1 p2 p3 p4 p5 p6 h0 n0 s)
  refine own_go (fun _ k => XS.ifNo X95.here hx rfl (hb hby at_177) rfl (XT.i0_eq_f (by decide)) k) ?_
  show own_Goes p e below (T95.setTop (mkF m 180 #[.val (.long p1), .second, .val (.int p2), .val (.int p3), .val (.int p4), .val (.long p5), .second, .val (.int p6), .val (.long ff), .second, .val (.long gg), .second, .val (.int kk), .val (.int nn), .val (.ref b32), .val (.ref b44), .val (.ref b64), .val (.long (((19 : Int32) + kk).toInt64 + nn.toInt64)), .second, .val (.long (((19 : Int32) + (0 : Int32)).toInt64 + (0 : Int32).toInt64)), .second, .val (.int (1 : Int32)), .val (.int (1 : Int32)), .val (.int (1 : Int32)), .val (.int (1 : Int32))] [])) (G_own_law Z p1 p2 p3 p4 p5 p6 h0 n0 s)
  refine own_go (fun _ k => XS.iload X95.here hx rfl (hb hby at_180) rfl k) ?_
  show own_Goes p e below (T95.setTop (mkF m 182 #[.val (.long p1), .second, .val (.int p2), .val (.int p3), .val (.int p4), .val (.long p5), .second, .val (.int p6), .val (.long ff), .second, .val (.long gg), .second, .val (.int kk), .val (.int nn), .val (.ref b32), .val (.ref b44), .val (.ref b64), .val (.long (((19 : Int32) + kk).toInt64 + nn.toInt64)), .second, .val (.long (((19 : Int32) + (0 : Int32)).toInt64 + (0 : Int32).toInt64)), .second, .val (.int (1 : Int32)), .val (.int (1 : Int32)), .val (.int (1 : Int32)), .val (.int (1 : Int32))] [(.int (1 : Int32))])) (G_own_law Z p1 p2 p3 p4 p5 p6 h0 n0 s)
  refine own_go (fun _ k => XS.ifNo X95.here hx rfl (hb hby at_182) rfl (XT.i0_eq_f (by decide)) k) ?_
  show own_Goes p e below (T95.setTop (mkF m 185 #[.val (.long p1), .second, .val (.int p2), .val (.int p3), .val (.int p4), .val (.long p5), .second, .val (.int p6), .val (.long ff), .second, .val (.long gg), .second, .val (.int kk), .val (.int nn), .val (.ref b32), .val (.ref b44), .val (.ref b64), .val (.long (((19 : Int32) + kk).toInt64 + nn.toInt64)), .second, .val (.long (((19 : Int32) + (0 : Int32)).toInt64 + (0 : Int32).toInt64)), .second, .val (.int (1 : Int32)), .val (.int (1 : Int32)), .val (.int (1 : Int32)), .val (.int (1 : Int32))] [])) (G_own_law Z p1 p2 p3 p4 p5 p6 h0 n0 s)
  refine own_go (fun _ k => XS.iload X95.here hx rfl (hb hby at_185) rfl k) ?_
  show own_Goes p e below (T95.setTop (mkF m 187 #[.val (.long p1), .second, .val (.int p2), .val (.int p3), .val (.int p4), .val (.long p5), .second, .val (.int p6), .val (.long ff), .second, .val (.long gg), .second, .val (.int kk), .val (.int nn), .val (.ref b32), .val (.ref b44), .val (.ref b64), .val (.long (((19 : Int32) + kk).toInt64 + nn.toInt64)), .second, .val (.long (((19 : Int32) + (0 : Int32)).toInt64 + (0 : Int32).toInt64)), .second, .val (.int (1 : Int32)), .val (.int (1 : Int32)), .val (.int (1 : Int32)), .val (.int (1 : Int32))] [(.int (1 : Int32))])) (G_own_law Z p1 p2 p3 p4 p5 p6 h0 n0 s)
  refine own_go (fun _ k => XS.ifNo X95.here hx rfl (hb hby at_187) rfl (XT.i0_eq_f (by decide)) k) ?_
  show own_Goes p e below (T95.setTop (mkF m 190 #[.val (.long p1), .second, .val (.int p2), .val (.int p3), .val (.int p4), .val (.long p5), .second, .val (.int p6), .val (.long ff), .second, .val (.long gg), .second, .val (.int kk), .val (.int nn), .val (.ref b32), .val (.ref b44), .val (.ref b64), .val (.long (((19 : Int32) + kk).toInt64 + nn.toInt64)), .second, .val (.long (((19 : Int32) + (0 : Int32)).toInt64 + (0 : Int32).toInt64)), .second, .val (.int (1 : Int32)), .val (.int (1 : Int32)), .val (.int (1 : Int32)), .val (.int (1 : Int32))] [])) (G_own_law Z p1 p2 p3 p4 p5 p6 h0 n0 s)
  refine own_go (fun _ k => XS.iload X95.here hx rfl (hb hby at_190) rfl k) ?_
  show own_Goes p e below (T95.setTop (mkF m 192 #[.val (.long p1), .second, .val (.int p2), .val (.int p3), .val (.int p4), .val (.long p5), .second, .val (.int p6), .val (.long ff), .second, .val (.long gg), .second, .val (.int kk), .val (.int nn), .val (.ref b32), .val (.ref b44), .val (.ref b64), .val (.long (((19 : Int32) + kk).toInt64 + nn.toInt64)), .second, .val (.long (((19 : Int32) + (0 : Int32)).toInt64 + (0 : Int32).toInt64)), .second, .val (.int (1 : Int32)), .val (.int (1 : Int32)), .val (.int (1 : Int32)), .val (.int (1 : Int32))] [(.int (1 : Int32))])) (G_own_law Z p1 p2 p3 p4 p5 p6 h0 n0 s)
  refine own_go (fun _ k => XS.ifNo X95.here hx rfl (hb hby at_192) rfl (XT.i0_eq_f (by decide)) k) ?_
  show own_Goes p e below (T95.setTop (mkF m 195 #[.val (.long p1), .second, .val (.int p2), .val (.int p3), .val (.int p4), .val (.long p5), .second, .val (.int p6), .val (.long ff), .second, .val (.long gg), .second, .val (.int kk), .val (.int nn), .val (.ref b32), .val (.ref b44), .val (.ref b64), .val (.long (((19 : Int32) + kk).toInt64 + nn.toInt64)), .second, .val (.long (((19 : Int32) + (0 : Int32)).toInt64 + (0 : Int32).toInt64)), .second, .val (.int (1 : Int32)), .val (.int (1 : Int32)), .val (.int (1 : Int32)), .val (.int (1 : Int32))] [])) (G_own_law Z p1 p2 p3 p4 p5 p6 h0 n0 s)
  refine own_go (fun _ k => XS.iconst X95.here hx rfl (hb hby at_195) k) ?_
  show own_Goes p e below (T95.setTop (mkF m 196 #[.val (.long p1), .second, .val (.int p2), .val (.int p3), .val (.int p4), .val (.long p5), .second, .val (.int p6), .val (.long ff), .second, .val (.long gg), .second, .val (.int kk), .val (.int nn), .val (.ref b32), .val (.ref b44), .val (.ref b64), .val (.long (((19 : Int32) + kk).toInt64 + nn.toInt64)), .second, .val (.long (((19 : Int32) + (0 : Int32)).toInt64 + (0 : Int32).toInt64)), .second, .val (.int (1 : Int32)), .val (.int (1 : Int32)), .val (.int (1 : Int32)), .val (.int (1 : Int32))] [(.int (1 : Int32))])) (G_own_law Z p1 p2 p3 p4 p5 p6 h0 n0 s)
  refine own_go (fun _ k => XS.goto X95.here hx rfl (pc0 := 196) (pc' := 200) rfl (hb hby at_196) (by decide) (by decide) k) ?_
  show own_Goes p e below (T95.setTop (mkF m 200 #[.val (.long p1), .second, .val (.int p2), .val (.int p3), .val (.int p4), .val (.long p5), .second, .val (.int p6), .val (.long ff), .second, .val (.long gg), .second, .val (.int kk), .val (.int nn), .val (.ref b32), .val (.ref b44), .val (.ref b64), .val (.long (((19 : Int32) + kk).toInt64 + nn.toInt64)), .second, .val (.long (((19 : Int32) + (0 : Int32)).toInt64 + (0 : Int32).toInt64)), .second, .val (.int (1 : Int32)), .val (.int (1 : Int32)), .val (.int (1 : Int32)), .val (.int (1 : Int32))] [(.int (1 : Int32))])) (G_own_law Z p1 p2 p3 p4 p5 p6 h0 n0 s)
  obtain ⟨fs, hr, hrun, hended, hW, hsame⟩ := X95.leave (v := some (.int (1 : Int32))) (fun h => by rw [Bd.returns] at h; cases h)
  refine ⟨_, _, retN X95 hx (t := .boolean) Bd.returns (by simp) (hb hby at_200) hr, hrun, hended, _, _, rfl, ?_, ⟨_, rfl⟩, hW, hsame.mono (by decide) (by decide)⟩
  show Q_own_law Z p1 p2 p3 p4 p5 p6 h0 n0 _ T95.heap _
  rw [e95]
  exact ⟨rfl, N95⟩
set_option maxRecDepth 65536 in
set_option maxHeartbeats 40000000 in
theorem comes_1 {Post : Tables → Env → Array Value → State → Outcome → State → Prop} (hpost : ∀ tb e args s v u, (limb_1_1.after args s (.returned v) u = true ∧ limb_1_2.after args s (.returned v) u = true ∧ True) → FrameEnd s (.returned v) u (Jvm.fieldLocs frame_1_writes args s ++ Jvm.arrayLocs frame_1_arrays args s ++ Jvm.staticLocs frame_1_statics s) 16 128 → Post tb e args s (.returned v) u) :
    ArmFor flags0 classFile x code maxLocals ret World_1 tables_1 room_1 Calls_1 rest_1 Pre_1 Post := by
  intro l hfl _ _ p e ha hc hk s m args below hf hA hF happ hP
  obtain ⟨hcalls, hrest, hpre⟩ := hP
  obtain ⟨-, -, -, hnamed, -, -, -, hat⟩ := (Spec.applies_iff hf).mp happ
  obtain ⟨hg, hn⟩ := and_e (Cond.before_iff.mp (show (Jvm.Cond.and given_1 narrow_1).before args s = true from hpre))
  obtain ⟨hcount, k0⟩ := and_e hg
  obtain ⟨g0, k1⟩ := and_e k0
  obtain ⟨g1, k2⟩ := and_e k1
  obtain ⟨g2, k3⟩ := and_e k2
  obtain ⟨g3, k4⟩ := and_e k3
  obtain ⟨g4, k5⟩ := and_e k4
  have g5 := k5
  obtain ⟨w0, w1, w2, w3, w4, w5, rfl⟩ : ∃ w0 w1 w2 w3 w4 w5 : Value, args = #[w0, w1, w2, w3, w4, w5] := by
    have hs : args.size = 6 := by simpa [Cond.value, given_1] using hcount
    obtain ⟨L⟩ := args
    match L, hs with
    | [w0, w1, w2, w3, w4, w5], _ => exact ⟨w0, w1, w2, w3, w4, w5, rfl⟩
  have hw := fun d (hd : d ∈ tables_1) => atoms_spec (ws := Jvm.Cond.code x code maxLocals ret :: tables_1) hat d (List.mem_cons_of_mem _ hd)
  have hfit : Fit s := fun {y c} hc i hi => by
    obtain ⟨ha, rfl⟩ := Array.getElem?_eq_some_iff.mp hc
    have q := List.all_eq_true.mp ((Array.all_eq_true_iff_forall_mem.mp hF) _ (Array.getElem_mem ha)) i (List.mem_range.mpr hi)
    simpa [Array.getElem?_eq_getElem hi] using q
  obtain ⟨i0, ei0⟩ := isL_v g0
  obtain rfl : w0 = (.long i0) := Option.some.inj ei0
  obtain ⟨i1, ei1⟩ := is_v g1
  obtain rfl : w1 = (.int i1) := Option.some.inj ei1
  obtain ⟨i2, ei2⟩ := is_v g2
  obtain rfl : w2 = (.int i2) := Option.some.inj ei2
  obtain ⟨i3, ei3⟩ := is_v g3
  obtain rfl : w3 = (.int i3) := Option.some.inj ei3
  obtain ⟨i4, ei4⟩ := isL_v g4
  obtain rfl : w4 = (.long i4) := Option.some.inj ei4
  obtain ⟨i5, ei5⟩ := is_v g5
  obtain rfl : w5 = (.int i5) := Option.some.inj ei5
  obtain ⟨n, o, h1, h2, h3, _, L, rfl, ⟨rfl, N⟩, hq⟩ := own_law l s _ hw tables_1 i0 i1 i2 i3 i4 i5 s.heap s.heap.size (Nat.le_refl _)  p e ha hc hk s m _ below hf ((Spec.applies_iff_loose hf).mp happ).1 ⟨rfl, State.Warmed39.refl s, rfl⟩ trivial
  refine ⟨n, _, h1, h2, h3, hpost _ _ _ _ _ _ ⟨Cond.after_iff.mpr rfl, Cond.after_iff.mpr (eq_i res_at (Term.int_eval (1)) rfl), trivial⟩ ⟨hq.1, hq.2.1, (hq.2.2.sift fun y hy => Or.inr (N y hy)).mono (by decide) (by decide)⟩⟩
theorem main_1_1 : Claimed_1_1 := comes_1 fun _ _ _ _ _ _ h hF => ⟨h.1, hF⟩
theorem main_1_2 : Claimed_1_2 := comes_1 fun _ _ _ _ _ _ h hF => ⟨h.2.1, hF⟩
end Jvm.Pilot.@@N@@
namespace Jvm.Pilot.@@N@@
open Jvm Jvm.ClassFile Sem Op Lib Jvm.Free Jvm.Stand Jvm.Pilot.@@N@@.Jvm.D
/-! MADE BY PROGRAM (witnessworld.py) out of the Statement's table words and the real class files: 10 classes; the members and pool entries that the words name. The judged class is class 1, her method 1. -/
namespace start1
open Jvm.ClassFile
def u (s : String) : CpInfo := .utf8 (stringToUtf16 s)
/-- a pool by its gaps: so many unusable entries, then the entry; so many at the end -/
def gap : Nat → List CpInfo → List CpInfo
  | 0, r => r
  | n + 1, r => .unusable :: gap n r
def poolList (es : List (Nat × CpInfo)) (last : Nat) : List CpInfo := es.foldr (fun e r => gap e.1 (e.2 :: r)) (gap last [])
def pool (es : List (Nat × CpInfo)) (last : Nat) : Array CpInfo := ⟨poolList es last⟩
def fileOf (pool : Array CpInfo) (this : Nat) (attrs : Array Attribute := #[]) (ms : Array MethodInfo := #[]) (fl : Nat := 33) (sup : Nat := 0) (ifs : Array Nat := #[]) (fds : Array FieldInfo := #[]) : ClassFile where
  minorVersion := 0
  majorVersion := 65
  constantPool := pool
  accessFlags := fl
  thisClass := this
  superClass := sup
  interfaces := ifs
  fields := fds
  methods := ms
  attributes := attrs
def plain (name : String) (sup : Option ClassId) : Class where
  name := name
  kind := .ordinary
  loader := none
  accessFlags := 33
  super := sup
  interfaces := #[]
  cf := none
  fields := #[]
  methods := #[]
  instanceTypes := #[]
  staticTypes := #[]
  resolved := #[]
  callSites := []
  init := .initialized
  statics := none
  mirror := none

def pool0 : Array CpInfo := pool [(5, u "<init>"), (0, u "()V"), (1, .class_ 10), (1, u "java/lang/Object")] 113

def k0c0 : Code := { maxStack := 0, maxLocals := 1, code := object_method_1_code, exceptionTable := #[], attributes := #[] }
def k0m0 : Method := { name := "<init>", desc := "()V", sig := { parameters := [], returnType := none }, accessFlags := 1, code := some k0c0 }
/-- java/lang/Object -/
def k0 : Class := { plain "java/lang/Object" none with
  accessFlags := 33
  interfaces := #[]
  cf := some (fileOf pool0 8 #[] #[{ accessFlags := 1, nameIndex := 5, descriptorIndex := 6, attributes := #[] }] 33 0 #[] #[])
  fields := #[]
  methods := #[k0m0]
  instanceTypes := #[]
  staticTypes := #[]
  resolved := Array.replicate 124 none
  statics := none }

def pool1 : Array CpInfo := pool [(2, .class_ 4), (1, u "java/lang/Object"), (0, u "<init>"), (0, u "()V"), (2, .long 9223372036854775807), (1, .integer 65535), (0, .integer 2147483647), (2, .integer 2147483640), (0, .class_ 17), (0, u "com/example/keelstore/keelstore/StoreFile$Value"), (0, .methodref 16 19), (0, .nameAndType 5 20), (0, u "(JIII)V"), (0, .methodref 16 22), (0, .nameAndType 23 24), (0, u "frameLength"), (0, u "()J"), (0, .long 19), (1, .methodref 16 28), (0, .nameAndType 29 24), (0, u "offset"), (0, .class_ 31), (0, u "com/example/keelstore/keelstore/ValueFrameLengthPinLaw"), (2, u "law"), (0, u "(JIIIJI)Z")] 5

def k1m0 : Method := { name := "<init>", desc := "()V", sig := { parameters := [], returnType := none }, accessFlags := 1, code := none }
def k1c1 : Code := { maxStack := 7, maxLocals := 25, code := code, exceptionTable := #[], attributes := #[] }
def k1m1 : Method := { name := "law", desc := "(JIIIJI)Z", sig := { parameters := [.long, .int, .int, .int, .long, .int], returnType := some .boolean }, accessFlags := 9, code := some k1c1 }
/-- com/example/keelstore/keelstore/ValueFrameLengthPinLaw -/
def k1 : Class := { plain "com/example/keelstore/keelstore/ValueFrameLengthPinLaw" (some 0) with
  accessFlags := 49
  interfaces := #[]
  cf := some (fileOf pool1 30 #[] #[{ accessFlags := 1, nameIndex := 5, descriptorIndex := 6, attributes := #[] }, { accessFlags := 9, nameIndex := 34, descriptorIndex := 35, attributes := #[] }] 49 2 #[] #[])
  fields := #[]
  methods := #[k1m0, k1m1]
  instanceTypes := #[]
  staticTypes := #[]
  resolved := Array.replicate 41 none
  statics := none }

def pool2 : Array CpInfo := pool [(1, .methodref 2 3), (0, .class_ 4), (0, .nameAndType 5 6), (0, u "java/lang/Object"), (0, u "<init>"), (0, u "()V"), (0, .class_ 8), (0, u "java/lang/Record")] 13

def k2c0 : Code := { maxStack := 1, maxLocals := 1, code := jdk_30_method_1_code, exceptionTable := #[], attributes := #[] }
def k2m0 : Method := { name := "<init>", desc := "()V", sig := { parameters := [], returnType := none }, accessFlags := 4, code := some k2c0 }
/-- java/lang/Record -/
def k2 : Class := { plain "java/lang/Record" (some 0) with
  accessFlags := 1057
  interfaces := #[]
  cf := some (fileOf pool2 7 #[] #[{ accessFlags := 4, nameIndex := 5, descriptorIndex := 6, attributes := #[] }] 1057 2 #[] #[])
  fields := #[]
  methods := #[k2m0]
  instanceTypes := #[]
  staticTypes := #[]
  resolved := Array.replicate 22 none
  statics := none }

def pool3 : Array CpInfo := pool [(1, .class_ 2), (0, u "com/example/keelstore/keelstore/StoreFile"), (0, .methodref 4 5), (0, .class_ 6), (0, .nameAndType 7 8), (0, u "java/lang/Record"), (0, u "<init>"), (0, u "()V"), (0, .fieldref 10 11), (0, .class_ 12), (0, .nameAndType 13 14), (0, u "com/example/keelstore/keelstore/StoreFile$Value"), (0, u "frame"), (0, u "J"), (0, .fieldref 10 16), (0, .nameAndType 17 18), (0, u "keyLength"), (0, u "I"), (0, .fieldref 10 20), (0, .nameAndType 21 18), (0, u "length"), (0, .fieldref 10 23), (0, .nameAndType 24 18), (0, u "checksum"), (0, .long 19), (13, u "(JIII)V"), (3, u "offset"), (0, u "()J"), (0, u "frameLength")] 28

def k3c0 : Code := { maxStack := 3, maxLocals := 6, code := prog_63_method_1_code, exceptionTable := #[], attributes := #[] }
def k3m0 : Method := { name := "<init>", desc := "(JIII)V", sig := { parameters := [.long, .int, .int, .int], returnType := none }, accessFlags := 0, code := some k3c0 }
def k3c1 : Code := { maxStack := 4, maxLocals := 1, code := prog_63_method_2_code, exceptionTable := #[], attributes := #[] }
def k3m1 : Method := { name := "offset", desc := "()J", sig := { parameters := [], returnType := some .long }, accessFlags := 0, code := some k3c1 }
def k3c2 : Code := { maxStack := 4, maxLocals := 1, code := prog_63_method_3_code, exceptionTable := #[], attributes := #[] }
def k3m2 : Method := { name := "frameLength", desc := "()J", sig := { parameters := [], returnType := some .long }, accessFlags := 0, code := some k3c2 }
/-- com/example/keelstore/keelstore/StoreFile$Value -/
def k3 : Class := { plain "com/example/keelstore/keelstore/StoreFile$Value" (some 2) with
  accessFlags := 48
  interfaces := #[]
  cf := some (fileOf pool3 10 #[.nestHost 1] #[{ accessFlags := 0, nameIndex := 7, descriptorIndex := 39, attributes := #[] }, { accessFlags := 0, nameIndex := 43, descriptorIndex := 44, attributes := #[] }, { accessFlags := 0, nameIndex := 45, descriptorIndex := 44, attributes := #[] }] 48 4 #[] #[{ accessFlags := 18, nameIndex := 13, descriptorIndex := 14, attributes := #[] }, { accessFlags := 18, nameIndex := 17, descriptorIndex := 18, attributes := #[] }, { accessFlags := 18, nameIndex := 21, descriptorIndex := 18, attributes := #[] }, { accessFlags := 18, nameIndex := 24, descriptorIndex := 18, attributes := #[] }])
  fields := #[{ name := "frame", type := .long, accessFlags := 18, slot := 0, constantValue := 0 }, { name := "keyLength", type := .int, accessFlags := 18, slot := 1, constantValue := 0 }, { name := "length", type := .int, accessFlags := 18, slot := 2, constantValue := 0 }, { name := "checksum", type := .int, accessFlags := 18, slot := 3, constantValue := 0 }]
  methods := #[k3m0, k3m1, k3m2]
  instanceTypes := #[.long, .int, .int, .int]
  staticTypes := #[]
  resolved := Array.replicate 74 none
  statics := none }

def pool4 : Array CpInfo := pool [(1, u "java/lang/Cloneable"), (0, .class_ 1), (0, u "java/lang/Object"), (0, .class_ 3)] 3

/-- java/lang/Cloneable -/
def k4 : Class := { plain "java/lang/Cloneable" (some 0) with
  accessFlags := 1537
  interfaces := #[]
  cf := some (fileOf pool4 2 #[] #[] 1537 4 #[] #[])
  fields := #[]
  methods := #[]
  instanceTypes := #[]
  staticTypes := #[]
  resolved := Array.replicate 8 none
  statics := none }

def pool5 : Array CpInfo := pool [(1, u "java/io/Serializable"), (0, .class_ 1), (0, u "java/lang/Object"), (0, .class_ 3)] 3

/-- java/io/Serializable -/
def k5 : Class := { plain "java/io/Serializable" (some 0) with
  accessFlags := 1537
  interfaces := #[]
  cf := some (fileOf pool5 2 #[] #[] 1537 4 #[] #[])
  fields := #[]
  methods := #[]
  instanceTypes := #[]
  staticTypes := #[]
  resolved := Array.replicate 8 none
  statics := none }

/-- the primitive byte -/
def k6 : Class := { plain "byte" none with kind := .primitive 'B', accessFlags := 0x411 }
/-- [B -/
def k7 : Class := { plain "[B" (some 0) with kind := .array 6 .byte, interfaces := #[4, 5], accessFlags := 1041 }

/-- the primitive int -/
def k8 : Class := { plain "int" none with kind := .primitive 'I', accessFlags := 0x411 }
/-- [I -/
def k9 : Class := { plain "[I" (some 0) with kind := .array 8 .int, interfaces := #[4, 5], accessFlags := 1041 }

def heap : Heap := #[]
def classes : Array Class := #[k0, k1, k2, k3, k4, k5, k6, k7, k8, k9]
def interned : List (Array UInt16 × Addr) := []
def slotsUsed : Nat := 0
def theMethod : MethodId := ⟨1, 1⟩
def args0 : Array Value := #[.long 5, .int 5, .int 6, .int 7, .long 5, .int 8]
def aboutOver (below : List Frame) : State where
  vm := { classes := classes, interned := interned.toArray }
  heap := heap
  slotsUsed := slotsUsed
  threads := #[{ frames := .invoking theMethod args0 :: below }]
def below0 : List Frame := [.native { method := ⟨0, 0⟩, args := #[] }]
def about1 : State := aboutOver below0
def p0 : Program := .bare "" "" ""
def e0 : Env := launch0.env 0 0 0
theorem w_frames : about1.frames = Frame.invoking theMethod args0 :: below0 := rfl
set_option maxRecDepth 65536 in
theorem w_args : argsFit about1.vm theMethod args0 = true := by decide +kernel
set_option maxRecDepth 65536 in
theorem w_heap : heapFits about1 = true := by decide +kernel
set_option maxRecDepth 65536 in
theorem w_runnable : about1.curStatus? = some .runnable := by decide +kernel
set_option maxRecDepth 65536 in
theorem w_alone : about1.alone = true := by decide +kernel
set_option maxRecDepth 65536 in
theorem w_named : about1.methodNamed? x = some theMethod := by decide +kernel
set_option maxRecDepth 65536 in
theorem w_hears : about1.hears theMethod below0 = true := by decide +kernel
set_option maxRecDepth 65536 in
theorem w_ripe : about1.ripe theMethod args0 below0 = true := by decide +kernel
theorem w_running : about1.status = .running := rfl
set_option maxRecDepth 65536 in
theorem w_room : about1.hasRoom e0.platform room_1 = true :=
  launch0.hasRoom_least _ room_1 (by decide +kernel) (by decide +kernel) (by decide +kernel) (by decide +kernel) (by decide +kernel) (by decide +kernel)
theorem allAtoms_all (ts : List Jvm.Cond) (a : Array Jvm.Value) (st : Jvm.State) : (allAtoms ts).before a st = ts.all (fun c => c.before a st) := by
  induction ts with
  | nil => rfl
  | cons c t ih =>
    show (Jvm.Cond.and c (allAtoms t)).before a st = _
    rw [Jvm.Cond.before_and, ih, List.all_cons]
def words1 : List Jvm.Cond := Jvm.Cond.code x code maxLocals ret :: tables_1
/-- a 'code' word, met by the world's own term for the bytes: nothing is compared byte by byte -/
theorem code_word {y : MethodName} {bytes : ByteArray} {mx : Nat} {rt : Option FieldType} {a : Array Value} {s : State} {m : MethodId} {meth : Method} {c : Code} (h1 : s.methodNamed? y = some m) (h2 : s.vm.method? m = some meth) (h3 : meth.code = some c) (h4 : c.code = bytes)
    (h5 : (c.maxLocals == mx && c.exceptionTable.isEmpty && decide (c.maxStack ≤ mostOperands) && decide (meth.sig.returnType = rt) && !meth.locks && decide (parseMethodDescriptor y.desc = some meth.sig)) = true) : (Jvm.Cond.code y bytes mx rt).before a s = true := by
  simp only [Bool.and_eq_true, beq_iff_eq, Bool.not_eq_true', decide_eq_true_eq] at h5
  obtain ⟨⟨⟨⟨⟨g1, g2⟩, g3⟩, g4⟩, g5⟩, g6⟩ := h5
  simp [Cond.before, Cond.holds, Cond.value, h1, h2, h3, h4, g1, g2, g3, g4, g5, g6]
def isCode : Jvm.Cond → Bool
  | .code _ _ _ _ => true
  | _ => false
theorem all_split {L : List Jvm.Cond} {P : Jvm.Cond → Bool} (h1 : L.all (fun c => isCode c || P c) = true) (h2 : ∀ c ∈ L.filter isCode, P c = true) : L.all P = true := by
  refine List.all_eq_true.mpr fun c hc => ?_
  have h := List.all_eq_true.mp h1 c hc
  rcases Bool.eq_false_or_eq_true (isCode c) with hi | hi
  · exact h2 c (List.mem_filter.mpr ⟨hc, hi⟩)
  · simpa [hi] using h
set_option maxRecDepth 65536 in
theorem w_c0 : (Jvm.Cond.code x code maxLocals ret).before args0 about1 = true := code_word (m := ⟨1, 1⟩) (meth := k1m1) (c := k1c1) (by decide +kernel) rfl rfl rfl (by decide +kernel)
set_option maxRecDepth 65536 in
theorem w_c1 : (Jvm.Cond.code ({ cls := "com/example/keelstore/keelstore/StoreFile$Value", name := "<init>", desc := "(JIII)V" } : Jvm.MethodName) prog_63_method_1_code (6 : Nat) (Option.none : Option Jvm.ClassFile.FieldType)).before args0 about1 = true := code_word (m := ⟨3, 0⟩) (meth := k3m0) (c := k3c0) (by decide +kernel) rfl rfl rfl (by decide +kernel)
set_option maxRecDepth 65536 in
theorem w_c2 : (Jvm.Cond.code ({ cls := "java/lang/Record", name := "<init>", desc := "()V" } : Jvm.MethodName) jdk_30_method_1_code (1 : Nat) (Option.none : Option Jvm.ClassFile.FieldType)).before args0 about1 = true := code_word (m := ⟨2, 0⟩) (meth := k2m0) (c := k2c0) (by decide +kernel) rfl rfl rfl (by decide +kernel)
set_option maxRecDepth 65536 in
theorem w_c3 : (Jvm.Cond.code ({ cls := "java/lang/Object", name := "<init>", desc := "()V" } : Jvm.MethodName) object_method_1_code (1 : Nat) (Option.none : Option Jvm.ClassFile.FieldType)).before args0 about1 = true := code_word (m := ⟨0, 0⟩) (meth := k0m0) (c := k0c0) (by decide +kernel) rfl rfl rfl (by decide +kernel)
set_option maxRecDepth 65536 in
theorem w_c4 : (Jvm.Cond.code ({ cls := "com/example/keelstore/keelstore/StoreFile$Value", name := "frameLength", desc := "()J" } : Jvm.MethodName) prog_63_method_3_code (1 : Nat) (Option.some Jvm.ClassFile.FieldType.long)).before args0 about1 = true := code_word (m := ⟨3, 2⟩) (meth := k3m2) (c := k3c2) (by decide +kernel) rfl rfl rfl (by decide +kernel)
set_option maxRecDepth 65536 in
theorem w_c5 : (Jvm.Cond.code ({ cls := "com/example/keelstore/keelstore/StoreFile$Value", name := "offset", desc := "()J" } : Jvm.MethodName) prog_63_method_2_code (1 : Nat) (Option.some Jvm.ClassFile.FieldType.long)).before args0 about1 = true := code_word (m := ⟨3, 1⟩) (meth := k3m1) (c := k3c1) (by decide +kernel) rfl rfl rfl (by decide +kernel)
def codes1 : List Jvm.Cond := [Jvm.Cond.code x code maxLocals ret, Jvm.Cond.code ({ cls := "com/example/keelstore/keelstore/StoreFile$Value", name := "<init>", desc := "(JIII)V" } : Jvm.MethodName) prog_63_method_1_code (6 : Nat) (Option.none : Option Jvm.ClassFile.FieldType), Jvm.Cond.code ({ cls := "java/lang/Record", name := "<init>", desc := "()V" } : Jvm.MethodName) jdk_30_method_1_code (1 : Nat) (Option.none : Option Jvm.ClassFile.FieldType), Jvm.Cond.code ({ cls := "java/lang/Object", name := "<init>", desc := "()V" } : Jvm.MethodName) object_method_1_code (1 : Nat) (Option.none : Option Jvm.ClassFile.FieldType), Jvm.Cond.code ({ cls := "com/example/keelstore/keelstore/StoreFile$Value", name := "frameLength", desc := "()J" } : Jvm.MethodName) prog_63_method_3_code (1 : Nat) (Option.some Jvm.ClassFile.FieldType.long), Jvm.Cond.code ({ cls := "com/example/keelstore/keelstore/StoreFile$Value", name := "offset", desc := "()J" } : Jvm.MethodName) prog_63_method_2_code (1 : Nat) (Option.some Jvm.ClassFile.FieldType.long)]
set_option maxRecDepth 65536 in
theorem codes_eq : words1.filter isCode = codes1 := rfl
theorem w_codes : ∀ c ∈ words1.filter isCode, c.before args0 about1 = true := by
  rw [codes_eq]
  intro c hc
  simp only [codes1, List.mem_cons, List.not_mem_nil, or_false] at hc
  rcases hc with rfl | rfl | rfl | rfl | rfl | rfl
  · exact w_c0
  · exact w_c1
  · exact w_c2
  · exact w_c3
  · exact w_c4
  · exact w_c5
set_option maxRecDepth 65536 in
theorem w_t1 : (words1.take 24).all (fun c => isCode c || c.before args0 about1) = true := by decide +kernel
set_option maxRecDepth 65536 in
theorem w_t2 : (words1.drop 24).all (fun c => isCode c || c.before args0 about1) = true := by decide +kernel
theorem w_tables : (allAtoms (Jvm.Cond.code x code maxLocals ret :: tables_1)).before args0 about1 = true := by
  rw [allAtoms_all]
  show words1.all (fun c => c.before args0 about1) = true
  refine all_split ?_ w_codes
  rw [← List.take_append_drop 24 words1, List.all_append, w_t1, w_t2]
  rfl
set_option maxRecDepth 65536 in
theorem w_case : (Jvm.Cond.and given_1 narrow_1).before args0 about1 = true := by decide +kernel
theorem w_applies : (headSpec (Jvm.Cond.code x code maxLocals ret :: tables_1) room_1).applies x e0.platform about1 = true :=
  (Spec.applies_iff w_frames).mpr ⟨w_running, w_runnable, w_alone, w_named, w_hears, w_ripe, w_room, w_tables⟩
theorem atStart : AtStart classFile x code maxLocals ret World_1 tables_1 room_1 Calls_1 rest_1 Pre_1 launch0 p0 e0 about1 theMethod args0 below0 :=
  ⟨lists_1, trivial, launch0.admits_env _ _ _, launch0.least_env, fairChoices_fair.cas, fairChoices_fair.clock, w_frames, w_args, w_heap, w_applies, trivial, trivial, w_case⟩
end start1
theorem witness_1 : WitnessClaimed_1 := ⟨start1.p0, start1.e0, start1.about1, start1.theMethod, start1.args0, start1.below0, start1.atStart⟩
end Jvm.Pilot.@@N@@
