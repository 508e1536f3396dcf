import JvmDerived
import JvmDerived.Pilot.@@N@@Statement
import JvmDerived.Pilot.@@N@@Code
set_option linter.unusedVariables false
set_option linter.unusedSimpArgs false
namespace Jvm.Pilot.@@N@@
open Jvm Jvm.ClassFile Sem Op Lib Jvm.Free Jvm.Stand Jvm.LawKit Jvm.RoadKit Bundle Jvm.Pilot.@@N@@.Jvm.D
/-- the run comes from S to an end of which Q holds -/
def own_Goes (p : Program) (e : Env) (below : List Frame) (S : State) (Q : Outcome → State → Prop) : Prop := ∃ s₂ o, Steps p.tables e below S s₂ ∧ s₂.status = .running ∧ Ended s₂ below o ∧ Q o s₂
theorem own_go {p : Program} {e : Env} {below : List Frame} {S N : State} {Q : Outcome → State → Prop} (h : ∀ t, Steps p.tables e below N t → Steps p.tables e below S t) (k : own_Goes p e below N Q) : own_Goes p e below S Q := by
  obtain ⟨s₂, o, h1, h2⟩ := k; exact ⟨s₂, o, h _ h1, h2⟩
/-- the model's own selection picks a private method itself -/
theorem own_selp {y : MethodName} {s : State} {args : Array Value} {n : Nat} (hy : y.cls ≠ "java/lang/invoke/MethodHandle" ∧ y.cls ≠ "java/lang/invoke/VarHandle") (hins : (Cond.instantiable y.cls n).before args s = true) (hpriv : (Cond.privateMethod y).before args s = true) (hinst : (Cond.instanceMethod y).before args s = true) : (Cond.selects y.cls y y).before args s = true := by
  obtain ⟨c, k, hc, hk, -, hniab, -, -⟩ := Cond.instantiable_spec hins
  have hni : k.isInterface = false := (Bool.or_eq_false_iff.mp hniab).1
  obtain ⟨mk, methM, hnamed, hmethM, -, -⟩ := Cond.instanceMethod_spec hinst
  have hfound : s.methodFound? y.cls y.name y.desc = some mk := State.methodFound?_of_named hnamed hy
  have hcls : mk.cls = c := Option.some.inj ((findClass_of_methodNamed hnamed).symm.trans hc)
  have hsel : selectMethod {} s.vm c mk = .method mk := selectMethod_private hmethM (Cond.privateMethod_at hpriv mk methM hnamed hmethM)
  simp only [Cond.before, Cond.holds, Cond.value, hc, hfound, hnamed, hsel, hcls, hk]
  simp; exact hni
/-- a place where roads meet: walked once, for whatever the roads bring -/
theorem own_join {p : Program} {e : Env} {below : List Frame} {S : State} {Q : Outcome → State → Prop} {α : Type} {P : α → Prop} {F : α → State} (h1 : ∀ z, P z → own_Goes p e below (F z) Q) (h2 : (∀ z, P z → own_Goes p e below (F z) Q) → own_Goes p e below S Q) : own_Goes p e below S Q := h2 h1
def own_g (l : List Int32) (j : Int32) : Int32 := l.getD j.toNatClampNeg 0
theorem own_gd (l : List Int32) (n : Nat) : (l.map Value.int).getD n (.int (0 : Int32)) = .int (l.getD n 0) := by
  simp only [List.getD, List.getElem?_map]
  cases l[n]? <;> rfl
theorem own_z5 (n : Nat) : (([0, 0, 0, 0, 0] : List Int32).map Value.int).getD n (.int (0 : Int32)) = .int (0 : Int32) := by
  rw [own_gd]
  match n with
  | 0 | 1 | 2 | 3 | 4 => rfl
  | n + 5 => rfl
abbrev own_in (b : Nat) (x : Int32) : Prop := ¬ x < 0 ∧ x < Int32.ofNat b
theorem own_ix {l : List Int32} {j : Int32} {z : Int32} (h : ¬ j < 0 ∧ j < z) (hl : l.length = z.toNatClampNeg) : j.toNatClampNeg < (l.map Value.int).length := by
  rw [List.length_map, hl]
  have h1 := h.1; have h2 := h.2
  rw [Int32.lt_iff_toInt_lt] at h1 h2
  have e : (0 : Int32).toInt = 0 := by decide
  simp only [Int32.toNatClampNeg]
  omega
def own_swap (els pos : List Int32) (i j : Int32) : List Int32 × List Int32 := ((els.set i.toNatClampNeg (own_g els j)).set j.toNatClampNeg (own_g els i), (pos.set (own_g els j).toNatClampNeg i).set (own_g els i).toNatClampNeg j)
/-- elements, position, markedEnd[0] -/
abbrev own_St : Type := List Int32 × List Int32 × Int32
def own_mark (st : own_St) (e : Int32) : own_St := if own_g st.2.1 e < st.2.2 then st else ((own_swap st.1 st.2.1 (own_g st.2.1 e) st.2.2).1, (own_swap st.1 st.2.1 (own_g st.2.1 e) st.2.2).2, st.2.2 + 1)
def own_mk (n i e : Int32) (st : own_St) : own_St := if i < n then own_mark st e else st
def own_s0 : own_St := ([0, 1, 2, 3, 4], [0, 1, 2, 3, 4], 0)
def own_s1 (n e0 : Int32) : own_St := own_mk n 0 e0 own_s0
def own_s2 (n e0 e1 : Int32) : own_St := own_mk n 1 e1 (own_s1 n e0)
def own_s3 (n e0 e1 e2 : Int32) : own_St := own_mk n 2 e2 (own_s2 n e0 e1)
def own_s4 (n e0 e1 e2 e3 : Int32) : own_St := own_mk n 3 e3 (own_s3 n e0 e1 e2)
def own_r5 (x : Int32) : Bool := decide (¬ x < 0) && decide (x < 5)
def own_inv (st : own_St) : Bool := decide (st.1.length = 5) && decide (st.2.1.length = 5) && st.1.all own_r5 && st.2.1.all own_r5 && decide (¬ st.2.2 < 0)
def own_v5 : List Int32 := [0, 1, 2, 3, 4]
theorem own_mem5 {x : Int32} (h : ¬ x < 0 ∧ x < 5) : x ∈ own_v5 := by
  obtain ⟨h1, h2⟩ := h
  rw [Int32.lt_iff_toInt_lt] at h1 h2
  have e0 : (0 : Int32).toInt = 0 := by decide
  have e1 : (1 : Int32).toInt = 1 := by decide
  have e2 : (2 : Int32).toInt = 2 := by decide
  have e3 : (3 : Int32).toInt = 3 := by decide
  have e4 : (4 : Int32).toInt = 4 := by decide
  have e5 : (5 : Int32).toInt = 5 := by decide
  have : x.toInt = 0 ∨ x.toInt = 1 ∨ x.toInt = 2 ∨ x.toInt = 3 ∨ x.toInt = 4 := by omega
  simp only [own_v5, List.mem_cons, List.not_mem_nil, or_false]
  rcases this with h | h | h | h | h
  · exact Or.inl (Int32.toInt_inj.mp (h.trans e0.symm))
  · exact Or.inr (Or.inl (Int32.toInt_inj.mp (h.trans e1.symm)))
  · exact Or.inr (Or.inr (Or.inl (Int32.toInt_inj.mp (h.trans e2.symm))))
  · exact Or.inr (Or.inr (Or.inr (Or.inl (Int32.toInt_inj.mp (h.trans e3.symm)))))
  · exact Or.inr (Or.inr (Or.inr (Or.inr (Int32.toInt_inj.mp (h.trans e4.symm)))))
theorem own_rem (p : Int32) : ¬ ((p &&& (2147483647 : Int32)) % (5 : Int32)) < 0 ∧ ((p &&& (2147483647 : Int32)) % (5 : Int32)) < 5 := by
  have h := (c_andS p 2147483647).2.2 (by decide)
  have h1 := (c_irem (p &&& 2147483647) 5 5 (by decide)).1 h
  rw [Int32.lt_iff_toInt_lt, Int32.lt_iff_toInt_lt, h1]
  have e0 : (0 : Int32).toInt = 0 := by decide
  have e5 : (5 : Int32).toInt = 5 := by decide
  omega
theorem own_getr {l : List Int32} (hl : l.length = 5) (ha : l.all own_r5 = true) {j : Int32} (h : ¬ j < 0 ∧ j < 5) : ¬ own_g l j < 0 ∧ own_g l j < 5 := by
  have hi : j.toNatClampNeg < l.length := by
    have := own_ix (l := l) (z := 5) h (by rw [hl]; decide)
    rwa [List.length_map] at this
  have q := List.all_eq_true.mp ha _ (List.getElem_mem hi)
  have e : own_g l j = l[j.toNatClampNeg] := by simp [own_g, List.getD, hi]
  rw [e]
  simpa [own_r5] using q
theorem own_i1 : ∀ n ∈ own_v5, ∀ a ∈ own_v5, own_inv (own_s1 n a) = true := by decide +kernel
theorem own_i2 : ∀ n ∈ own_v5, ∀ a ∈ own_v5, ∀ b ∈ own_v5, own_inv (own_s2 n a b) = true := by decide +kernel
theorem own_i3 : ∀ n ∈ own_v5, ∀ a ∈ own_v5, ∀ b ∈ own_v5, ∀ c ∈ own_v5, own_inv (own_s3 n a b c) = true := by decide +kernel
theorem own_i4 : ∀ n ∈ own_v5, ∀ a ∈ own_v5, ∀ b ∈ own_v5, ∀ c ∈ own_v5, ∀ d ∈ own_v5, own_inv (own_s4 n a b c d) = true := by decide +kernel
/-- want and k -/
abbrev own_Wt : Type := List Int32 × Int32
def own_put (w : own_Wt) (x : Int32) : own_Wt := (w.1.set w.2.toNatClampNeg x, w.2 + 1)
def own_w1 (n a : Int32) : own_Wt := if 0 < n then own_put ([0, 0, 0, 0], 0) a else ([0, 0, 0, 0], 0)
def own_w2 (n a b : Int32) : own_Wt := if 1 < n ∧ ¬ b = a then own_put (own_w1 n a) b else own_w1 n a
def own_w3 (n a b c : Int32) : own_Wt := if 2 < n ∧ ¬ c = a ∧ ¬ c = b then own_put (own_w2 n a b) c else own_w2 n a b
def own_w4 (n a b c d : Int32) : own_Wt := if 3 < n ∧ ¬ d = a ∧ ¬ d = b ∧ ¬ d = c then own_put (own_w3 n a b c) d else own_w3 n a b c
def own_k (w : own_Wt) : Bool := decide (w.1.length = 4) && decide (¬ w.2 < 0) && decide (w.2 < 4)
theorem own_k1 : ∀ n ∈ own_v5, ∀ a ∈ own_v5, own_k (own_w1 n a) = true := by decide +kernel
theorem own_k2 : ∀ n ∈ own_v5, ∀ a ∈ own_v5, ∀ b ∈ own_v5, own_k (own_w2 n a b) = true := by decide +kernel
theorem own_k3 : ∀ n ∈ own_v5, ∀ a ∈ own_v5, ∀ b ∈ own_v5, ∀ c ∈ own_v5, own_k (own_w3 n a b c) = true := by decide +kernel
theorem own_k4 : ∀ n ∈ own_v5, ∀ a ∈ own_v5, ∀ b ∈ own_v5, ∀ c ∈ own_v5, ∀ d ∈ own_v5, (own_w4 n a b c d).1.length = 4 := by decide +kernel
def own_bit (x : Int32) : Int32 := if x < 0 then 64 else if x < 5 then 1 <<< (x &&& 31) else 64
def own_perm (s : own_St) : Bool := decide ((((own_bit (own_g s.1 0) ||| own_bit (own_g s.1 1)) ||| own_bit (own_g s.1 2)) ||| own_bit (own_g s.1 3)) ||| own_bit (own_g s.1 4) = 31)
def own_front (s : own_St) (w : own_Wt) : Bool := (decide (¬ 0 < w.2) || decide (own_g s.1 0 = own_g w.1 0)) && (decide (¬ 1 < w.2) || decide (own_g s.1 1 = own_g w.1 1)) && (decide (¬ 2 < w.2) || decide (own_g s.1 2 = own_g w.1 2)) && (decide (¬ 3 < w.2) || decide (own_g s.1 3 = own_g w.1 3))
theorem own_all : ∀ n ∈ own_v5, ∀ a ∈ own_v5, ∀ b ∈ own_v5, ∀ c ∈ own_v5, ∀ d ∈ own_v5, (own_perm (own_s4 n a b c d) && own_front (own_s4 n a b c d) (own_w4 n a b c d)) = true := by decide +kernel
theorem own_frontE {s : own_St} {w : own_Wt} (h : own_front s w = true) : (0 < w.2 → own_g s.1 0 = own_g w.1 0) ∧ (1 < w.2 → own_g s.1 1 = own_g w.1 1) ∧ (2 < w.2 → own_g s.1 2 = own_g w.1 2) ∧ (3 < w.2 → own_g s.1 3 = own_g w.1 3) := by
  simp only [own_front, Bool.and_eq_true, Bool.or_eq_true, decide_eq_true_eq] at h
  obtain ⟨⟨⟨h1, h2⟩, h3⟩, h4⟩ := h
  exact ⟨fun q => h1.resolve_left (fun k => k q), fun q => h2.resolve_left (fun k => k q), fun q => h3.resolve_left (fun k => k q), fun q => h4.resolve_left (fun k => k q)⟩
theorem own_pn6 : plainName "com/example/trim_chain/trimchain/engine/Partition" = true := by first | (simp [plainName, overriddenIn]; done) | decide +kernel
theorem own_ef_own_swapM (m : MethodId) (ap : Addr) (p1 : Int32) (p2 : Int32) : entryFrame m #[(.ref ap), (.int p1), (.int p2)] 5 = (mkF m 0 #[.val (.ref ap), .val (.int p1), .val (.int p2), .unset, .unset] []) := by first | (simp [entryFrame, mkF, argsToLocals, Value.category]; done) | rfl
def Q_own_swapM (Z : State) (ap : Addr) (p1 : Int32) (p2 : Int32) (ae : Addr) (ao : Addr) (ke : ClassId) (ko : ClassId) (els : List Int32) (pos : List Int32) (h0 : Heap) (n0 : Nat) (v : Option Value) (h : Heap) (L : List Loc) : Prop := v = none ∧ Fr n0 L ∧ Keep h0 h [ae, ao] ∧ Arv Z h ae ke .int (5 : Int32) ((own_swap els pos p1 p2).1.map Value.int) (.int (0 : Int32)) ∧ Arv Z h ao ko .int (5 : Int32) ((own_swap els pos p1 p2).2.map Value.int) (.int (0 : Int32))
def G_own_swapM (Z : State) (ap : Addr) (p1 : Int32) (p2 : Int32) (ae : Addr) (ao : Addr) (ke : ClassId) (ko : ClassId) (els : List Int32) (pos : List Int32) (h0 : Heap) (n0 : Nat) (s : State) : Outcome → State → Prop := fun o U' => ∃ v L, o = .returned v ∧ Q_own_swapM Z ap p1 p2 ae ao ke ko els pos h0 n0 v U'.heap L ∧ FrameEnd s o U' L ({ frames := 0, cells := 0, slots := 0, locals := 0 } : Room).cells ({ frames := 0, cells := 0, slots := 0, locals := 0 } : Room).slots
theorem own_d6_0 : decode prog_10_method_15_code 0 = .ok (.aload_n 0, 1) := by decide +kernel
theorem own_d6_1 : decode prog_10_method_15_code 1 = .ok (.getfield 7, 3) := by decide +kernel
theorem own_d6_4 : decode prog_10_method_15_code 4 = .ok (.iload_n 1, 1) := by decide +kernel
theorem own_d6_5 : decode prog_10_method_15_code 5 = .ok (.iaload, 1) := by decide +kernel
theorem own_d6_6 : decode prog_10_method_15_code 6 = .ok (.istore_n 3, 1) := by decide +kernel
theorem own_d6_7 : decode prog_10_method_15_code 7 = .ok (.aload_n 0, 1) := by decide +kernel
theorem own_d6_8 : decode prog_10_method_15_code 8 = .ok (.getfield 7, 3) := by decide +kernel
theorem own_d6_11 : decode prog_10_method_15_code 11 = .ok (.iload_n 2, 1) := by decide +kernel
theorem own_d6_12 : decode prog_10_method_15_code 12 = .ok (.iaload, 1) := by decide +kernel
theorem own_d6_13 : decode prog_10_method_15_code 13 = .ok (.istore 4, 2) := by decide +kernel
theorem own_d6_15 : decode prog_10_method_15_code 15 = .ok (.aload_n 0, 1) := by decide +kernel
theorem own_d6_16 : decode prog_10_method_15_code 16 = .ok (.getfield 7, 3) := by decide +kernel
theorem own_d6_19 : decode prog_10_method_15_code 19 = .ok (.iload_n 1, 1) := by decide +kernel
theorem own_d6_20 : decode prog_10_method_15_code 20 = .ok (.iload 4, 2) := by decide +kernel
theorem own_d6_22 : decode prog_10_method_15_code 22 = .ok (.iastore, 1) := by decide +kernel
theorem own_d6_23 : decode prog_10_method_15_code 23 = .ok (.aload_n 0, 1) := by decide +kernel
theorem own_d6_24 : decode prog_10_method_15_code 24 = .ok (.getfield 7, 3) := by decide +kernel
theorem own_d6_27 : decode prog_10_method_15_code 27 = .ok (.iload_n 2, 1) := by decide +kernel
theorem own_d6_28 : decode prog_10_method_15_code 28 = .ok (.iload_n 3, 1) := by decide +kernel
theorem own_d6_29 : decode prog_10_method_15_code 29 = .ok (.iastore, 1) := by decide +kernel
theorem own_d6_30 : decode prog_10_method_15_code 30 = .ok (.aload_n 0, 1) := by decide +kernel
theorem own_d6_31 : decode prog_10_method_15_code 31 = .ok (.getfield 13, 3) := by decide +kernel
theorem own_d6_34 : decode prog_10_method_15_code 34 = .ok (.iload 4, 2) := by decide +kernel
theorem own_d6_36 : decode prog_10_method_15_code 36 = .ok (.iload_n 1, 1) := by decide +kernel
theorem own_d6_37 : decode prog_10_method_15_code 37 = .ok (.iastore, 1) := by decide +kernel
theorem own_d6_38 : decode prog_10_method_15_code 38 = .ok (.aload_n 0, 1) := by decide +kernel
theorem own_d6_39 : decode prog_10_method_15_code 39 = .ok (.getfield 13, 3) := by decide +kernel
theorem own_d6_42 : decode prog_10_method_15_code 42 = .ok (.iload_n 3, 1) := by decide +kernel
theorem own_d6_43 : decode prog_10_method_15_code 43 = .ok (.iload_n 2, 1) := by decide +kernel
theorem own_d6_44 : decode prog_10_method_15_code 44 = .ok (.iastore, 1) := by decide +kernel
theorem own_d6_45 : decode prog_10_method_15_code 45 = .ok (.return_, 1) := by decide +kernel
set_option maxRecDepth 65536 in
set_option maxHeartbeats 40000000 in
theorem own_swapM (l : Launch) (Z : State) (a0 : Array Value) (hw : ∀ d ∈ tables_1, d.before a0 Z = true) (ws : List Jvm.Cond) (ap : Addr) (p1 : Int32) (p2 : Int32) (ae : Addr) (ao : Addr) (ke : ClassId) (ko : ClassId) (els : List Int32) (pos : List Int32) (h0 : Heap) (n0 : Nat) (Z0 : n0 ≤ h0.size) (F_el : Fld Z h0 ap "com/example/trim_chain/trimchain/engine/Partition" "elements" "[I" (.ref ae)) (F_po : Fld Z h0 ap "com/example/trim_chain/trimchain/engine/Partition" "position" "[I" (.ref ao)) (A_e : Arv Z h0 ae ke .int (5 : Int32) (els.map Value.int) (.int (0 : Int32))) (A_o : Arv Z h0 ao ko .int (5 : Int32) (pos.map Value.int) (.int (0 : Int32))) (le : els.length = (5 : Int32).toNatClampNeg) (lo : pos.length = (5 : Int32).toNatClampNeg) (ne1 : ap ≠ ae) (ne2 : ap ≠ ao) (ne3 : ae ≠ ao) (ge : n0 ≤ ae) (go : n0 ≤ ao) (i1 : ¬ p1 < 0 ∧ p1 < 5) (i2 : ¬ p2 < 0 ∧ p2 < 5) (i3 : ¬ own_g els p1 < 0 ∧ own_g els p1 < 5) (i4 : ¬ own_g els p2 < 0 ∧ own_g els p2 < 5) :
    MetFree l (⟨"com/example/trim_chain/trimchain/engine/Partition", "swap", "(II)V"⟩ : MethodName) (head1 (Jvm.Cond.code (⟨"com/example/trim_chain/trimchain/engine/Partition", "swap", "(II)V"⟩ : MethodName) prog_10_method_15_code 5 none :: ws) ({ frames := 0, cells := 0, slots := 0, locals := 0 } : Room)) (fun a U => a = #[(.ref ap), (.int p1), (.int p2)] ∧ Z.Warmed39 U.vm ∧ U.heap = h0) (fun _ _ _ _ _ => True) (fun _ U o U' => ∃ v L, o = .returned v ∧ Q_own_swapM Z ap p1 p2 ae ao ke ko els pos h0 n0 v U'.heap L ∧ FrameEnd U o U' L ({ frames := 0, cells := 0, slots := 0, locals := 0 } : Room).cells ({ frames := 0, cells := 0, slots := 0, locals := 0 } : Room).slots) := by
  refine MetFree.of_bodySF (plainFor_of_name own_pn6) hisR ?_
  intro p e s m args below meth c s₁ Bd hml0 hP hK
  obtain ⟨rfl, hZ, hh⟩ := hP
  have hx := Bd.exec
  have hby := Bd.bytes
  have hml : c.maxLocals = 5 := hml0
  have hown : s.vm.findClass "com/example/trim_chain/trimchain/engine/Partition" = some m.cls := findClass_of_methodNamed Bd.named
  have hnm := (name_of_methodNamed Bd.named Bd.method).1
  have X0 : Stand p l e ({ frames := 0, cells := 0, slots := 0, locals := 0 } : Room) s m #[(.ref ap), (.int p1), (.int p2)] below meth c s₁ [] 0 0 := Stand.of_body Bd
  have e0 : s₁.heap = h0 := by rw [← hh, Bd.state]; rfl
  have N0 := Fr.nil n0
  refine own_go (S := s₁.setTop (entryFrame m #[(.ref ap), (.int p1), (.int p2)] 5)) (Q := (G_own_swapM Z ap p1 p2 ae ao ke ko els pos h0 n0 s)) (fun _ k_ => castTop (own_ef_own_swapM m ap p1 p2) k_) ?_
  show own_Goes p e below (s₁.setTop (mkF m 0 #[.val (.ref ap), .val (.int p1), .val (.int p2), .unset, .unset] [])) (G_own_swapM Z ap p1 p2 ae ao ke ko els pos h0 n0 s)
  have K1 : Keep h0 h0 [ae, ao] := Keep.refl h0 [ae, ao]
  refine own_go (fun _ k_ => XS.aloadN X0.here hx rfl (hb hby own_d6_0) rfl rfl k_) ?_
  show own_Goes p e below (s₁.setTop (mkF m 1 #[.val (.ref ap), .val (.int p1), .val (.int p2), .unset, .unset] [(.ref ap)])) (G_own_swapM Z ap p1 p2 ae ao ke ko els pos h0 n0 s)
  obtain ⟨T2, X2, e2, st2⟩ := getF X0 hx hZ hown (host := "") (Or.inl (hw _ (List.mem_of_getElem? (i := 11) rfl))) Via.refl e0 F_el (g := (mkF m 1 #[.val (.ref ap), .val (.int p1), .val (.int p2), .unset, .unset] [(.ref ap)])) rfl rfl (hb hby own_d6_1)
  refine own_go st2 ?_
  show own_Goes p e below (T2.setTop (mkF m 4 #[.val (.ref ap), .val (.int p1), .val (.int p2), .unset, .unset] [(.ref ae)])) (G_own_swapM Z ap p1 p2 ae ao ke ko els pos h0 n0 s)
  refine own_go (fun _ k_ => XS.iloadN X2.here hx rfl (hb hby own_d6_4) rfl k_) ?_
  show own_Goes p e below (T2.setTop (mkF m 5 #[.val (.ref ap), .val (.int p1), .val (.int p2), .unset, .unset] [(.int p1), (.ref ae)])) (G_own_swapM Z ap p1 p2 ae ao ke ko els pos h0 n0 s)
  obtain ⟨c3, Ar3, q3, s3, z3, H3, G3⟩ := id A_e
  have hin3 := inb_of s3 i1
  have hat3 := H3.at hin3 (v := (.int (own_g els p1))) (own_gd _ _)
  refine own_go (fun _ k_ => X2.iaload hx (j := p1) (v := (.int (own_g els p1))) (by rw [e2]; exact Ar3.1) (State.isArrayOf_alike hZ.alike Ar3.2.1) Ar3.2.2 hin3 hat3 (g := (mkF m 5 #[.val (.ref ap), .val (.int p1), .val (.int p2), .unset, .unset] [(.int p1), (.ref ae)])) rfl rfl (hb hby own_d6_5) _ k_) ?_
  show own_Goes p e below (T2.setTop (mkF m 6 #[.val (.ref ap), .val (.int p1), .val (.int p2), .unset, .unset] [(.int (own_g els p1))])) (G_own_swapM Z ap p1 p2 ae ao ke ko els pos h0 n0 s)
  refine own_go (fun _ k_ => XS.istoreN X2.here hx rfl (hb hby own_d6_6) rfl (l' := #[.val (.ref ap), .val (.int p1), .val (.int p2), .val (.int (own_g els p1)), .unset]) rfl k_) ?_
  show own_Goes p e below (T2.setTop (mkF m 7 #[.val (.ref ap), .val (.int p1), .val (.int p2), .val (.int (own_g els p1)), .unset] [])) (G_own_swapM Z ap p1 p2 ae ao ke ko els pos h0 n0 s)
  refine own_go (fun _ k_ => XS.aloadN X2.here hx rfl (hb hby own_d6_7) rfl rfl k_) ?_
  show own_Goes p e below (T2.setTop (mkF m 8 #[.val (.ref ap), .val (.int p1), .val (.int p2), .val (.int (own_g els p1)), .unset] [(.ref ap)])) (G_own_swapM Z ap p1 p2 ae ao ke ko els pos h0 n0 s)
  obtain ⟨T4, X4, e4, st4⟩ := getF X2 hx hZ hown (host := "") (Or.inl (hw _ (List.mem_of_getElem? (i := 11) rfl))) Via.refl e2 F_el (g := (mkF m 8 #[.val (.ref ap), .val (.int p1), .val (.int p2), .val (.int (own_g els p1)), .unset] [(.ref ap)])) rfl rfl (hb hby own_d6_8)
  refine own_go st4 ?_
  show own_Goes p e below (T4.setTop (mkF m 11 #[.val (.ref ap), .val (.int p1), .val (.int p2), .val (.int (own_g els p1)), .unset] [(.ref ae)])) (G_own_swapM Z ap p1 p2 ae ao ke ko els pos h0 n0 s)
  refine own_go (fun _ k_ => XS.iloadN X4.here hx rfl (hb hby own_d6_11) rfl k_) ?_
  show own_Goes p e below (T4.setTop (mkF m 12 #[.val (.ref ap), .val (.int p1), .val (.int p2), .val (.int (own_g els p1)), .unset] [(.int p2), (.ref ae)])) (G_own_swapM Z ap p1 p2 ae ao ke ko els pos h0 n0 s)
  obtain ⟨c5, Ar5, q5, s5, z5, H5, G5⟩ := id A_e
  have hin5 := inb_of s5 i2
  have hat5 := H5.at hin5 (v := (.int (own_g els p2))) (own_gd _ _)
  refine own_go (fun _ k_ => X4.iaload hx (j := p2) (v := (.int (own_g els p2))) (by rw [e4]; exact Ar5.1) (State.isArrayOf_alike hZ.alike Ar5.2.1) Ar5.2.2 hin5 hat5 (g := (mkF m 12 #[.val (.ref ap), .val (.int p1), .val (.int p2), .val (.int (own_g els p1)), .unset] [(.int p2), (.ref ae)])) rfl rfl (hb hby own_d6_12) _ k_) ?_
  show own_Goes p e below (T4.setTop (mkF m 13 #[.val (.ref ap), .val (.int p1), .val (.int p2), .val (.int (own_g els p1)), .unset] [(.int (own_g els p2))])) (G_own_swapM Z ap p1 p2 ae ao ke ko els pos h0 n0 s)
  refine own_go (fun _ k_ => XS.istore X4.here hx rfl (hb hby own_d6_13) rfl (l' := #[.val (.ref ap), .val (.int p1), .val (.int p2), .val (.int (own_g els p1)), .val (.int (own_g els p2))]) rfl k_) ?_
  show own_Goes p e below (T4.setTop (mkF m 15 #[.val (.ref ap), .val (.int p1), .val (.int p2), .val (.int (own_g els p1)), .val (.int (own_g els p2))] [])) (G_own_swapM Z ap p1 p2 ae ao ke ko els pos h0 n0 s)
  refine own_go (fun _ k_ => XS.aloadN X4.here hx rfl (hb hby own_d6_15) rfl rfl k_) ?_
  show own_Goes p e below (T4.setTop (mkF m 16 #[.val (.ref ap), .val (.int p1), .val (.int p2), .val (.int (own_g els p1)), .val (.int (own_g els p2))] [(.ref ap)])) (G_own_swapM Z ap p1 p2 ae ao ke ko els pos h0 n0 s)
  obtain ⟨T6, X6, e6, st6⟩ := getF X4 hx hZ hown (host := "") (Or.inl (hw _ (List.mem_of_getElem? (i := 11) rfl))) Via.refl e4 F_el (g := (mkF m 16 #[.val (.ref ap), .val (.int p1), .val (.int p2), .val (.int (own_g els p1)), .val (.int (own_g els p2))] [(.ref ap)])) rfl rfl (hb hby own_d6_16)
  refine own_go st6 ?_
  show own_Goes p e below (T6.setTop (mkF m 19 #[.val (.ref ap), .val (.int p1), .val (.int p2), .val (.int (own_g els p1)), .val (.int (own_g els p2))] [(.ref ae)])) (G_own_swapM Z ap p1 p2 ae ao ke ko els pos h0 n0 s)
  refine own_go (fun _ k_ => XS.iloadN X6.here hx rfl (hb hby own_d6_19) rfl k_) ?_
  show own_Goes p e below (T6.setTop (mkF m 20 #[.val (.ref ap), .val (.int p1), .val (.int p2), .val (.int (own_g els p1)), .val (.int (own_g els p2))] [(.int p1), (.ref ae)])) (G_own_swapM Z ap p1 p2 ae ao ke ko els pos h0 n0 s)
  refine own_go (fun _ k_ => XS.iload X6.here hx rfl (hb hby own_d6_20) rfl k_) ?_
  show own_Goes p e below (T6.setTop (mkF m 22 #[.val (.ref ap), .val (.int p1), .val (.int p2), .val (.int (own_g els p1)), .val (.int (own_g els p2))] [(.int (own_g els p2)), (.int p1), (.ref ae)])) (G_own_swapM Z ap p1 p2 ae ao ke ko els pos h0 n0 s)
  obtain ⟨c7, Ar7, q7, s7, z7, H7, G7⟩ := id A_e
  have hin7 := inb_of s7 (j := p1) i1
  obtain ⟨T7, h7, X7, e7, W7, st7⟩ := stI X6 hx hZ e6 Ar7 hin7 (g := (mkF m 22 #[.val (.ref ap), .val (.int p1), .val (.int p2), .val (.int (own_g els p1)), .val (.int (own_g els p2))] [(.int (own_g els p2)), (.int p1), (.ref ae)])) rfl rfl (hb hby own_d6_22)
  have F_8 := F_el.other W7 (Or.inl ne1)
  have F_9 := F_po.other W7 (Or.inl ne1)
  have A_10 := A_o.other W7 (Ne.symm ne3)
  have Av7 : Arv Z h7 ae ke .int (5 : Int32) ((els.set (p1).toNatClampNeg (own_g els p2)).map Value.int) (.int (0 : Int32)) := by rw [List.map_set]; exact Arv.set Ar7 q7 s7 z7 H7 G7 (v := (.int (own_g els p2))) rfl W7 _ rfl (own_ix (j := p1) (z := (5 : Int32)) i1 le)
  have N7 := Fr.snoc X7 N0 ge
  have Z7 : n0 ≤ h7.size := by rw [W7.size]; exact Z0
  have K7 : Keep h0 h7 [ae, ao] := K1.wr W7 (Or.inl (List.mem_of_getElem? (i := 0) rfl))
  refine own_go st7 ?_
  show own_Goes p e below (T7.setTop (mkF m 23 #[.val (.ref ap), .val (.int p1), .val (.int p2), .val (.int (own_g els p1)), .val (.int (own_g els p2))] [])) (G_own_swapM Z ap p1 p2 ae ao ke ko els pos h0 n0 s)
  refine own_go (fun _ k_ => XS.aloadN X7.here hx rfl (hb hby own_d6_23) rfl rfl k_) ?_
  show own_Goes p e below (T7.setTop (mkF m 24 #[.val (.ref ap), .val (.int p1), .val (.int p2), .val (.int (own_g els p1)), .val (.int (own_g els p2))] [(.ref ap)])) (G_own_swapM Z ap p1 p2 ae ao ke ko els pos h0 n0 s)
  obtain ⟨T11, X11, e11, st11⟩ := getF X7 hx hZ hown (host := "") (Or.inl (hw _ (List.mem_of_getElem? (i := 11) rfl))) Via.refl e7 F_8 (g := (mkF m 24 #[.val (.ref ap), .val (.int p1), .val (.int p2), .val (.int (own_g els p1)), .val (.int (own_g els p2))] [(.ref ap)])) rfl rfl (hb hby own_d6_24)
  refine own_go st11 ?_
  show own_Goes p e below (T11.setTop (mkF m 27 #[.val (.ref ap), .val (.int p1), .val (.int p2), .val (.int (own_g els p1)), .val (.int (own_g els p2))] [(.ref ae)])) (G_own_swapM Z ap p1 p2 ae ao ke ko els pos h0 n0 s)
  refine own_go (fun _ k_ => XS.iloadN X11.here hx rfl (hb hby own_d6_27) rfl k_) ?_
  show own_Goes p e below (T11.setTop (mkF m 28 #[.val (.ref ap), .val (.int p1), .val (.int p2), .val (.int (own_g els p1)), .val (.int (own_g els p2))] [(.int p2), (.ref ae)])) (G_own_swapM Z ap p1 p2 ae ao ke ko els pos h0 n0 s)
  refine own_go (fun _ k_ => XS.iloadN X11.here hx rfl (hb hby own_d6_28) rfl k_) ?_
  show own_Goes p e below (T11.setTop (mkF m 29 #[.val (.ref ap), .val (.int p1), .val (.int p2), .val (.int (own_g els p1)), .val (.int (own_g els p2))] [(.int (own_g els p1)), (.int p2), (.ref ae)])) (G_own_swapM Z ap p1 p2 ae ao ke ko els pos h0 n0 s)
  obtain ⟨c12, Ar12, q12, s12, z12, H12, G12⟩ := id Av7
  have hin12 := inb_of s12 (j := p2) i2
  obtain ⟨T12, h12, X12, e12, W12, st12⟩ := stI X11 hx hZ e11 Ar12 hin12 (g := (mkF m 29 #[.val (.ref ap), .val (.int p1), .val (.int p2), .val (.int (own_g els p1)), .val (.int (own_g els p2))] [(.int (own_g els p1)), (.int p2), (.ref ae)])) rfl rfl (hb hby own_d6_29)
  have F_13 := F_8.other W12 (Or.inl ne1)
  have F_14 := F_9.other W12 (Or.inl ne1)
  have A_15 := A_10.other W12 (Ne.symm ne3)
  have Av12 : Arv Z h12 ae ke .int (5 : Int32) (((els.set (p1).toNatClampNeg (own_g els p2)).set (p2).toNatClampNeg (own_g els p1)).map Value.int) (.int (0 : Int32)) := by rw [List.map_set]; exact Arv.set Ar12 q12 s12 z12 H12 G12 (v := (.int (own_g els p1))) rfl W12 _ rfl (own_ix (j := p2) (z := (5 : Int32)) i2 ((List.length_set ..).trans le))
  have N12 := Fr.snoc X12 N7 ge
  have Z12 : n0 ≤ h12.size := by rw [W12.size]; exact Z7
  have K12 : Keep h0 h12 [ae, ao] := K7.wr W12 (Or.inl (List.mem_of_getElem? (i := 0) rfl))
  refine own_go st12 ?_
  show own_Goes p e below (T12.setTop (mkF m 30 #[.val (.ref ap), .val (.int p1), .val (.int p2), .val (.int (own_g els p1)), .val (.int (own_g els p2))] [])) (G_own_swapM Z ap p1 p2 ae ao ke ko els pos h0 n0 s)
  refine own_go (fun _ k_ => XS.aloadN X12.here hx rfl (hb hby own_d6_30) rfl rfl k_) ?_
  show own_Goes p e below (T12.setTop (mkF m 31 #[.val (.ref ap), .val (.int p1), .val (.int p2), .val (.int (own_g els p1)), .val (.int (own_g els p2))] [(.ref ap)])) (G_own_swapM Z ap p1 p2 ae ao ke ko els pos h0 n0 s)
  obtain ⟨T16, X16, e16, st16⟩ := getF X12 hx hZ hown (host := "") (Or.inl (hw _ (List.mem_of_getElem? (i := 13) rfl))) Via.refl e12 F_14 (g := (mkF m 31 #[.val (.ref ap), .val (.int p1), .val (.int p2), .val (.int (own_g els p1)), .val (.int (own_g els p2))] [(.ref ap)])) rfl rfl (hb hby own_d6_31)
  refine own_go st16 ?_
  show own_Goes p e below (T16.setTop (mkF m 34 #[.val (.ref ap), .val (.int p1), .val (.int p2), .val (.int (own_g els p1)), .val (.int (own_g els p2))] [(.ref ao)])) (G_own_swapM Z ap p1 p2 ae ao ke ko els pos h0 n0 s)
  refine own_go (fun _ k_ => XS.iload X16.here hx rfl (hb hby own_d6_34) rfl k_) ?_
  show own_Goes p e below (T16.setTop (mkF m 36 #[.val (.ref ap), .val (.int p1), .val (.int p2), .val (.int (own_g els p1)), .val (.int (own_g els p2))] [(.int (own_g els p2)), (.ref ao)])) (G_own_swapM Z ap p1 p2 ae ao ke ko els pos h0 n0 s)
  refine own_go (fun _ k_ => XS.iloadN X16.here hx rfl (hb hby own_d6_36) rfl k_) ?_
  show own_Goes p e below (T16.setTop (mkF m 37 #[.val (.ref ap), .val (.int p1), .val (.int p2), .val (.int (own_g els p1)), .val (.int (own_g els p2))] [(.int p1), (.int (own_g els p2)), (.ref ao)])) (G_own_swapM Z ap p1 p2 ae ao ke ko els pos h0 n0 s)
  obtain ⟨c17, Ar17, q17, s17, z17, H17, G17⟩ := id A_15
  have hin17 := inb_of s17 (j := (own_g els p2)) i4
  obtain ⟨T17, h17, X17, e17, W17, st17⟩ := stI X16 hx hZ e16 Ar17 hin17 (g := (mkF m 37 #[.val (.ref ap), .val (.int p1), .val (.int p2), .val (.int (own_g els p1)), .val (.int (own_g els p2))] [(.int p1), (.int (own_g els p2)), (.ref ao)])) rfl rfl (hb hby own_d6_37)
  have F_18 := F_13.other W17 (Or.inl ne2)
  have F_19 := F_14.other W17 (Or.inl ne2)
  have Av12_20 := Av12.other W17 ne3
  have Av17 : Arv Z h17 ao ko .int (5 : Int32) ((pos.set ((own_g els p2)).toNatClampNeg p1).map Value.int) (.int (0 : Int32)) := by rw [List.map_set]; exact Arv.set Ar17 q17 s17 z17 H17 G17 (v := (.int p1)) rfl W17 _ rfl (own_ix (j := (own_g els p2)) (z := (5 : Int32)) i4 lo)
  have N17 := Fr.snoc X17 N12 go
  have Z17 : n0 ≤ h17.size := by rw [W17.size]; exact Z12
  have K17 : Keep h0 h17 [ae, ao] := K12.wr W17 (Or.inl (List.mem_of_getElem? (i := 1) rfl))
  refine own_go st17 ?_
  show own_Goes p e below (T17.setTop (mkF m 38 #[.val (.ref ap), .val (.int p1), .val (.int p2), .val (.int (own_g els p1)), .val (.int (own_g els p2))] [])) (G_own_swapM Z ap p1 p2 ae ao ke ko els pos h0 n0 s)
  refine own_go (fun _ k_ => XS.aloadN X17.here hx rfl (hb hby own_d6_38) rfl rfl k_) ?_
  show own_Goes p e below (T17.setTop (mkF m 39 #[.val (.ref ap), .val (.int p1), .val (.int p2), .val (.int (own_g els p1)), .val (.int (own_g els p2))] [(.ref ap)])) (G_own_swapM Z ap p1 p2 ae ao ke ko els pos h0 n0 s)
  obtain ⟨T21, X21, e21, st21⟩ := getF X17 hx hZ hown (host := "") (Or.inl (hw _ (List.mem_of_getElem? (i := 13) rfl))) Via.refl e17 F_19 (g := (mkF m 39 #[.val (.ref ap), .val (.int p1), .val (.int p2), .val (.int (own_g els p1)), .val (.int (own_g els p2))] [(.ref ap)])) rfl rfl (hb hby own_d6_39)
  refine own_go st21 ?_
  show own_Goes p e below (T21.setTop (mkF m 42 #[.val (.ref ap), .val (.int p1), .val (.int p2), .val (.int (own_g els p1)), .val (.int (own_g els p2))] [(.ref ao)])) (G_own_swapM Z ap p1 p2 ae ao ke ko els pos h0 n0 s)
  refine own_go (fun _ k_ => XS.iloadN X21.here hx rfl (hb hby own_d6_42) rfl k_) ?_
  show own_Goes p e below (T21.setTop (mkF m 43 #[.val (.ref ap), .val (.int p1), .val (.int p2), .val (.int (own_g els p1)), .val (.int (own_g els p2))] [(.int (own_g els p1)), (.ref ao)])) (G_own_swapM Z ap p1 p2 ae ao ke ko els pos h0 n0 s)
  refine own_go (fun _ k_ => XS.iloadN X21.here hx rfl (hb hby own_d6_43) rfl k_) ?_
  show own_Goes p e below (T21.setTop (mkF m 44 #[.val (.ref ap), .val (.int p1), .val (.int p2), .val (.int (own_g els p1)), .val (.int (own_g els p2))] [(.int p2), (.int (own_g els p1)), (.ref ao)])) (G_own_swapM Z ap p1 p2 ae ao ke ko els pos h0 n0 s)
  obtain ⟨c22, Ar22, q22, s22, z22, H22, G22⟩ := id Av17
  have hin22 := inb_of s22 (j := (own_g els p1)) i3
  obtain ⟨T22, h22, X22, e22, W22, st22⟩ := stI X21 hx hZ e21 Ar22 hin22 (g := (mkF m 44 #[.val (.ref ap), .val (.int p1), .val (.int p2), .val (.int (own_g els p1)), .val (.int (own_g els p2))] [(.int p2), (.int (own_g els p1)), (.ref ao)])) rfl rfl (hb hby own_d6_44)
  have F_23 := F_18.other W22 (Or.inl ne2)
  have F_24 := F_19.other W22 (Or.inl ne2)
  have Av12_25 := Av12_20.other W22 ne3
  have Av22 : Arv Z h22 ao ko .int (5 : Int32) (((pos.set ((own_g els p2)).toNatClampNeg p1).set ((own_g els p1)).toNatClampNeg p2).map Value.int) (.int (0 : Int32)) := by rw [List.map_set]; exact Arv.set Ar22 q22 s22 z22 H22 G22 (v := (.int p2)) rfl W22 _ rfl (own_ix (j := (own_g els p1)) (z := (5 : Int32)) i3 ((List.length_set ..).trans lo))
  have N22 := Fr.snoc X22 N17 go
  have Z22 : n0 ≤ h22.size := by rw [W22.size]; exact Z17
  have K22 : Keep h0 h22 [ae, ao] := K17.wr W22 (Or.inl (List.mem_of_getElem? (i := 1) rfl))
  refine own_go st22 ?_
  show own_Goes p e below (T22.setTop (mkF m 45 #[.val (.ref ap), .val (.int p1), .val (.int p2), .val (.int (own_g els p1)), .val (.int (own_g els p2))] [])) (G_own_swapM Z ap p1 p2 ae ao ke ko els pos h0 n0 s)
  obtain ⟨fs, hr, hrun, hended, hW, hsame⟩ := X22.leave (v := none) (fun _ => rfl) Bd.notSynchronized
  refine ⟨_, _, X22.returnOut hx Bd.returns (hb hby own_d6_45) hr, hrun, hended, _, _, rfl, ?_, ⟨_, rfl⟩, hW, hsame.mono (by decide) (by decide)⟩
  show Q_own_swapM Z ap p1 p2 ae ao ke ko els pos h0 n0 _ T22.heap _
  rw [e22]
  exact ⟨rfl, N22, K22, Av12_25, Av22⟩
theorem own_set0 {l : List Int32} (h : l.length = (5 : Int32).toNatClampNeg) (x : Int32) : own_g (l.set ((0 : Int32)).toNatClampNeg x) 0 = x := by
  match l, h with
  | [a, b, c, d, e], _ => rfl
theorem own_k1ne {k : Int32} (h : ¬ k < 0 ∧ k < 5) : ¬ (k + 1 = 0) := by
  have := own_mem5 h
  simp only [own_v5, List.mem_cons, List.not_mem_nil, or_false] at this
  rcases this with rfl | rfl | rfl | rfl | rfl <;> decide
theorem own_pn5 : plainName "com/example/trim_chain/trimchain/engine/Partition" = true := by first | (simp [plainName, overriddenIn]; done) | decide +kernel
theorem own_ef_own_markM (m : MethodId) (ap : Addr) (p1 : Int32) : entryFrame m #[(.ref ap), (.int p1)] 4 = (mkF m 0 #[.val (.ref ap), .val (.int p1), .unset, .unset] []) := by first | (simp [entryFrame, mkF, argsToLocals, Value.category]; done) | rfl
def Q_own_markM (Z : State) (ap : Addr) (p1 : Int32) (ae : Addr) (ao : Addr) (ab : Addr) (asx : Addr) (am : Addr) (atx : Addr) (ke : ClassId) (ko : ClassId) (kb : ClassId) (ks : ClassId) (km : ClassId) (kt : ClassId) (els : List Int32) (pos : List Int32) (mel : List Int32) (tl : List Int32) (k : Int32) (tc : Int32) (h0 : Heap) (n0 : Nat) (v : Option Value) (h : Heap) (L : List Loc) : Prop := v = none ∧ Fr n0 L ∧ Keep h0 h [ap, ae, ao, am, atx] ∧ Fld Z h ap "com/example/trim_chain/trimchain/engine/Partition" "elements" "[I" (.ref ae) ∧ Fld Z h ap "com/example/trim_chain/trimchain/engine/Partition" "position" "[I" (.ref ao) ∧ Fld Z h ap "com/example/trim_chain/trimchain/engine/Partition" "blockOf" "[I" (.ref ab) ∧ Fld Z h ap "com/example/trim_chain/trimchain/engine/Partition" "start" "[I" (.ref asx) ∧ Fld Z h ap "com/example/trim_chain/trimchain/engine/Partition" "markedEnd" "[I" (.ref am) ∧ Fld Z h ap "com/example/trim_chain/trimchain/engine/Partition" "touched" "[I" (.ref atx) ∧ Arv Z h ae ke .int (5 : Int32) ((own_mark (els, pos, k) p1).1.map Value.int) (.int (0 : Int32)) ∧ Arv Z h ao ko .int (5 : Int32) ((own_mark (els, pos, k) p1).2.1.map Value.int) (.int (0 : Int32)) ∧ (∃ mel' : List Int32, mel'.length = (5 : Int32).toNatClampNeg ∧ own_g mel' 0 = (own_mark (els, pos, k) p1).2.2 ∧ Arv Z h am km .int (5 : Int32) (mel'.map Value.int) (.int (0 : Int32))) ∧ ∃ (tl' : List Int32) (tc' : Int32), tl'.length = (5 : Int32).toNatClampNeg ∧ Arv Z h atx kt .int (5 : Int32) (tl'.map Value.int) (.int (0 : Int32)) ∧ Fld Z h ap "com/example/trim_chain/trimchain/engine/Partition" "touchedCount" "I" (.int tc') ∧ ((own_mark (els, pos, k) p1).2.2 = 0 → tc' = 0)
def G_own_markM (Z : State) (ap : Addr) (p1 : Int32) (ae : Addr) (ao : Addr) (ab : Addr) (asx : Addr) (am : Addr) (atx : Addr) (ke : ClassId) (ko : ClassId) (kb : ClassId) (ks : ClassId) (km : ClassId) (kt : ClassId) (els : List Int32) (pos : List Int32) (mel : List Int32) (tl : List Int32) (k : Int32) (tc : Int32) (h0 : Heap) (n0 : Nat) (s : State) : Outcome → State → Prop := fun o U' => ∃ v L, o = .returned v ∧ Q_own_markM Z ap p1 ae ao ab asx am atx ke ko kb ks km kt els pos mel tl k tc h0 n0 v U'.heap L ∧ FrameEnd s o U' L ({ frames := 1, cells := 0, slots := 0, locals := 16 } : Room).cells ({ frames := 1, cells := 0, slots := 0, locals := 16 } : Room).slots
theorem own_d5_0 : decode prog_10_method_11_code 0 = .ok (.aload_n 0, 1) := by decide +kernel
theorem own_d5_1 : decode prog_10_method_11_code 1 = .ok (.getfield 16, 3) := by decide +kernel
theorem own_d5_4 : decode prog_10_method_11_code 4 = .ok (.iload_n 1, 1) := by decide +kernel
theorem own_d5_5 : decode prog_10_method_11_code 5 = .ok (.iaload, 1) := by decide +kernel
theorem own_d5_6 : decode prog_10_method_11_code 6 = .ok (.istore_n 2, 1) := by decide +kernel
theorem own_d5_7 : decode prog_10_method_11_code 7 = .ok (.aload_n 0, 1) := by decide +kernel
theorem own_d5_8 : decode prog_10_method_11_code 8 = .ok (.getfield 13, 3) := by decide +kernel
theorem own_d5_11 : decode prog_10_method_11_code 11 = .ok (.iload_n 1, 1) := by decide +kernel
theorem own_d5_12 : decode prog_10_method_11_code 12 = .ok (.iaload, 1) := by decide +kernel
theorem own_d5_13 : decode prog_10_method_11_code 13 = .ok (.istore_n 3, 1) := by decide +kernel
theorem own_d5_14 : decode prog_10_method_11_code 14 = .ok (.iload_n 3, 1) := by decide +kernel
theorem own_d5_15 : decode prog_10_method_11_code 15 = .ok (.aload_n 0, 1) := by decide +kernel
theorem own_d5_16 : decode prog_10_method_11_code 16 = .ok (.getfield 25, 3) := by decide +kernel
theorem own_d5_19 : decode prog_10_method_11_code 19 = .ok (.iload_n 2, 1) := by decide +kernel
theorem own_d5_20 : decode prog_10_method_11_code 20 = .ok (.iaload, 1) := by decide +kernel
theorem own_d5_21 : decode prog_10_method_11_code 21 = .ok (.if_icmp .ge 4, 3) := by decide +kernel
theorem own_d5_24 : decode prog_10_method_11_code 24 = .ok (.return_, 1) := by decide +kernel
theorem own_d5_25 : decode prog_10_method_11_code 25 = .ok (.aload_n 0, 1) := by decide +kernel
theorem own_d5_26 : decode prog_10_method_11_code 26 = .ok (.getfield 25, 3) := by decide +kernel
theorem own_d5_29 : decode prog_10_method_11_code 29 = .ok (.iload_n 2, 1) := by decide +kernel
theorem own_d5_30 : decode prog_10_method_11_code 30 = .ok (.iaload, 1) := by decide +kernel
theorem own_d5_31 : decode prog_10_method_11_code 31 = .ok (.aload_n 0, 1) := by decide +kernel
theorem own_d5_32 : decode prog_10_method_11_code 32 = .ok (.getfield 19, 3) := by decide +kernel
theorem own_d5_35 : decode prog_10_method_11_code 35 = .ok (.iload_n 2, 1) := by decide +kernel
theorem own_d5_36 : decode prog_10_method_11_code 36 = .ok (.iaload, 1) := by decide +kernel
theorem own_d5_37 : decode prog_10_method_11_code 37 = .ok (.if_icmp .ne 20, 3) := by decide +kernel
theorem own_d5_40 : decode prog_10_method_11_code 40 = .ok (.aload_n 0, 1) := by decide +kernel
theorem own_d5_41 : decode prog_10_method_11_code 41 = .ok (.getfield 28, 3) := by decide +kernel
theorem own_d5_44 : decode prog_10_method_11_code 44 = .ok (.aload_n 0, 1) := by decide +kernel
theorem own_d5_45 : decode prog_10_method_11_code 45 = .ok (.dup, 1) := by decide +kernel
theorem own_d5_46 : decode prog_10_method_11_code 46 = .ok (.getfield 112, 3) := by decide +kernel
theorem own_d5_49 : decode prog_10_method_11_code 49 = .ok (.dup_x1, 1) := by decide +kernel
theorem own_d5_50 : decode prog_10_method_11_code 50 = .ok (.iconst 1, 1) := by decide +kernel
theorem own_d5_51 : decode prog_10_method_11_code 51 = .ok (.iadd, 1) := by decide +kernel
theorem own_d5_52 : decode prog_10_method_11_code 52 = .ok (.putfield 112, 3) := by decide +kernel
theorem own_d5_55 : decode prog_10_method_11_code 55 = .ok (.iload_n 2, 1) := by decide +kernel
theorem own_d5_56 : decode prog_10_method_11_code 56 = .ok (.iastore, 1) := by decide +kernel
theorem own_d5_57 : decode prog_10_method_11_code 57 = .ok (.aload_n 0, 1) := by decide +kernel
theorem own_d5_58 : decode prog_10_method_11_code 58 = .ok (.iload_n 3, 1) := by decide +kernel
theorem own_d5_59 : decode prog_10_method_11_code 59 = .ok (.aload_n 0, 1) := by decide +kernel
theorem own_d5_60 : decode prog_10_method_11_code 60 = .ok (.getfield 25, 3) := by decide +kernel
theorem own_d5_63 : decode prog_10_method_11_code 63 = .ok (.iload_n 2, 1) := by decide +kernel
theorem own_d5_64 : decode prog_10_method_11_code 64 = .ok (.iaload, 1) := by decide +kernel
theorem own_d5_65 : decode prog_10_method_11_code 65 = .ok (.invokevirtual 115, 3) := by decide +kernel
theorem own_pd0 : parseMethodDescriptor "(II)V" = some ⟨[.int, .int], none⟩ := by decide +kernel
theorem own_d5_68 : decode prog_10_method_11_code 68 = .ok (.aload_n 0, 1) := by decide +kernel
theorem own_d5_69 : decode prog_10_method_11_code 69 = .ok (.getfield 25, 3) := by decide +kernel
theorem own_d5_72 : decode prog_10_method_11_code 72 = .ok (.iload_n 2, 1) := by decide +kernel
theorem own_d5_73 : decode prog_10_method_11_code 73 = .ok (.dup2, 1) := by decide +kernel
theorem own_d5_74 : decode prog_10_method_11_code 74 = .ok (.iaload, 1) := by decide +kernel
theorem own_d5_75 : decode prog_10_method_11_code 75 = .ok (.iconst 1, 1) := by decide +kernel
theorem own_d5_76 : decode prog_10_method_11_code 76 = .ok (.iadd, 1) := by decide +kernel
theorem own_d5_77 : decode prog_10_method_11_code 77 = .ok (.iastore, 1) := by decide +kernel
theorem own_d5_78 : decode prog_10_method_11_code 78 = .ok (.return_, 1) := by decide +kernel
set_option maxRecDepth 65536 in
set_option maxHeartbeats 40000000 in
theorem own_markM (l : Launch) (Z : State) (a0 : Array Value) (hw : ∀ d ∈ tables_1, d.before a0 Z = true) (ws : List Jvm.Cond) (ap : Addr) (p1 : Int32) (ae : Addr) (ao : Addr) (ab : Addr) (asx : Addr) (am : Addr) (atx : Addr) (ke : ClassId) (ko : ClassId) (kb : ClassId) (ks : ClassId) (km : ClassId) (kt : ClassId) (els : List Int32) (pos : List Int32) (mel : List Int32) (tl : List Int32) (k : Int32) (tc : Int32) (h0 : Heap) (n0 : Nat) (Z0 : n0 ≤ h0.size) (E_ap : Exa Z h0 ap "com/example/trim_chain/trimchain/engine/Partition") (F_elements : Fld Z h0 ap "com/example/trim_chain/trimchain/engine/Partition" "elements" "[I" (.ref ae)) (F_position : Fld Z h0 ap "com/example/trim_chain/trimchain/engine/Partition" "position" "[I" (.ref ao)) (F_blockOf : Fld Z h0 ap "com/example/trim_chain/trimchain/engine/Partition" "blockOf" "[I" (.ref ab)) (F_start : Fld Z h0 ap "com/example/trim_chain/trimchain/engine/Partition" "start" "[I" (.ref asx)) (F_markedEnd : Fld Z h0 ap "com/example/trim_chain/trimchain/engine/Partition" "markedEnd" "[I" (.ref am)) (F_touched : Fld Z h0 ap "com/example/trim_chain/trimchain/engine/Partition" "touched" "[I" (.ref atx)) (F_touchedCount : Fld Z h0 ap "com/example/trim_chain/trimchain/engine/Partition" "touchedCount" "I" (.int tc)) (A_elements : Arv Z h0 ae ke .int (5 : Int32) (els.map Value.int) (.int (0 : Int32))) (A_position : Arv Z h0 ao ko .int (5 : Int32) (pos.map Value.int) (.int (0 : Int32))) (A_blockOf : Arv Z h0 ab kb .int (5 : Int32) (([0, 0, 0, 0, 0] : List Int32).map Value.int) (.int (0 : Int32))) (A_start : Arv Z h0 asx ks .int (5 : Int32) (([0, 0, 0, 0, 0] : List Int32).map Value.int) (.int (0 : Int32))) (A_markedEnd : Arv Z h0 am km .int (5 : Int32) (mel.map Value.int) (.int (0 : Int32))) (A_touched : Arv Z h0 atx kt .int (5 : Int32) (tl.map Value.int) (.int (0 : Int32))) (ne_ap_ae : ap ≠ ae) (ne_ap_ao : ap ≠ ao) (ne_ap_ab : ap ≠ ab) (ne_ap_asx : ap ≠ asx) (ne_ap_am : ap ≠ am) (ne_ap_atx : ap ≠ atx) (ne_ae_ao : ae ≠ ao) (ne_ae_ab : ae ≠ ab) (ne_ae_asx : ae ≠ asx) (ne_ae_am : ae ≠ am) (ne_ae_atx : ae ≠ atx) (ne_ao_ab : ao ≠ ab) (ne_ao_asx : ao ≠ asx) (ne_ao_am : ao ≠ am) (ne_ao_atx : ao ≠ atx) (ne_ab_asx : ab ≠ asx) (ne_ab_am : ab ≠ am) (ne_ab_atx : ab ≠ atx) (ne_asx_am : asx ≠ am) (ne_asx_atx : asx ≠ atx) (ne_am_atx : am ≠ atx) (g_ap : n0 ≤ ap) (g_ae : n0 ≤ ae) (g_ao : n0 ≤ ao) (g_ab : n0 ≤ ab) (g_asx : n0 ≤ asx) (g_am : n0 ≤ am) (g_atx : n0 ≤ atx) (lm : mel.length = (5 : Int32).toNatClampNeg) (lt : tl.length = (5 : Int32).toNatClampNeg) (hk : own_g mel 0 = k) (ip : ¬ p1 < 0 ∧ p1 < 5) (inv : own_inv (els, pos, k) = true) (htc : k = 0 → tc = 0) :
    MetFree l (⟨"com/example/trim_chain/trimchain/engine/Partition", "mark", "(I)V"⟩ : MethodName) (head1 (Jvm.Cond.code (⟨"com/example/trim_chain/trimchain/engine/Partition", "mark", "(I)V"⟩ : MethodName) prog_10_method_11_code 4 none :: ws) ({ frames := 1, cells := 0, slots := 0, locals := 16 } : Room)) (fun a U => a = #[(.ref ap), (.int p1)] ∧ Z.Warmed39 U.vm ∧ U.heap = h0) (fun _ _ _ _ _ => True) (fun _ U o U' => ∃ v L, o = .returned v ∧ Q_own_markM Z ap p1 ae ao ab asx am atx ke ko kb ks km kt els pos mel tl k tc h0 n0 v U'.heap L ∧ FrameEnd U o U' L ({ frames := 1, cells := 0, slots := 0, locals := 16 } : Room).cells ({ frames := 1, cells := 0, slots := 0, locals := 16 } : Room).slots) := by
  refine MetFree.of_bodySF (plainFor_of_name own_pn5) hisR ?_
  intro p e s m args below meth c s₁ Bd hml0 hP hK
  obtain ⟨rfl, hZ, hh⟩ := hP
  have hx := Bd.exec
  have hby := Bd.bytes
  have hml : c.maxLocals = 4 := hml0
  have hown : s.vm.findClass "com/example/trim_chain/trimchain/engine/Partition" = some m.cls := findClass_of_methodNamed Bd.named
  have hnm := (name_of_methodNamed Bd.named Bd.method).1
  have X0 : Stand p l e ({ frames := 1, cells := 0, slots := 0, locals := 16 } : Room) s m #[(.ref ap), (.int p1)] below meth c s₁ [] 0 0 := Stand.of_body Bd
  have e0 : s₁.heap = h0 := by rw [← hh, Bd.state]; rfl
  have N0 := Fr.nil n0
  refine own_go (S := s₁.setTop (entryFrame m #[(.ref ap), (.int p1)] 4)) (Q := (G_own_markM Z ap p1 ae ao ab asx am atx ke ko kb ks km kt els pos mel tl k tc h0 n0 s)) (fun _ k_ => castTop (own_ef_own_markM m ap p1) k_) ?_
  show own_Goes p e below (s₁.setTop (mkF m 0 #[.val (.ref ap), .val (.int p1), .unset, .unset] [])) (G_own_markM Z ap p1 ae ao ab asx am atx ke ko kb ks km kt els pos mel tl k tc h0 n0 s)
  have K26 : Keep h0 h0 [ap, ae, ao, am, atx] := Keep.refl h0 [ap, ae, ao, am, atx]
  simp only [own_inv, Bool.and_eq_true, decide_eq_true_eq] at inv
  obtain ⟨⟨⟨⟨le, lo⟩, re⟩, ro⟩, hk0⟩ := inv
  have le : els.length = 5 := le
  have lo : pos.length = 5 := lo
  have re : els.all own_r5 = true := re
  have ro : pos.all own_r5 = true := ro
  have hk0 : ¬ k < 0 := hk0
  have hat : ¬ own_g pos p1 < 0 ∧ own_g pos p1 < 5 := own_getr lo ro ip
  refine own_go (fun _ k_ => XS.aloadN X0.here hx rfl (hb hby own_d5_0) rfl rfl k_) ?_
  show own_Goes p e below (s₁.setTop (mkF m 1 #[.val (.ref ap), .val (.int p1), .unset, .unset] [(.ref ap)])) (G_own_markM Z ap p1 ae ao ab asx am atx ke ko kb ks km kt els pos mel tl k tc h0 n0 s)
  obtain ⟨T27, X27, e27, st27⟩ := getF X0 hx hZ hown (host := "") (Or.inl (hw _ (List.mem_of_getElem? (i := 15) rfl))) Via.refl e0 F_blockOf (g := (mkF m 1 #[.val (.ref ap), .val (.int p1), .unset, .unset] [(.ref ap)])) rfl rfl (hb hby own_d5_1)
  refine own_go st27 ?_
  show own_Goes p e below (T27.setTop (mkF m 4 #[.val (.ref ap), .val (.int p1), .unset, .unset] [(.ref ab)])) (G_own_markM Z ap p1 ae ao ab asx am atx ke ko kb ks km kt els pos mel tl k tc h0 n0 s)
  refine own_go (fun _ k_ => XS.iloadN X27.here hx rfl (hb hby own_d5_4) rfl k_) ?_
  show own_Goes p e below (T27.setTop (mkF m 5 #[.val (.ref ap), .val (.int p1), .unset, .unset] [(.int p1), (.ref ab)])) (G_own_markM Z ap p1 ae ao ab asx am atx ke ko kb ks km kt els pos mel tl k tc h0 n0 s)
  obtain ⟨c28, Ar28, q28, s28, z28, H28, G28⟩ := id A_blockOf
  have hin28 := inb_of s28 ip
  have hat28 := H28.at hin28 (v := (.int (0 : Int32))) (own_z5 _)
  refine own_go (fun _ k_ => X27.iaload hx (j := p1) (v := (.int (0 : Int32))) (by rw [e27]; exact Ar28.1) (State.isArrayOf_alike hZ.alike Ar28.2.1) Ar28.2.2 hin28 hat28 (g := (mkF m 5 #[.val (.ref ap), .val (.int p1), .unset, .unset] [(.int p1), (.ref ab)])) rfl rfl (hb hby own_d5_5) _ k_) ?_
  show own_Goes p e below (T27.setTop (mkF m 6 #[.val (.ref ap), .val (.int p1), .unset, .unset] [(.int (0 : Int32))])) (G_own_markM Z ap p1 ae ao ab asx am atx ke ko kb ks km kt els pos mel tl k tc h0 n0 s)
  refine own_go (fun _ k_ => XS.istoreN X27.here hx rfl (hb hby own_d5_6) rfl (l' := #[.val (.ref ap), .val (.int p1), .val (.int (0 : Int32)), .unset]) rfl k_) ?_
  show own_Goes p e below (T27.setTop (mkF m 7 #[.val (.ref ap), .val (.int p1), .val (.int (0 : Int32)), .unset] [])) (G_own_markM Z ap p1 ae ao ab asx am atx ke ko kb ks km kt els pos mel tl k tc h0 n0 s)
  refine own_go (fun _ k_ => XS.aloadN X27.here hx rfl (hb hby own_d5_7) rfl rfl k_) ?_
  show own_Goes p e below (T27.setTop (mkF m 8 #[.val (.ref ap), .val (.int p1), .val (.int (0 : Int32)), .unset] [(.ref ap)])) (G_own_markM Z ap p1 ae ao ab asx am atx ke ko kb ks km kt els pos mel tl k tc h0 n0 s)
  obtain ⟨T29, X29, e29, st29⟩ := getF X27 hx hZ hown (host := "") (Or.inl (hw _ (List.mem_of_getElem? (i := 13) rfl))) Via.refl e27 F_position (g := (mkF m 8 #[.val (.ref ap), .val (.int p1), .val (.int (0 : Int32)), .unset] [(.ref ap)])) rfl rfl (hb hby own_d5_8)
  refine own_go st29 ?_
  show own_Goes p e below (T29.setTop (mkF m 11 #[.val (.ref ap), .val (.int p1), .val (.int (0 : Int32)), .unset] [(.ref ao)])) (G_own_markM Z ap p1 ae ao ab asx am atx ke ko kb ks km kt els pos mel tl k tc h0 n0 s)
  refine own_go (fun _ k_ => XS.iloadN X29.here hx rfl (hb hby own_d5_11) rfl k_) ?_
  show own_Goes p e below (T29.setTop (mkF m 12 #[.val (.ref ap), .val (.int p1), .val (.int (0 : Int32)), .unset] [(.int p1), (.ref ao)])) (G_own_markM Z ap p1 ae ao ab asx am atx ke ko kb ks km kt els pos mel tl k tc h0 n0 s)
  obtain ⟨c30, Ar30, q30, s30, z30, H30, G30⟩ := id A_position
  have hin30 := inb_of s30 ip
  have hat30 := H30.at hin30 (v := (.int (own_g pos p1))) (own_gd _ _)
  refine own_go (fun _ k_ => X29.iaload hx (j := p1) (v := (.int (own_g pos p1))) (by rw [e29]; exact Ar30.1) (State.isArrayOf_alike hZ.alike Ar30.2.1) Ar30.2.2 hin30 hat30 (g := (mkF m 12 #[.val (.ref ap), .val (.int p1), .val (.int (0 : Int32)), .unset] [(.int p1), (.ref ao)])) rfl rfl (hb hby own_d5_12) _ k_) ?_
  show own_Goes p e below (T29.setTop (mkF m 13 #[.val (.ref ap), .val (.int p1), .val (.int (0 : Int32)), .unset] [(.int (own_g pos p1))])) (G_own_markM Z ap p1 ae ao ab asx am atx ke ko kb ks km kt els pos mel tl k tc h0 n0 s)
  refine own_go (fun _ k_ => XS.istoreN X29.here hx rfl (hb hby own_d5_13) rfl (l' := #[.val (.ref ap), .val (.int p1), .val (.int (0 : Int32)), .val (.int (own_g pos p1))]) rfl k_) ?_
  show own_Goes p e below (T29.setTop (mkF m 14 #[.val (.ref ap), .val (.int p1), .val (.int (0 : Int32)), .val (.int (own_g pos p1))] [])) (G_own_markM Z ap p1 ae ao ab asx am atx ke ko kb ks km kt els pos mel tl k tc h0 n0 s)
  refine own_go (fun _ k_ => XS.iloadN X29.here hx rfl (hb hby own_d5_14) rfl k_) ?_
  show own_Goes p e below (T29.setTop (mkF m 15 #[.val (.ref ap), .val (.int p1), .val (.int (0 : Int32)), .val (.int (own_g pos p1))] [(.int (own_g pos p1))])) (G_own_markM Z ap p1 ae ao ab asx am atx ke ko kb ks km kt els pos mel tl k tc h0 n0 s)
  refine own_go (fun _ k_ => XS.aloadN X29.here hx rfl (hb hby own_d5_15) rfl rfl k_) ?_
  show own_Goes p e below (T29.setTop (mkF m 16 #[.val (.ref ap), .val (.int p1), .val (.int (0 : Int32)), .val (.int (own_g pos p1))] [(.ref ap), (.int (own_g pos p1))])) (G_own_markM Z ap p1 ae ao ab asx am atx ke ko kb ks km kt els pos mel tl k tc h0 n0 s)
  obtain ⟨T31, X31, e31, st31⟩ := getF X29 hx hZ hown (host := "") (Or.inl (hw _ (List.mem_of_getElem? (i := 21) rfl))) Via.refl e29 F_markedEnd (g := (mkF m 16 #[.val (.ref ap), .val (.int p1), .val (.int (0 : Int32)), .val (.int (own_g pos p1))] [(.ref ap), (.int (own_g pos p1))])) rfl rfl (hb hby own_d5_16)
  refine own_go st31 ?_
  show own_Goes p e below (T31.setTop (mkF m 19 #[.val (.ref ap), .val (.int p1), .val (.int (0 : Int32)), .val (.int (own_g pos p1))] [(.ref am), (.int (own_g pos p1))])) (G_own_markM Z ap p1 ae ao ab asx am atx ke ko kb ks km kt els pos mel tl k tc h0 n0 s)
  refine own_go (fun _ k_ => XS.iloadN X31.here hx rfl (hb hby own_d5_19) rfl k_) ?_
  show own_Goes p e below (T31.setTop (mkF m 20 #[.val (.ref ap), .val (.int p1), .val (.int (0 : Int32)), .val (.int (own_g pos p1))] [(.int (0 : Int32)), (.ref am), (.int (own_g pos p1))])) (G_own_markM Z ap p1 ae ao ab asx am atx ke ko kb ks km kt els pos mel tl k tc h0 n0 s)
  obtain ⟨c32, Ar32, q32, s32, z32, H32, G32⟩ := id A_markedEnd
  have hin32 := inb_of s32 (j := (0 : Int32)) (by decide)
  have hat32 := H32.at hin32 (v := (.int k)) ((own_gd _ _).trans (congrArg Value.int hk))
  refine own_go (fun _ k_ => X31.iaload hx (j := (0 : Int32)) (v := (.int k)) (by rw [e31]; exact Ar32.1) (State.isArrayOf_alike hZ.alike Ar32.2.1) Ar32.2.2 hin32 hat32 (g := (mkF m 20 #[.val (.ref ap), .val (.int p1), .val (.int (0 : Int32)), .val (.int (own_g pos p1))] [(.int (0 : Int32)), (.ref am), (.int (own_g pos p1))])) rfl rfl (hb hby own_d5_20) _ k_) ?_
  show own_Goes p e below (T31.setTop (mkF m 21 #[.val (.ref ap), .val (.int p1), .val (.int (0 : Int32)), .val (.int (own_g pos p1))] [(.int k), (.int (own_g pos p1))])) (G_own_markM Z ap p1 ae ao ab asx am atx ke ko kb ks km kt els pos mel tl k tc h0 n0 s)
  by_cases hc21_33 : (own_g pos p1) < k
  · refine own_go (fun _ k_ => XS.icmpNo X31.here hx rfl (hb hby own_d5_21) rfl (XT.ii_ge_f hc21_33) k_) ?_
    show own_Goes p e below (T31.setTop (mkF m 24 #[.val (.ref ap), .val (.int p1), .val (.int (0 : Int32)), .val (.int (own_g pos p1))] [])) (G_own_markM Z ap p1 ae ao ab asx am atx ke ko kb ks km kt els pos mel tl k tc h0 n0 s)
    obtain ⟨fs, hr, hrun, hended, hW, hsame⟩ := X31.leave (v := none) (fun _ => rfl) Bd.notSynchronized
    refine ⟨_, _, X31.returnOut hx Bd.returns (hb hby own_d5_24) hr, hrun, hended, _, _, rfl, ?_, ⟨_, rfl⟩, hW, hsame.mono (by decide) (by decide)⟩
    show Q_own_markM Z ap p1 ae ao ab asx am atx ke ko kb ks km kt els pos mel tl k tc h0 n0 _ T31.heap _
    rw [e31]
    have em : own_mark (els, pos, k) p1 = (els, pos, k) := if_pos hc21_33
    exact ⟨rfl, N0, K26, F_elements, F_position, F_blockOf, F_start, F_markedEnd, F_touched, by rw [em]; exact A_elements, by rw [em]; exact A_position, ⟨mel, lm, by rw [em]; exact hk, A_markedEnd⟩, tl, tc, lt, A_touched, F_touchedCount, by rw [em]; exact htc⟩
  · refine own_go (fun _ k_ => XS.icmpYes X31.here hx rfl (pc0 := 21) (pc' := 25) rfl (hb hby own_d5_21) rfl (XT.ii_ge_t hc21_33) (by decide) (by decide) k_) ?_
    show own_Goes p e below (T31.setTop (mkF m 25 #[.val (.ref ap), .val (.int p1), .val (.int (0 : Int32)), .val (.int (own_g pos p1))] [])) (G_own_markM Z ap p1 ae ao ab asx am atx ke ko kb ks km kt els pos mel tl k tc h0 n0 s)
    have hk5 : ¬ k < 0 ∧ k < 5 := ⟨hk0, Int32.lt_of_le_of_lt (Int32.not_lt.mp hc21_33) hat.2⟩
    refine own_go (fun _ k_ => XS.aloadN X31.here hx rfl (hb hby own_d5_25) rfl rfl k_) ?_
    show own_Goes p e below (T31.setTop (mkF m 26 #[.val (.ref ap), .val (.int p1), .val (.int (0 : Int32)), .val (.int (own_g pos p1))] [(.ref ap)])) (G_own_markM Z ap p1 ae ao ab asx am atx ke ko kb ks km kt els pos mel tl k tc h0 n0 s)
    obtain ⟨T34, X34, e34, st34⟩ := getF X31 hx hZ hown (host := "") (Or.inl (hw _ (List.mem_of_getElem? (i := 21) rfl))) Via.refl e31 F_markedEnd (g := (mkF m 26 #[.val (.ref ap), .val (.int p1), .val (.int (0 : Int32)), .val (.int (own_g pos p1))] [(.ref ap)])) rfl rfl (hb hby own_d5_26)
    refine own_go st34 ?_
    show own_Goes p e below (T34.setTop (mkF m 29 #[.val (.ref ap), .val (.int p1), .val (.int (0 : Int32)), .val (.int (own_g pos p1))] [(.ref am)])) (G_own_markM Z ap p1 ae ao ab asx am atx ke ko kb ks km kt els pos mel tl k tc h0 n0 s)
    refine own_go (fun _ k_ => XS.iloadN X34.here hx rfl (hb hby own_d5_29) rfl k_) ?_
    show own_Goes p e below (T34.setTop (mkF m 30 #[.val (.ref ap), .val (.int p1), .val (.int (0 : Int32)), .val (.int (own_g pos p1))] [(.int (0 : Int32)), (.ref am)])) (G_own_markM Z ap p1 ae ao ab asx am atx ke ko kb ks km kt els pos mel tl k tc h0 n0 s)
    obtain ⟨c35, Ar35, q35, s35, z35, H35, G35⟩ := id A_markedEnd
    have hin35 := inb_of s35 (j := (0 : Int32)) (by decide)
    have hat35 := H35.at hin35 (v := (.int k)) ((own_gd _ _).trans (congrArg Value.int hk))
    refine own_go (fun _ k_ => X34.iaload hx (j := (0 : Int32)) (v := (.int k)) (by rw [e34]; exact Ar35.1) (State.isArrayOf_alike hZ.alike Ar35.2.1) Ar35.2.2 hin35 hat35 (g := (mkF m 30 #[.val (.ref ap), .val (.int p1), .val (.int (0 : Int32)), .val (.int (own_g pos p1))] [(.int (0 : Int32)), (.ref am)])) rfl rfl (hb hby own_d5_30) _ k_) ?_
    show own_Goes p e below (T34.setTop (mkF m 31 #[.val (.ref ap), .val (.int p1), .val (.int (0 : Int32)), .val (.int (own_g pos p1))] [(.int k)])) (G_own_markM Z ap p1 ae ao ab asx am atx ke ko kb ks km kt els pos mel tl k tc h0 n0 s)
    refine own_go (fun _ k_ => XS.aloadN X34.here hx rfl (hb hby own_d5_31) rfl rfl k_) ?_
    show own_Goes p e below (T34.setTop (mkF m 32 #[.val (.ref ap), .val (.int p1), .val (.int (0 : Int32)), .val (.int (own_g pos p1))] [(.ref ap), (.int k)])) (G_own_markM Z ap p1 ae ao ab asx am atx ke ko kb ks km kt els pos mel tl k tc h0 n0 s)
    obtain ⟨T36, X36, e36, st36⟩ := getF X34 hx hZ hown (host := "") (Or.inl (hw _ (List.mem_of_getElem? (i := 17) rfl))) Via.refl e34 F_start (g := (mkF m 32 #[.val (.ref ap), .val (.int p1), .val (.int (0 : Int32)), .val (.int (own_g pos p1))] [(.ref ap), (.int k)])) rfl rfl (hb hby own_d5_32)
    refine own_go st36 ?_
    show own_Goes p e below (T36.setTop (mkF m 35 #[.val (.ref ap), .val (.int p1), .val (.int (0 : Int32)), .val (.int (own_g pos p1))] [(.ref asx), (.int k)])) (G_own_markM Z ap p1 ae ao ab asx am atx ke ko kb ks km kt els pos mel tl k tc h0 n0 s)
    refine own_go (fun _ k_ => XS.iloadN X36.here hx rfl (hb hby own_d5_35) rfl k_) ?_
    show own_Goes p e below (T36.setTop (mkF m 36 #[.val (.ref ap), .val (.int p1), .val (.int (0 : Int32)), .val (.int (own_g pos p1))] [(.int (0 : Int32)), (.ref asx), (.int k)])) (G_own_markM Z ap p1 ae ao ab asx am atx ke ko kb ks km kt els pos mel tl k tc h0 n0 s)
    obtain ⟨c37, Ar37, q37, s37, z37, H37, G37⟩ := id A_start
    have hin37 := inb_of s37 (j := (0 : Int32)) (by decide)
    have hat37 := H37.at hin37 (v := (.int (0 : Int32))) (own_z5 _)
    refine own_go (fun _ k_ => X36.iaload hx (j := (0 : Int32)) (v := (.int (0 : Int32))) (by rw [e36]; exact Ar37.1) (State.isArrayOf_alike hZ.alike Ar37.2.1) Ar37.2.2 hin37 hat37 (g := (mkF m 36 #[.val (.ref ap), .val (.int p1), .val (.int (0 : Int32)), .val (.int (own_g pos p1))] [(.int (0 : Int32)), (.ref asx), (.int k)])) rfl rfl (hb hby own_d5_36) _ k_) ?_
    show own_Goes p e below (T36.setTop (mkF m 37 #[.val (.ref ap), .val (.int p1), .val (.int (0 : Int32)), .val (.int (own_g pos p1))] [(.int (0 : Int32)), (.int k)])) (G_own_markM Z ap p1 ae ao ab asx am atx ke ko kb ks km kt els pos mel tl k tc h0 n0 s)
    by_cases hc37_38 : k = (0 : Int32)
    · refine own_go (fun _ k_ => XS.icmpNo X36.here hx rfl (hb hby own_d5_37) rfl (XT.ii_ne_f hc37_38) k_) ?_
      show own_Goes p e below (T36.setTop (mkF m 40 #[.val (.ref ap), .val (.int p1), .val (.int (0 : Int32)), .val (.int (own_g pos p1))] [])) (G_own_markM Z ap p1 ae ao ab asx am atx ke ko kb ks km kt els pos mel tl k tc h0 n0 s)
      refine own_go (fun _ k_ => XS.aloadN X36.here hx rfl (hb hby own_d5_40) rfl rfl k_) ?_
      show own_Goes p e below (T36.setTop (mkF m 41 #[.val (.ref ap), .val (.int p1), .val (.int (0 : Int32)), .val (.int (own_g pos p1))] [(.ref ap)])) (G_own_markM Z ap p1 ae ao ab asx am atx ke ko kb ks km kt els pos mel tl k tc h0 n0 s)
      obtain ⟨T39, X39, e39, st39⟩ := getF X36 hx hZ hown (host := "") (Or.inl (hw _ (List.mem_of_getElem? (i := 23) rfl))) Via.refl e36 F_touched (g := (mkF m 41 #[.val (.ref ap), .val (.int p1), .val (.int (0 : Int32)), .val (.int (own_g pos p1))] [(.ref ap)])) rfl rfl (hb hby own_d5_41)
      refine own_go st39 ?_
      show own_Goes p e below (T39.setTop (mkF m 44 #[.val (.ref ap), .val (.int p1), .val (.int (0 : Int32)), .val (.int (own_g pos p1))] [(.ref atx)])) (G_own_markM Z ap p1 ae ao ab asx am atx ke ko kb ks km kt els pos mel tl k tc h0 n0 s)
      refine own_go (fun _ k_ => XS.aloadN X39.here hx rfl (hb hby own_d5_44) rfl rfl k_) ?_
      show own_Goes p e below (T39.setTop (mkF m 45 #[.val (.ref ap), .val (.int p1), .val (.int (0 : Int32)), .val (.int (own_g pos p1))] [(.ref ap), (.ref atx)])) (G_own_markM Z ap p1 ae ao ab asx am atx ke ko kb ks km kt els pos mel tl k tc h0 n0 s)
      refine own_go (fun _ k_ => XS.dup X39.here hx rfl (hb hby own_d5_45) rfl rfl k_) ?_
      show own_Goes p e below (T39.setTop (mkF m 46 #[.val (.ref ap), .val (.int p1), .val (.int (0 : Int32)), .val (.int (own_g pos p1))] [(.ref ap), (.ref ap), (.ref atx)])) (G_own_markM Z ap p1 ae ao ab asx am atx ke ko kb ks km kt els pos mel tl k tc h0 n0 s)
      obtain ⟨T40, X40, e40, st40⟩ := getF X39 hx hZ hown (host := "") (Or.inl (hw _ (List.mem_of_getElem? (i := 41) rfl))) Via.refl e39 F_touchedCount (g := (mkF m 46 #[.val (.ref ap), .val (.int p1), .val (.int (0 : Int32)), .val (.int (own_g pos p1))] [(.ref ap), (.ref ap), (.ref atx)])) rfl rfl (hb hby own_d5_46)
      refine own_go st40 ?_
      show own_Goes p e below (T40.setTop (mkF m 49 #[.val (.ref ap), .val (.int p1), .val (.int (0 : Int32)), .val (.int (own_g pos p1))] [(.int tc), (.ref ap), (.ref atx)])) (G_own_markM Z ap p1 ae ao ab asx am atx ke ko kb ks km kt els pos mel tl k tc h0 n0 s)
      refine own_go (fun _ k_ => XS.dupX1 X40.here hx rfl (hb hby own_d5_49) rfl rfl rfl k_) ?_
      show own_Goes p e below (T40.setTop (mkF m 50 #[.val (.ref ap), .val (.int p1), .val (.int (0 : Int32)), .val (.int (own_g pos p1))] [(.int tc), (.ref ap), (.int tc), (.ref atx)])) (G_own_markM Z ap p1 ae ao ab asx am atx ke ko kb ks km kt els pos mel tl k tc h0 n0 s)
      refine own_go (fun _ k_ => XS.iconst X40.here hx rfl (hb hby own_d5_50) k_) ?_
      show own_Goes p e below (T40.setTop (mkF m 51 #[.val (.ref ap), .val (.int p1), .val (.int (0 : Int32)), .val (.int (own_g pos p1))] [(.int (1 : Int32)), (.int tc), (.ref ap), (.int tc), (.ref atx)])) (G_own_markM Z ap p1 ae ao ab asx am atx ke ko kb ks km kt els pos mel tl k tc h0 n0 s)
      refine own_go (fun _ k_ => XS.iadd X40.here hx rfl (hb hby own_d5_51) rfl k_) ?_
      show own_Goes p e below (T40.setTop (mkF m 52 #[.val (.ref ap), .val (.int p1), .val (.int (0 : Int32)), .val (.int (own_g pos p1))] [(.int (tc + (1 : Int32))), (.ref ap), (.int tc), (.ref atx)])) (G_own_markM Z ap p1 ae ao ab asx am atx ke ko kb ks km kt els pos mel tl k tc h0 n0 s)
      obtain ⟨T41, h41, X41, e41, W41, st41⟩ := putF X40 hx hZ hown (host := "") (Or.inl (hw _ (List.mem_of_getElem? (i := 41) rfl))) Via.refl e40 F_touchedCount E_ap (Or.inl (hw _ (List.mem_of_getElem? (i := 42) rfl))) (hw _ (List.mem_of_getElem? (i := 3) rfl)) (ty := .int) (by decide) rfl rfl (g := (mkF m 52 #[.val (.ref ap), .val (.int p1), .val (.int (0 : Int32)), .val (.int (own_g pos p1))] [(.int (tc + (1 : Int32))), (.ref ap), (.int tc), (.ref atx)])) rfl rfl (hb hby own_d5_52)
      have E_42 := E_ap.wr W41
      have F_43 := F_elements.other W41 (Or.inr (slot_ne (Or.inr (hw _ (List.mem_of_getElem? (i := 12) rfl))) (Or.inl (hw _ (List.mem_of_getElem? (i := 42) rfl))) (by decide) (t := (.array .int)) (t' := .int) (by decide) (by decide)))
      have F_44 := F_position.other W41 (Or.inr (slot_ne (Or.inr (hw _ (List.mem_of_getElem? (i := 14) rfl))) (Or.inl (hw _ (List.mem_of_getElem? (i := 42) rfl))) (by decide) (t := (.array .int)) (t' := .int) (by decide) (by decide)))
      have F_45 := F_blockOf.other W41 (Or.inr (slot_ne (Or.inr (hw _ (List.mem_of_getElem? (i := 16) rfl))) (Or.inl (hw _ (List.mem_of_getElem? (i := 42) rfl))) (by decide) (t := (.array .int)) (t' := .int) (by decide) (by decide)))
      have F_46 := F_start.other W41 (Or.inr (slot_ne (Or.inr (hw _ (List.mem_of_getElem? (i := 18) rfl))) (Or.inl (hw _ (List.mem_of_getElem? (i := 42) rfl))) (by decide) (t := (.array .int)) (t' := .int) (by decide) (by decide)))
      have F_47 := F_markedEnd.other W41 (Or.inr (slot_ne (Or.inr (hw _ (List.mem_of_getElem? (i := 22) rfl))) (Or.inl (hw _ (List.mem_of_getElem? (i := 42) rfl))) (by decide) (t := (.array .int)) (t' := .int) (by decide) (by decide)))
      have F_48 := F_touched.other W41 (Or.inr (slot_ne (Or.inr (hw _ (List.mem_of_getElem? (i := 24) rfl))) (Or.inl (hw _ (List.mem_of_getElem? (i := 42) rfl))) (by decide) (t := (.array .int)) (t' := .int) (by decide) (by decide)))
      have A_49 := A_elements.other W41 (Ne.symm ne_ap_ae)
      have A_50 := A_position.other W41 (Ne.symm ne_ap_ao)
      have A_51 := A_blockOf.other W41 (Ne.symm ne_ap_ab)
      have A_52 := A_start.other W41 (Ne.symm ne_ap_asx)
      have A_53 := A_markedEnd.other W41 (Ne.symm ne_ap_am)
      have A_54 := A_touched.other W41 (Ne.symm ne_ap_atx)
      have F_55 := F_touchedCount.same W41
      have N41 := Fr.snoc X41 N0 g_ap
      have Z41 : n0 ≤ h41.size := by rw [W41.size]; exact Z0
      have K41 : Keep h0 h41 [ap, ae, ao, am, atx] := K26.wr W41 (Or.inl (List.mem_of_getElem? (i := 0) rfl))
      refine own_go st41 ?_
      show own_Goes p e below (T41.setTop (mkF m 55 #[.val (.ref ap), .val (.int p1), .val (.int (0 : Int32)), .val (.int (own_g pos p1))] [(.int tc), (.ref atx)])) (G_own_markM Z ap p1 ae ao ab asx am atx ke ko kb ks km kt els pos mel tl k tc h0 n0 s)
      refine own_go (fun _ k_ => XS.iloadN X41.here hx rfl (hb hby own_d5_55) rfl k_) ?_
      show own_Goes p e below (T41.setTop (mkF m 56 #[.val (.ref ap), .val (.int p1), .val (.int (0 : Int32)), .val (.int (own_g pos p1))] [(.int (0 : Int32)), (.int tc), (.ref atx)])) (G_own_markM Z ap p1 ae ao ab asx am atx ke ko kb ks km kt els pos mel tl k tc h0 n0 s)
      obtain ⟨c56, Ar56, q56, s56, z56, H56, G56⟩ := id A_54
      have hin56 := inb_of s56 (j := tc) (by rw [htc hc37_38]; decide)
      obtain ⟨T56, h56, X56, e56, W56, st56⟩ := stI X41 hx hZ e41 Ar56 hin56 (g := (mkF m 56 #[.val (.ref ap), .val (.int p1), .val (.int (0 : Int32)), .val (.int (own_g pos p1))] [(.int (0 : Int32)), (.int tc), (.ref atx)])) rfl rfl (hb hby own_d5_56)
      have E_57 := E_42.wr W56
      have F_58 := F_43.other W56 (Or.inl ne_ap_atx)
      have F_59 := F_44.other W56 (Or.inl ne_ap_atx)
      have F_60 := F_45.other W56 (Or.inl ne_ap_atx)
      have F_61 := F_46.other W56 (Or.inl ne_ap_atx)
      have F_62 := F_47.other W56 (Or.inl ne_ap_atx)
      have F_63 := F_48.other W56 (Or.inl ne_ap_atx)
      have F_64 := F_55.other W56 (Or.inl ne_ap_atx)
      have A_65 := A_49.other W56 ne_ae_atx
      have A_66 := A_50.other W56 ne_ao_atx
      have A_67 := A_51.other W56 ne_ab_atx
      have A_68 := A_52.other W56 ne_asx_atx
      have A_69 := A_53.other W56 ne_am_atx
      have Av56 : Arv Z h56 atx kt .int (5 : Int32) ((tl.set (tc).toNatClampNeg (0 : Int32)).map Value.int) (.int (0 : Int32)) := by rw [List.map_set]; exact Arv.set Ar56 q56 s56 z56 H56 G56 (v := (.int (0 : Int32))) rfl W56 _ rfl (own_ix (j := tc) (z := (5 : Int32)) (by rw [htc hc37_38]; decide) lt)
      have N56 := Fr.snoc X56 N41 g_atx
      have Z56 : n0 ≤ h56.size := by rw [W56.size]; exact Z41
      have K56 : Keep h0 h56 [ap, ae, ao, am, atx] := K41.wr W56 (Or.inl (List.mem_of_getElem? (i := 4) rfl))
      refine own_go st56 ?_
      show own_Goes p e below (T56.setTop (mkF m 57 #[.val (.ref ap), .val (.int p1), .val (.int (0 : Int32)), .val (.int (own_g pos p1))] [])) (G_own_markM Z ap p1 ae ao ab asx am atx ke ko kb ks km kt els pos mel tl k tc h0 n0 s)
      refine own_go (fun _ k_ => XS.aloadN X56.here hx rfl (hb hby own_d5_57) rfl rfl k_) ?_
      show own_Goes p e below (T56.setTop (mkF m 58 #[.val (.ref ap), .val (.int p1), .val (.int (0 : Int32)), .val (.int (own_g pos p1))] [(.ref ap)])) (G_own_markM Z ap p1 ae ao ab asx am atx ke ko kb ks km kt els pos mel tl k tc h0 n0 s)
      refine own_go (fun _ k_ => XS.iloadN X56.here hx rfl (hb hby own_d5_58) rfl k_) ?_
      show own_Goes p e below (T56.setTop (mkF m 59 #[.val (.ref ap), .val (.int p1), .val (.int (0 : Int32)), .val (.int (own_g pos p1))] [(.int (own_g pos p1)), (.ref ap)])) (G_own_markM Z ap p1 ae ao ab asx am atx ke ko kb ks km kt els pos mel tl k tc h0 n0 s)
      refine own_go (fun _ k_ => XS.aloadN X56.here hx rfl (hb hby own_d5_59) rfl rfl k_) ?_
      show own_Goes p e below (T56.setTop (mkF m 60 #[.val (.ref ap), .val (.int p1), .val (.int (0 : Int32)), .val (.int (own_g pos p1))] [(.ref ap), (.int (own_g pos p1)), (.ref ap)])) (G_own_markM Z ap p1 ae ao ab asx am atx ke ko kb ks km kt els pos mel tl k tc h0 n0 s)
      obtain ⟨T70, X70, e70, st70⟩ := getF X56 hx hZ hown (host := "") (Or.inl (hw _ (List.mem_of_getElem? (i := 21) rfl))) Via.refl e56 F_62 (g := (mkF m 60 #[.val (.ref ap), .val (.int p1), .val (.int (0 : Int32)), .val (.int (own_g pos p1))] [(.ref ap), (.int (own_g pos p1)), (.ref ap)])) rfl rfl (hb hby own_d5_60)
      refine own_go st70 ?_
      show own_Goes p e below (T70.setTop (mkF m 63 #[.val (.ref ap), .val (.int p1), .val (.int (0 : Int32)), .val (.int (own_g pos p1))] [(.ref am), (.int (own_g pos p1)), (.ref ap)])) (G_own_markM Z ap p1 ae ao ab asx am atx ke ko kb ks km kt els pos mel tl k tc h0 n0 s)
      refine own_go (fun _ k_ => XS.iloadN X70.here hx rfl (hb hby own_d5_63) rfl k_) ?_
      show own_Goes p e below (T70.setTop (mkF m 64 #[.val (.ref ap), .val (.int p1), .val (.int (0 : Int32)), .val (.int (own_g pos p1))] [(.int (0 : Int32)), (.ref am), (.int (own_g pos p1)), (.ref ap)])) (G_own_markM Z ap p1 ae ao ab asx am atx ke ko kb ks km kt els pos mel tl k tc h0 n0 s)
      obtain ⟨c71, Ar71, q71, s71, z71, H71, G71⟩ := id A_69
      have hin71 := inb_of s71 (j := (0 : Int32)) (by decide)
      have hat71 := H71.at hin71 (v := (.int k)) ((own_gd _ _).trans (congrArg Value.int hk))
      refine own_go (fun _ k_ => X70.iaload hx (j := (0 : Int32)) (v := (.int k)) (by rw [e70]; exact Ar71.1) (State.isArrayOf_alike hZ.alike Ar71.2.1) Ar71.2.2 hin71 hat71 (g := (mkF m 64 #[.val (.ref ap), .val (.int p1), .val (.int (0 : Int32)), .val (.int (own_g pos p1))] [(.int (0 : Int32)), (.ref am), (.int (own_g pos p1)), (.ref ap)])) rfl rfl (hb hby own_d5_64) _ k_) ?_
      show own_Goes p e below (T70.setTop (mkF m 65 #[.val (.ref ap), .val (.int p1), .val (.int (0 : Int32)), .val (.int (own_g pos p1))] [(.int k), (.int (own_g pos p1)), (.ref ap)])) (G_own_markM Z ap p1 ae ao ab asx am atx ke ko kb ks km kt els pos mel tl k tc h0 n0 s)
      obtain ⟨cq72, qq72, qr72⟩ := E_57.cell
      obtain ⟨_, _, ⟨T72, L72, k72, n72⟩, -, X72, ⟨Lc72, hQ72, l72, y72, z72⟩, st72⟩ := X70.privateBack hx (y := (⟨"com/example/trim_chain/trimchain/engine/Partition", "swap", "(II)V"⟩ : MethodName)) hown (mvT hZ (hw _ (List.mem_of_getElem? (i := 43) rfl))) (mvT hZ (hw _ (List.mem_of_getElem? (i := 44) rfl))) (mvT hZ (own_selp (by decide) (hw _ (List.mem_of_getElem? (i := 3) rfl)) (hw _ (List.mem_of_getElem? (i := 45) rfl)) (hw _ (List.mem_of_getElem? (i := 44) rfl)))) (Cond.privateMethod_at (mvP hZ (hw _ (List.mem_of_getElem? (i := 45) rfl)) (args := #[]))) (mvT hZ (hw _ (List.mem_of_getElem? (i := 46) rfl))) (by decide) (backOf (W := 0) (own_swapM l Z a0 hw [] ap (own_g pos p1) k ae ao ke ko els pos h56 n0 Z56 F_58 F_59 A_65 A_66 le lo ne_ap_ae ne_ap_ao ne_ae_ao g_ae g_ao hat hk5 (own_getr le re hat) (own_getr le re hk5)) hZ (hw _ (List.mem_of_getElem? (i := 46) rfl)) (hw _ (List.mem_of_getElem? (i := 4) rfl)) (by decide) (by decide)) (g := (mkF m 65 #[.val (.ref ap), .val (.int p1), .val (.int (0 : Int32)), .val (.int (own_g pos p1))] [(.int k), (.int (own_g pos p1)), (.ref ap)])) rfl (by rw [hml]; rfl) (Steps.refl _) (a := ap) (by rw [e70]; exact qq72) qr72 (argsL := [(.int (own_g pos p1)), (.int k)]) (rest := []) (lenOf own_pd0 rfl) rfl (by show 2 * 0 + _ ≤ _; exact Nat.le_of_eq rfl) (hb hby own_d5_65) (fun _ _ => ⟨rfl, e70, (by decide : 0 + 0 ≤ _), (by decide : 0 + 0 ≤ _)⟩)
      dsimp only [Pt.U, Pt.locs, Pt.cells, Pt.slots] at X72 l72 y72 z72 st72 hQ72
      subst l72 y72 z72
      obtain ⟨rfl, N72q, Kq72, Ae72, Ao72⟩ := hQ72
      have N72 := Fr.app N56 N72q
      have E_73 := E_57.keep Kq72
      have F_74 := F_58.keep Kq72 (ninS ne_ap_ae (ninS ne_ap_ao nin0))
      have F_75 := F_59.keep Kq72 (ninS ne_ap_ae (ninS ne_ap_ao nin0))
      have F_76 := F_60.keep Kq72 (ninS ne_ap_ae (ninS ne_ap_ao nin0))
      have F_77 := F_61.keep Kq72 (ninS ne_ap_ae (ninS ne_ap_ao nin0))
      have F_78 := F_62.keep Kq72 (ninS ne_ap_ae (ninS ne_ap_ao nin0))
      have F_79 := F_63.keep Kq72 (ninS ne_ap_ae (ninS ne_ap_ao nin0))
      have F_80 := F_64.keep Kq72 (ninS ne_ap_ae (ninS ne_ap_ao nin0))
      have A_83 := A_67.keep Kq72 (ninS (Ne.symm ne_ae_ab) (ninS (Ne.symm ne_ao_ab) nin0))
      have A_84 := A_68.keep Kq72 (ninS (Ne.symm ne_ae_asx) (ninS (Ne.symm ne_ao_asx) nin0))
      have A_85 := A_69.keep Kq72 (ninS (Ne.symm ne_ae_am) (ninS (Ne.symm ne_ao_am) nin0))
      have Av56_86 := Av56.keep Kq72 (ninS (Ne.symm ne_ae_atx) (ninS (Ne.symm ne_ao_atx) nin0))
      have Z72 : n0 ≤ T72.heap.size := Nat.le_trans Z56 Kq72.1
      have K72 : Keep h0 T72.heap [ap, ae, ao, am, atx] := K56.trans Kq72 (allS (Or.inl (List.mem_of_getElem? (i := 1) rfl)) (allS (Or.inl (List.mem_of_getElem? (i := 2) rfl)) all0))
      refine own_go (fun _ k_ => st72.trans k_) ?_
      show own_Goes p e below (T72.setTop (mkF m 68 #[.val (.ref ap), .val (.int p1), .val (.int (0 : Int32)), .val (.int (own_g pos p1))] [])) (G_own_markM Z ap p1 ae ao ab asx am atx ke ko kb ks km kt els pos mel tl k tc h0 n0 s)
      refine own_go (fun _ k_ => XS.aloadN X72.here hx rfl (hb hby own_d5_68) rfl rfl k_) ?_
      show own_Goes p e below (T72.setTop (mkF m 69 #[.val (.ref ap), .val (.int p1), .val (.int (0 : Int32)), .val (.int (own_g pos p1))] [(.ref ap)])) (G_own_markM Z ap p1 ae ao ab asx am atx ke ko kb ks km kt els pos mel tl k tc h0 n0 s)
      obtain ⟨T87, X87, e87, st87⟩ := getF X72 hx hZ hown (host := "") (Or.inl (hw _ (List.mem_of_getElem? (i := 21) rfl))) Via.refl rfl F_78 (g := (mkF m 69 #[.val (.ref ap), .val (.int p1), .val (.int (0 : Int32)), .val (.int (own_g pos p1))] [(.ref ap)])) rfl rfl (hb hby own_d5_69)
      refine own_go st87 ?_
      show own_Goes p e below (T87.setTop (mkF m 72 #[.val (.ref ap), .val (.int p1), .val (.int (0 : Int32)), .val (.int (own_g pos p1))] [(.ref am)])) (G_own_markM Z ap p1 ae ao ab asx am atx ke ko kb ks km kt els pos mel tl k tc h0 n0 s)
      refine own_go (fun _ k_ => XS.iloadN X87.here hx rfl (hb hby own_d5_72) rfl k_) ?_
      show own_Goes p e below (T87.setTop (mkF m 73 #[.val (.ref ap), .val (.int p1), .val (.int (0 : Int32)), .val (.int (own_g pos p1))] [(.int (0 : Int32)), (.ref am)])) (G_own_markM Z ap p1 ae ao ab asx am atx ke ko kb ks km kt els pos mel tl k tc h0 n0 s)
      refine own_go (fun _ k_ => XT.dup2 X87.here hx rfl (hb hby own_d5_73) rfl rfl rfl k_) ?_
      show own_Goes p e below (T87.setTop (mkF m 74 #[.val (.ref ap), .val (.int p1), .val (.int (0 : Int32)), .val (.int (own_g pos p1))] [(.int (0 : Int32)), (.ref am), (.int (0 : Int32)), (.ref am)])) (G_own_markM Z ap p1 ae ao ab asx am atx ke ko kb ks km kt els pos mel tl k tc h0 n0 s)
      obtain ⟨c88, Ar88, q88, s88, z88, H88, G88⟩ := id A_85
      have hin88 := inb_of s88 (j := (0 : Int32)) (by decide)
      have hat88 := H88.at hin88 (v := (.int k)) ((own_gd _ _).trans (congrArg Value.int hk))
      refine own_go (fun _ k_ => X87.iaload hx (j := (0 : Int32)) (v := (.int k)) (by rw [e87]; exact Ar88.1) (State.isArrayOf_alike hZ.alike Ar88.2.1) Ar88.2.2 hin88 hat88 (g := (mkF m 74 #[.val (.ref ap), .val (.int p1), .val (.int (0 : Int32)), .val (.int (own_g pos p1))] [(.int (0 : Int32)), (.ref am), (.int (0 : Int32)), (.ref am)])) rfl rfl (hb hby own_d5_74) _ k_) ?_
      show own_Goes p e below (T87.setTop (mkF m 75 #[.val (.ref ap), .val (.int p1), .val (.int (0 : Int32)), .val (.int (own_g pos p1))] [(.int k), (.int (0 : Int32)), (.ref am)])) (G_own_markM Z ap p1 ae ao ab asx am atx ke ko kb ks km kt els pos mel tl k tc h0 n0 s)
      refine own_go (fun _ k_ => XS.iconst X87.here hx rfl (hb hby own_d5_75) k_) ?_
      show own_Goes p e below (T87.setTop (mkF m 76 #[.val (.ref ap), .val (.int p1), .val (.int (0 : Int32)), .val (.int (own_g pos p1))] [(.int (1 : Int32)), (.int k), (.int (0 : Int32)), (.ref am)])) (G_own_markM Z ap p1 ae ao ab asx am atx ke ko kb ks km kt els pos mel tl k tc h0 n0 s)
      refine own_go (fun _ k_ => XS.iadd X87.here hx rfl (hb hby own_d5_76) rfl k_) ?_
      show own_Goes p e below (T87.setTop (mkF m 77 #[.val (.ref ap), .val (.int p1), .val (.int (0 : Int32)), .val (.int (own_g pos p1))] [(.int (k + (1 : Int32))), (.int (0 : Int32)), (.ref am)])) (G_own_markM Z ap p1 ae ao ab asx am atx ke ko kb ks km kt els pos mel tl k tc h0 n0 s)
      obtain ⟨c89, Ar89, q89, s89, z89, H89, G89⟩ := id A_85
      have hin89 := inb_of s89 (j := (0 : Int32)) (by decide)
      obtain ⟨T89, h89, X89, e89, W89, st89⟩ := stI X87 hx hZ e87 Ar89 hin89 (g := (mkF m 77 #[.val (.ref ap), .val (.int p1), .val (.int (0 : Int32)), .val (.int (own_g pos p1))] [(.int (k + (1 : Int32))), (.int (0 : Int32)), (.ref am)])) rfl rfl (hb hby own_d5_77)
      have E_90 := E_73.wr W89
      have F_91 := F_74.other W89 (Or.inl ne_ap_am)
      have F_92 := F_75.other W89 (Or.inl ne_ap_am)
      have F_93 := F_76.other W89 (Or.inl ne_ap_am)
      have F_94 := F_77.other W89 (Or.inl ne_ap_am)
      have F_95 := F_78.other W89 (Or.inl ne_ap_am)
      have F_96 := F_79.other W89 (Or.inl ne_ap_am)
      have F_97 := F_80.other W89 (Or.inl ne_ap_am)
      have A_98 := A_83.other W89 ne_ab_am
      have A_99 := A_84.other W89 ne_asx_am
      have Av56_100 := Av56_86.other W89 (Ne.symm ne_am_atx)
      have Ae72_101 := Ae72.other W89 ne_ae_am
      have Ao72_102 := Ao72.other W89 ne_ao_am
      have Av89 : Arv Z h89 am km .int (5 : Int32) ((mel.set ((0 : Int32)).toNatClampNeg (k + (1 : Int32))).map Value.int) (.int (0 : Int32)) := by rw [List.map_set]; exact Arv.set Ar89 q89 s89 z89 H89 G89 (v := (.int (k + (1 : Int32)))) rfl W89 _ rfl (own_ix (j := (0 : Int32)) (z := (5 : Int32)) (by decide) lm)
      have N89 := Fr.snoc X89 N72 g_am
      have Z89 : n0 ≤ h89.size := by rw [W89.size]; exact Z72
      have K89 : Keep h0 h89 [ap, ae, ao, am, atx] := K72.wr W89 (Or.inl (List.mem_of_getElem? (i := 3) rfl))
      refine own_go st89 ?_
      show own_Goes p e below (T89.setTop (mkF m 78 #[.val (.ref ap), .val (.int p1), .val (.int (0 : Int32)), .val (.int (own_g pos p1))] [])) (G_own_markM Z ap p1 ae ao ab asx am atx ke ko kb ks km kt els pos mel tl k tc h0 n0 s)
      obtain ⟨fs, hr, hrun, hended, hW, hsame⟩ := X89.leave (v := none) (fun _ => rfl) Bd.notSynchronized
      refine ⟨_, _, X89.returnOut hx Bd.returns (hb hby own_d5_78) hr, hrun, hended, _, _, rfl, ?_, ⟨_, rfl⟩, hW, hsame.mono (by decide) (by decide)⟩
      show Q_own_markM Z ap p1 ae ao ab asx am atx ke ko kb ks km kt els pos mel tl k tc h0 n0 _ T89.heap _
      rw [e89]
      have em : own_mark (els, pos, k) p1 = ((own_swap els pos (own_g pos p1) k).1, (own_swap els pos (own_g pos p1) k).2, k + 1) := if_neg hc21_33
      exact ⟨rfl, N89, K89, F_91, F_92, F_93, F_94, F_95, F_96, by rw [em]; exact Ae72_101, by rw [em]; exact Ao72_102, ⟨_, ((List.length_set ..).trans lm), by rw [em]; exact own_set0 lm _, Av89⟩, _, _, ((List.length_set ..).trans lt), Av56_100, F_97, by rw [em]; intro q; exact absurd q (own_k1ne hk5)⟩
    · refine own_go (fun _ k_ => XS.icmpYes X36.here hx rfl (pc0 := 37) (pc' := 57) rfl (hb hby own_d5_37) rfl (XT.ii_ne_t hc37_38) (by decide) (by decide) k_) ?_
      show own_Goes p e below (T36.setTop (mkF m 57 #[.val (.ref ap), .val (.int p1), .val (.int (0 : Int32)), .val (.int (own_g pos p1))] [])) (G_own_markM Z ap p1 ae ao ab asx am atx ke ko kb ks km kt els pos mel tl k tc h0 n0 s)
      refine own_go (fun _ k_ => XS.aloadN X36.here hx rfl (hb hby own_d5_57) rfl rfl k_) ?_
      show own_Goes p e below (T36.setTop (mkF m 58 #[.val (.ref ap), .val (.int p1), .val (.int (0 : Int32)), .val (.int (own_g pos p1))] [(.ref ap)])) (G_own_markM Z ap p1 ae ao ab asx am atx ke ko kb ks km kt els pos mel tl k tc h0 n0 s)
      refine own_go (fun _ k_ => XS.iloadN X36.here hx rfl (hb hby own_d5_58) rfl k_) ?_
      show own_Goes p e below (T36.setTop (mkF m 59 #[.val (.ref ap), .val (.int p1), .val (.int (0 : Int32)), .val (.int (own_g pos p1))] [(.int (own_g pos p1)), (.ref ap)])) (G_own_markM Z ap p1 ae ao ab asx am atx ke ko kb ks km kt els pos mel tl k tc h0 n0 s)
      refine own_go (fun _ k_ => XS.aloadN X36.here hx rfl (hb hby own_d5_59) rfl rfl k_) ?_
      show own_Goes p e below (T36.setTop (mkF m 60 #[.val (.ref ap), .val (.int p1), .val (.int (0 : Int32)), .val (.int (own_g pos p1))] [(.ref ap), (.int (own_g pos p1)), (.ref ap)])) (G_own_markM Z ap p1 ae ao ab asx am atx ke ko kb ks km kt els pos mel tl k tc h0 n0 s)
      obtain ⟨T103, X103, e103, st103⟩ := getF X36 hx hZ hown (host := "") (Or.inl (hw _ (List.mem_of_getElem? (i := 21) rfl))) Via.refl e36 F_markedEnd (g := (mkF m 60 #[.val (.ref ap), .val (.int p1), .val (.int (0 : Int32)), .val (.int (own_g pos p1))] [(.ref ap), (.int (own_g pos p1)), (.ref ap)])) rfl rfl (hb hby own_d5_60)
      refine own_go st103 ?_
      show own_Goes p e below (T103.setTop (mkF m 63 #[.val (.ref ap), .val (.int p1), .val (.int (0 : Int32)), .val (.int (own_g pos p1))] [(.ref am), (.int (own_g pos p1)), (.ref ap)])) (G_own_markM Z ap p1 ae ao ab asx am atx ke ko kb ks km kt els pos mel tl k tc h0 n0 s)
      refine own_go (fun _ k_ => XS.iloadN X103.here hx rfl (hb hby own_d5_63) rfl k_) ?_
      show own_Goes p e below (T103.setTop (mkF m 64 #[.val (.ref ap), .val (.int p1), .val (.int (0 : Int32)), .val (.int (own_g pos p1))] [(.int (0 : Int32)), (.ref am), (.int (own_g pos p1)), (.ref ap)])) (G_own_markM Z ap p1 ae ao ab asx am atx ke ko kb ks km kt els pos mel tl k tc h0 n0 s)
      obtain ⟨c104, Ar104, q104, s104, z104, H104, G104⟩ := id A_markedEnd
      have hin104 := inb_of s104 (j := (0 : Int32)) (by decide)
      have hat104 := H104.at hin104 (v := (.int k)) ((own_gd _ _).trans (congrArg Value.int hk))
      refine own_go (fun _ k_ => X103.iaload hx (j := (0 : Int32)) (v := (.int k)) (by rw [e103]; exact Ar104.1) (State.isArrayOf_alike hZ.alike Ar104.2.1) Ar104.2.2 hin104 hat104 (g := (mkF m 64 #[.val (.ref ap), .val (.int p1), .val (.int (0 : Int32)), .val (.int (own_g pos p1))] [(.int (0 : Int32)), (.ref am), (.int (own_g pos p1)), (.ref ap)])) rfl rfl (hb hby own_d5_64) _ k_) ?_
      show own_Goes p e below (T103.setTop (mkF m 65 #[.val (.ref ap), .val (.int p1), .val (.int (0 : Int32)), .val (.int (own_g pos p1))] [(.int k), (.int (own_g pos p1)), (.ref ap)])) (G_own_markM Z ap p1 ae ao ab asx am atx ke ko kb ks km kt els pos mel tl k tc h0 n0 s)
      obtain ⟨cq105, qq105, qr105⟩ := E_ap.cell
      obtain ⟨_, _, ⟨T105, L105, k105, n105⟩, -, X105, ⟨Lc105, hQ105, l105, y105, z105⟩, st105⟩ := X103.privateBack hx (y := (⟨"com/example/trim_chain/trimchain/engine/Partition", "swap", "(II)V"⟩ : MethodName)) hown (mvT hZ (hw _ (List.mem_of_getElem? (i := 43) rfl))) (mvT hZ (hw _ (List.mem_of_getElem? (i := 44) rfl))) (mvT hZ (own_selp (by decide) (hw _ (List.mem_of_getElem? (i := 3) rfl)) (hw _ (List.mem_of_getElem? (i := 45) rfl)) (hw _ (List.mem_of_getElem? (i := 44) rfl)))) (Cond.privateMethod_at (mvP hZ (hw _ (List.mem_of_getElem? (i := 45) rfl)) (args := #[]))) (mvT hZ (hw _ (List.mem_of_getElem? (i := 46) rfl))) (by decide) (backOf (W := 0) (own_swapM l Z a0 hw [] ap (own_g pos p1) k ae ao ke ko els pos h0 n0 Z0 F_elements F_position A_elements A_position le lo ne_ap_ae ne_ap_ao ne_ae_ao g_ae g_ao hat hk5 (own_getr le re hat) (own_getr le re hk5)) hZ (hw _ (List.mem_of_getElem? (i := 46) rfl)) (hw _ (List.mem_of_getElem? (i := 4) rfl)) (by decide) (by decide)) (g := (mkF m 65 #[.val (.ref ap), .val (.int p1), .val (.int (0 : Int32)), .val (.int (own_g pos p1))] [(.int k), (.int (own_g pos p1)), (.ref ap)])) rfl (by rw [hml]; rfl) (Steps.refl _) (a := ap) (by rw [e103]; exact qq105) qr105 (argsL := [(.int (own_g pos p1)), (.int k)]) (rest := []) (lenOf own_pd0 rfl) rfl (by show 2 * 0 + _ ≤ _; exact Nat.le_of_eq rfl) (hb hby own_d5_65) (fun _ _ => ⟨rfl, e103, (by decide : 0 + 0 ≤ _), (by decide : 0 + 0 ≤ _)⟩)
      dsimp only [Pt.U, Pt.locs, Pt.cells, Pt.slots] at X105 l105 y105 z105 st105 hQ105
      subst l105 y105 z105
      obtain ⟨rfl, N105q, Kq105, Ae105, Ao105⟩ := hQ105
      have N105 := Fr.app N0 N105q
      have E_106 := E_ap.keep Kq105
      have F_107 := F_elements.keep Kq105 (ninS ne_ap_ae (ninS ne_ap_ao nin0))
      have F_108 := F_position.keep Kq105 (ninS ne_ap_ae (ninS ne_ap_ao nin0))
      have F_109 := F_blockOf.keep Kq105 (ninS ne_ap_ae (ninS ne_ap_ao nin0))
      have F_110 := F_start.keep Kq105 (ninS ne_ap_ae (ninS ne_ap_ao nin0))
      have F_111 := F_markedEnd.keep Kq105 (ninS ne_ap_ae (ninS ne_ap_ao nin0))
      have F_112 := F_touched.keep Kq105 (ninS ne_ap_ae (ninS ne_ap_ao nin0))
      have F_113 := F_touchedCount.keep Kq105 (ninS ne_ap_ae (ninS ne_ap_ao nin0))
      have A_116 := A_blockOf.keep Kq105 (ninS (Ne.symm ne_ae_ab) (ninS (Ne.symm ne_ao_ab) nin0))
      have A_117 := A_start.keep Kq105 (ninS (Ne.symm ne_ae_asx) (ninS (Ne.symm ne_ao_asx) nin0))
      have A_118 := A_markedEnd.keep Kq105 (ninS (Ne.symm ne_ae_am) (ninS (Ne.symm ne_ao_am) nin0))
      have A_119 := A_touched.keep Kq105 (ninS (Ne.symm ne_ae_atx) (ninS (Ne.symm ne_ao_atx) nin0))
      have Z105 : n0 ≤ T105.heap.size := Nat.le_trans Z0 Kq105.1
      have K105 : Keep h0 T105.heap [ap, ae, ao, am, atx] := K26.trans Kq105 (allS (Or.inl (List.mem_of_getElem? (i := 1) rfl)) (allS (Or.inl (List.mem_of_getElem? (i := 2) rfl)) all0))
      refine own_go (fun _ k_ => st105.trans k_) ?_
      show own_Goes p e below (T105.setTop (mkF m 68 #[.val (.ref ap), .val (.int p1), .val (.int (0 : Int32)), .val (.int (own_g pos p1))] [])) (G_own_markM Z ap p1 ae ao ab asx am atx ke ko kb ks km kt els pos mel tl k tc h0 n0 s)
      refine own_go (fun _ k_ => XS.aloadN X105.here hx rfl (hb hby own_d5_68) rfl rfl k_) ?_
      show own_Goes p e below (T105.setTop (mkF m 69 #[.val (.ref ap), .val (.int p1), .val (.int (0 : Int32)), .val (.int (own_g pos p1))] [(.ref ap)])) (G_own_markM Z ap p1 ae ao ab asx am atx ke ko kb ks km kt els pos mel tl k tc h0 n0 s)
      obtain ⟨T120, X120, e120, st120⟩ := getF X105 hx hZ hown (host := "") (Or.inl (hw _ (List.mem_of_getElem? (i := 21) rfl))) Via.refl rfl F_111 (g := (mkF m 69 #[.val (.ref ap), .val (.int p1), .val (.int (0 : Int32)), .val (.int (own_g pos p1))] [(.ref ap)])) rfl rfl (hb hby own_d5_69)
      refine own_go st120 ?_
      show own_Goes p e below (T120.setTop (mkF m 72 #[.val (.ref ap), .val (.int p1), .val (.int (0 : Int32)), .val (.int (own_g pos p1))] [(.ref am)])) (G_own_markM Z ap p1 ae ao ab asx am atx ke ko kb ks km kt els pos mel tl k tc h0 n0 s)
      refine own_go (fun _ k_ => XS.iloadN X120.here hx rfl (hb hby own_d5_72) rfl k_) ?_
      show own_Goes p e below (T120.setTop (mkF m 73 #[.val (.ref ap), .val (.int p1), .val (.int (0 : Int32)), .val (.int (own_g pos p1))] [(.int (0 : Int32)), (.ref am)])) (G_own_markM Z ap p1 ae ao ab asx am atx ke ko kb ks km kt els pos mel tl k tc h0 n0 s)
      refine own_go (fun _ k_ => XT.dup2 X120.here hx rfl (hb hby own_d5_73) rfl rfl rfl k_) ?_
      show own_Goes p e below (T120.setTop (mkF m 74 #[.val (.ref ap), .val (.int p1), .val (.int (0 : Int32)), .val (.int (own_g pos p1))] [(.int (0 : Int32)), (.ref am), (.int (0 : Int32)), (.ref am)])) (G_own_markM Z ap p1 ae ao ab asx am atx ke ko kb ks km kt els pos mel tl k tc h0 n0 s)
      obtain ⟨c121, Ar121, q121, s121, z121, H121, G121⟩ := id A_118
      have hin121 := inb_of s121 (j := (0 : Int32)) (by decide)
      have hat121 := H121.at hin121 (v := (.int k)) ((own_gd _ _).trans (congrArg Value.int hk))
      refine own_go (fun _ k_ => X120.iaload hx (j := (0 : Int32)) (v := (.int k)) (by rw [e120]; exact Ar121.1) (State.isArrayOf_alike hZ.alike Ar121.2.1) Ar121.2.2 hin121 hat121 (g := (mkF m 74 #[.val (.ref ap), .val (.int p1), .val (.int (0 : Int32)), .val (.int (own_g pos p1))] [(.int (0 : Int32)), (.ref am), (.int (0 : Int32)), (.ref am)])) rfl rfl (hb hby own_d5_74) _ k_) ?_
      show own_Goes p e below (T120.setTop (mkF m 75 #[.val (.ref ap), .val (.int p1), .val (.int (0 : Int32)), .val (.int (own_g pos p1))] [(.int k), (.int (0 : Int32)), (.ref am)])) (G_own_markM Z ap p1 ae ao ab asx am atx ke ko kb ks km kt els pos mel tl k tc h0 n0 s)
      refine own_go (fun _ k_ => XS.iconst X120.here hx rfl (hb hby own_d5_75) k_) ?_
      show own_Goes p e below (T120.setTop (mkF m 76 #[.val (.ref ap), .val (.int p1), .val (.int (0 : Int32)), .val (.int (own_g pos p1))] [(.int (1 : Int32)), (.int k), (.int (0 : Int32)), (.ref am)])) (G_own_markM Z ap p1 ae ao ab asx am atx ke ko kb ks km kt els pos mel tl k tc h0 n0 s)
      refine own_go (fun _ k_ => XS.iadd X120.here hx rfl (hb hby own_d5_76) rfl k_) ?_
      show own_Goes p e below (T120.setTop (mkF m 77 #[.val (.ref ap), .val (.int p1), .val (.int (0 : Int32)), .val (.int (own_g pos p1))] [(.int (k + (1 : Int32))), (.int (0 : Int32)), (.ref am)])) (G_own_markM Z ap p1 ae ao ab asx am atx ke ko kb ks km kt els pos mel tl k tc h0 n0 s)
      obtain ⟨c122, Ar122, q122, s122, z122, H122, G122⟩ := id A_118
      have hin122 := inb_of s122 (j := (0 : Int32)) (by decide)
      obtain ⟨T122, h122, X122, e122, W122, st122⟩ := stI X120 hx hZ e120 Ar122 hin122 (g := (mkF m 77 #[.val (.ref ap), .val (.int p1), .val (.int (0 : Int32)), .val (.int (own_g pos p1))] [(.int (k + (1 : Int32))), (.int (0 : Int32)), (.ref am)])) rfl rfl (hb hby own_d5_77)
      have E_123 := E_106.wr W122
      have F_124 := F_107.other W122 (Or.inl ne_ap_am)
      have F_125 := F_108.other W122 (Or.inl ne_ap_am)
      have F_126 := F_109.other W122 (Or.inl ne_ap_am)
      have F_127 := F_110.other W122 (Or.inl ne_ap_am)
      have F_128 := F_111.other W122 (Or.inl ne_ap_am)
      have F_129 := F_112.other W122 (Or.inl ne_ap_am)
      have F_130 := F_113.other W122 (Or.inl ne_ap_am)
      have A_131 := A_116.other W122 ne_ab_am
      have A_132 := A_117.other W122 ne_asx_am
      have A_133 := A_119.other W122 (Ne.symm ne_am_atx)
      have Ae105_134 := Ae105.other W122 ne_ae_am
      have Ao105_135 := Ao105.other W122 ne_ao_am
      have Av122 : Arv Z h122 am km .int (5 : Int32) ((mel.set ((0 : Int32)).toNatClampNeg (k + (1 : Int32))).map Value.int) (.int (0 : Int32)) := by rw [List.map_set]; exact Arv.set Ar122 q122 s122 z122 H122 G122 (v := (.int (k + (1 : Int32)))) rfl W122 _ rfl (own_ix (j := (0 : Int32)) (z := (5 : Int32)) (by decide) lm)
      have N122 := Fr.snoc X122 N105 g_am
      have Z122 : n0 ≤ h122.size := by rw [W122.size]; exact Z105
      have K122 : Keep h0 h122 [ap, ae, ao, am, atx] := K105.wr W122 (Or.inl (List.mem_of_getElem? (i := 3) rfl))
      refine own_go st122 ?_
      show own_Goes p e below (T122.setTop (mkF m 78 #[.val (.ref ap), .val (.int p1), .val (.int (0 : Int32)), .val (.int (own_g pos p1))] [])) (G_own_markM Z ap p1 ae ao ab asx am atx ke ko kb ks km kt els pos mel tl k tc h0 n0 s)
      obtain ⟨fs, hr, hrun, hended, hW, hsame⟩ := X122.leave (v := none) (fun _ => rfl) Bd.notSynchronized
      refine ⟨_, _, X122.returnOut hx Bd.returns (hb hby own_d5_78) hr, hrun, hended, _, _, rfl, ?_, ⟨_, rfl⟩, hW, hsame.mono (by decide) (by decide)⟩
      show Q_own_markM Z ap p1 ae ao ab asx am atx ke ko kb ks km kt els pos mel tl k tc h0 n0 _ T122.heap _
      rw [e122]
      have em : own_mark (els, pos, k) p1 = ((own_swap els pos (own_g pos p1) k).1, (own_swap els pos (own_g pos p1) k).2, k + 1) := if_neg hc21_33
      exact ⟨rfl, N122, K122, F_124, F_125, F_126, F_127, F_128, F_129, by rw [em]; exact Ae105_134, by rw [em]; exact Ao105_135, ⟨_, ((List.length_set ..).trans lm), by rw [em]; exact own_set0 lm _, Av122⟩, _, _, lt, A_133, F_130, by rw [em]; intro q; exact absurd q (own_k1ne hk5)⟩
theorem own_pn3 : plainName "com/example/trim_chain/trimchain/engine/Partition" = true := by first | (simp [plainName, overriddenIn]; done) | decide +kernel
theorem own_ef_own_elM (m : MethodId) (ap : Addr) (p1 : Int32) : entryFrame m #[(.ref ap), (.int p1)] 2 = (mkF m 0 #[.val (.ref ap), .val (.int p1)] []) := by first | (simp [entryFrame, mkF, argsToLocals, Value.category]; done) | rfl
def Q_own_elM (Z : State) (ap : Addr) (p1 : Int32) (ae : Addr) (ke : ClassId) (els : List Int32) (h0 : Heap) (n0 : Nat) (v : Option Value) (h : Heap) (L : List Loc) : Prop := v = some (.int (own_g els p1)) ∧ Fr n0 L ∧ h = h0
def G_own_elM (Z : State) (ap : Addr) (p1 : Int32) (ae : Addr) (ke : ClassId) (els : List Int32) (h0 : Heap) (n0 : Nat) (s : State) : Outcome → State → Prop := fun o U' => ∃ v L, o = .returned v ∧ Q_own_elM Z ap p1 ae ke els h0 n0 v U'.heap L ∧ FrameEnd s o U' L ({ frames := 0, cells := 0, slots := 0, locals := 0 } : Room).cells ({ frames := 0, cells := 0, slots := 0, locals := 0 } : Room).slots
theorem own_d3_0 : decode prog_10_method_10_code 0 = .ok (.aload_n 0, 1) := by decide +kernel
theorem own_d3_1 : decode prog_10_method_10_code 1 = .ok (.getfield 7, 3) := by decide +kernel
theorem own_d3_4 : decode prog_10_method_10_code 4 = .ok (.iload_n 1, 1) := by decide +kernel
theorem own_d3_5 : decode prog_10_method_10_code 5 = .ok (.iaload, 1) := by decide +kernel
theorem own_d3_6 : decode prog_10_method_10_code 6 = .ok (.ireturn, 1) := by decide +kernel
set_option maxRecDepth 65536 in
set_option maxHeartbeats 40000000 in
theorem own_elM (l : Launch) (Z : State) (a0 : Array Value) (hw : ∀ d ∈ tables_1, d.before a0 Z = true) (ws : List Jvm.Cond) (ap : Addr) (p1 : Int32) (ae : Addr) (ke : ClassId) (els : List Int32) (h0 : Heap) (n0 : Nat) (Z0 : n0 ≤ h0.size) (F_el : Fld Z h0 ap "com/example/trim_chain/trimchain/engine/Partition" "elements" "[I" (.ref ae)) (A_e : Arv Z h0 ae ke .int (5 : Int32) (els.map Value.int) (.int (0 : Int32))) (i1 : ¬ p1 < 0 ∧ p1 < 5) :
    MetFree l (⟨"com/example/trim_chain/trimchain/engine/Partition", "element", "(I)I"⟩ : MethodName) (head1 (Jvm.Cond.code (⟨"com/example/trim_chain/trimchain/engine/Partition", "element", "(I)I"⟩ : MethodName) prog_10_method_10_code 2 (some .int) :: ws) ({ frames := 0, cells := 0, slots := 0, locals := 0 } : Room)) (fun a U => a = #[(.ref ap), (.int p1)] ∧ Z.Warmed39 U.vm ∧ U.heap = h0) (fun _ _ _ _ _ => True) (fun _ U o U' => ∃ v L, o = .returned v ∧ Q_own_elM Z ap p1 ae ke els h0 n0 v U'.heap L ∧ FrameEnd U o U' L ({ frames := 0, cells := 0, slots := 0, locals := 0 } : Room).cells ({ frames := 0, cells := 0, slots := 0, locals := 0 } : Room).slots) := by
  refine MetFree.of_bodySF (plainFor_of_name own_pn3) hisR ?_
  intro p e s m args below meth c s₁ Bd hml0 hP hK
  obtain ⟨rfl, hZ, hh⟩ := hP
  have hx := Bd.exec
  have hby := Bd.bytes
  have hml : c.maxLocals = 2 := hml0
  have hown : s.vm.findClass "com/example/trim_chain/trimchain/engine/Partition" = some m.cls := findClass_of_methodNamed Bd.named
  have hnm := (name_of_methodNamed Bd.named Bd.method).1
  have X0 : Stand p l e ({ frames := 0, cells := 0, slots := 0, locals := 0 } : Room) s m #[(.ref ap), (.int p1)] below meth c s₁ [] 0 0 := Stand.of_body Bd
  have e0 : s₁.heap = h0 := by rw [← hh, Bd.state]; rfl
  have N0 := Fr.nil n0
  refine own_go (S := s₁.setTop (entryFrame m #[(.ref ap), (.int p1)] 2)) (Q := (G_own_elM Z ap p1 ae ke els h0 n0 s)) (fun _ k_ => castTop (own_ef_own_elM m ap p1) k_) ?_
  show own_Goes p e below (s₁.setTop (mkF m 0 #[.val (.ref ap), .val (.int p1)] [])) (G_own_elM Z ap p1 ae ke els h0 n0 s)
  refine own_go (fun _ k_ => XS.aloadN X0.here hx rfl (hb hby own_d3_0) rfl rfl k_) ?_
  show own_Goes p e below (s₁.setTop (mkF m 1 #[.val (.ref ap), .val (.int p1)] [(.ref ap)])) (G_own_elM Z ap p1 ae ke els h0 n0 s)
  obtain ⟨T136, X136, e136, st136⟩ := getF X0 hx hZ hown (host := "") (Or.inl (hw _ (List.mem_of_getElem? (i := 11) rfl))) Via.refl e0 F_el (g := (mkF m 1 #[.val (.ref ap), .val (.int p1)] [(.ref ap)])) rfl rfl (hb hby own_d3_1)
  refine own_go st136 ?_
  show own_Goes p e below (T136.setTop (mkF m 4 #[.val (.ref ap), .val (.int p1)] [(.ref ae)])) (G_own_elM Z ap p1 ae ke els h0 n0 s)
  refine own_go (fun _ k_ => XS.iloadN X136.here hx rfl (hb hby own_d3_4) rfl k_) ?_
  show own_Goes p e below (T136.setTop (mkF m 5 #[.val (.ref ap), .val (.int p1)] [(.int p1), (.ref ae)])) (G_own_elM Z ap p1 ae ke els h0 n0 s)
  obtain ⟨c137, Ar137, q137, s137, z137, H137, G137⟩ := id A_e
  have hin137 := inb_of s137 i1
  have hat137 := H137.at hin137 (v := (.int (own_g els p1))) (own_gd _ _)
  refine own_go (fun _ k_ => X136.iaload hx (j := p1) (v := (.int (own_g els p1))) (by rw [e136]; exact Ar137.1) (State.isArrayOf_alike hZ.alike Ar137.2.1) Ar137.2.2 hin137 hat137 (g := (mkF m 5 #[.val (.ref ap), .val (.int p1)] [(.int p1), (.ref ae)])) rfl rfl (hb hby own_d3_5) _ k_) ?_
  show own_Goes p e below (T136.setTop (mkF m 6 #[.val (.ref ap), .val (.int p1)] [(.int (own_g els p1))])) (G_own_elM Z ap p1 ae ke els h0 n0 s)
  obtain ⟨fs, hr, hrun, hended, hW, hsame⟩ := X136.leave (v := some (.int (own_g els p1))) (fun h => by rw [Bd.returns] at h; cases h) Bd.notSynchronized
  refine ⟨_, _, retOut X136 hx (t := .int) (i := .ireturn) Bd.returns rfl (Or.inl ⟨rfl, Or.inl rfl, _, rfl⟩) (hb hby own_d3_6) hr, hrun, hended, _, _, rfl, ?_, ⟨_, rfl⟩, hW, hsame.mono (by decide) (by decide)⟩
  show Q_own_elM Z ap p1 ae ke els h0 n0 _ T136.heap _
  rw [e136]
  exact ⟨rfl, N0, rfl⟩
theorem own_pn4 : plainName "com/example/trim_chain/trimchain/engine/PartitionMarkPinLaw" = true := by first | (simp [plainName, overriddenIn]; done) | decide +kernel
theorem own_ef_own_bitM (m : MethodId) (p1 : Int32) : entryFrame m #[(.int p1)] 1 = (mkF m 0 #[.val (.int p1)] []) := by first | (simp [entryFrame, mkF, argsToLocals, Value.category]; done) | rfl
def Q_own_bitM (Z : State) (p1 : Int32) (h0 : Heap) (n0 : Nat) (v : Option Value) (h : Heap) (L : List Loc) : Prop := v = some (.int (own_bit p1)) ∧ Fr n0 L ∧ h = h0
def G_own_bitM (Z : State) (p1 : Int32) (h0 : Heap) (n0 : Nat) (s : State) : Outcome → State → Prop := fun o U' => ∃ v L, o = .returned v ∧ Q_own_bitM Z p1 h0 n0 v U'.heap L ∧ FrameEnd s o U' L ({ frames := 0, cells := 0, slots := 0, locals := 0 } : Room).cells ({ frames := 0, cells := 0, slots := 0, locals := 0 } : Room).slots
theorem own_d4_0 : decode method_2_code 0 = .ok (.iload_n 0, 1) := by decide +kernel
theorem own_d4_1 : decode method_2_code 1 = .ok (.ifCond .lt 12, 3) := by decide +kernel
theorem own_d4_13 : decode method_2_code 13 = .ok (.bipush 64, 2) := by decide +kernel
theorem own_d4_15 : decode method_2_code 15 = .ok (.ireturn, 1) := by decide +kernel
theorem own_d4_4 : decode method_2_code 4 = .ok (.iload_n 0, 1) := by decide +kernel
theorem own_d4_5 : decode method_2_code 5 = .ok (.iconst 5, 1) := by decide +kernel
theorem own_d4_6 : decode method_2_code 6 = .ok (.if_icmp .ge 7, 3) := by decide +kernel
theorem own_d4_9 : decode method_2_code 9 = .ok (.iconst 1, 1) := by decide +kernel
theorem own_d4_10 : decode method_2_code 10 = .ok (.iload_n 0, 1) := by decide +kernel
theorem own_d4_11 : decode method_2_code 11 = .ok (.ishl, 1) := by decide +kernel
theorem own_d4_12 : decode method_2_code 12 = .ok (.ireturn, 1) := by decide +kernel
set_option maxRecDepth 65536 in
set_option maxHeartbeats 40000000 in
theorem own_bitM (l : Launch) (Z : State) (a0 : Array Value) (hw : ∀ d ∈ tables_1, d.before a0 Z = true) (ws : List Jvm.Cond) (p1 : Int32) (h0 : Heap) (n0 : Nat) (Z0 : n0 ≤ h0.size)  :
    MetFree l (⟨"com/example/trim_chain/trimchain/engine/PartitionMarkPinLaw", "bit", "(I)I"⟩ : MethodName) (head1 (Jvm.Cond.code (⟨"com/example/trim_chain/trimchain/engine/PartitionMarkPinLaw", "bit", "(I)I"⟩ : MethodName) method_2_code 1 (some .int) :: ws) ({ frames := 0, cells := 0, slots := 0, locals := 0 } : Room)) (fun a U => a = #[(.int p1)] ∧ Z.Warmed39 U.vm ∧ U.heap = h0) (fun _ _ _ _ _ => True) (fun _ U o U' => ∃ v L, o = .returned v ∧ Q_own_bitM Z p1 h0 n0 v U'.heap L ∧ FrameEnd U o U' L ({ frames := 0, cells := 0, slots := 0, locals := 0 } : Room).cells ({ frames := 0, cells := 0, slots := 0, locals := 0 } : Room).slots) := by
  refine MetFree.of_bodySF (plainFor_of_name own_pn4) hisR ?_
  intro p e s m args below meth c s₁ Bd hml0 hP hK
  obtain ⟨rfl, hZ, hh⟩ := hP
  have hx := Bd.exec
  have hby := Bd.bytes
  have hml : c.maxLocals = 1 := hml0
  have hown : s.vm.findClass "com/example/trim_chain/trimchain/engine/PartitionMarkPinLaw" = some m.cls := findClass_of_methodNamed Bd.named
  have hnm := (name_of_methodNamed Bd.named Bd.method).1
  have X0 : Stand p l e ({ frames := 0, cells := 0, slots := 0, locals := 0 } : Room) s m #[(.int p1)] below meth c s₁ [] 0 0 := Stand.of_body Bd
  have e0 : s₁.heap = h0 := by rw [← hh, Bd.state]; rfl
  have N0 := Fr.nil n0
  refine own_go (S := s₁.setTop (entryFrame m #[(.int p1)] 1)) (Q := (G_own_bitM Z p1 h0 n0 s)) (fun _ k_ => castTop (own_ef_own_bitM m p1) k_) ?_
  show own_Goes p e below (s₁.setTop (mkF m 0 #[.val (.int p1)] [])) (G_own_bitM Z p1 h0 n0 s)
  refine own_go (fun _ k_ => XS.iloadN X0.here hx rfl (hb hby own_d4_0) rfl k_) ?_
  show own_Goes p e below (s₁.setTop (mkF m 1 #[.val (.int p1)] [(.int p1)])) (G_own_bitM Z p1 h0 n0 s)
  by_cases hc1_138 : p1 < (0 : Int32)
  · refine own_go (fun _ k_ => XS.ifYes X0.here hx rfl (pc0 := 1) (pc' := 13) rfl (hb hby own_d4_1) rfl (XT.i0_lt_t hc1_138) (by decide) (by decide) k_) ?_
    show own_Goes p e below (s₁.setTop (mkF m 13 #[.val (.int p1)] [])) (G_own_bitM Z p1 h0 n0 s)
    refine own_go (fun _ k_ => XS.bipush X0.here hx rfl (hb hby own_d4_13) k_) ?_
    show own_Goes p e below (s₁.setTop (mkF m 15 #[.val (.int p1)] [(.int (64 : Int32))])) (G_own_bitM Z p1 h0 n0 s)
    obtain ⟨fs, hr, hrun, hended, hW, hsame⟩ := X0.leave (v := some (.int (64 : Int32))) (fun h => by rw [Bd.returns] at h; cases h) Bd.notSynchronized
    refine ⟨_, _, retOut X0 hx (t := .int) (i := .ireturn) Bd.returns rfl (Or.inl ⟨rfl, Or.inl rfl, _, rfl⟩) (hb hby own_d4_15) hr, hrun, hended, _, _, rfl, ?_, ⟨_, rfl⟩, hW, hsame.mono (by decide) (by decide)⟩
    show Q_own_bitM Z p1 h0 n0 _ s₁.heap _
    rw [e0]
    exact ⟨by simp [own_bit, hc1_138], N0, rfl⟩
  · refine own_go (fun _ k_ => XS.ifNo X0.here hx rfl (hb hby own_d4_1) rfl (XT.i0_lt_f hc1_138) k_) ?_
    show own_Goes p e below (s₁.setTop (mkF m 4 #[.val (.int p1)] [])) (G_own_bitM Z p1 h0 n0 s)
    refine own_go (fun _ k_ => XS.iloadN X0.here hx rfl (hb hby own_d4_4) rfl k_) ?_
    show own_Goes p e below (s₁.setTop (mkF m 5 #[.val (.int p1)] [(.int p1)])) (G_own_bitM Z p1 h0 n0 s)
    refine own_go (fun _ k_ => XS.iconst X0.here hx rfl (hb hby own_d4_5) k_) ?_
    show own_Goes p e below (s₁.setTop (mkF m 6 #[.val (.int p1)] [(.int (5 : Int32)), (.int p1)])) (G_own_bitM Z p1 h0 n0 s)
    by_cases hc6_139 : p1 < (5 : Int32)
    · refine own_go (fun _ k_ => XS.icmpNo X0.here hx rfl (hb hby own_d4_6) rfl (XT.ii_ge_f hc6_139) k_) ?_
      show own_Goes p e below (s₁.setTop (mkF m 9 #[.val (.int p1)] [])) (G_own_bitM Z p1 h0 n0 s)
      refine own_go (fun _ k_ => XS.iconst X0.here hx rfl (hb hby own_d4_9) k_) ?_
      show own_Goes p e below (s₁.setTop (mkF m 10 #[.val (.int p1)] [(.int (1 : Int32))])) (G_own_bitM Z p1 h0 n0 s)
      refine own_go (fun _ k_ => XS.iloadN X0.here hx rfl (hb hby own_d4_10) rfl k_) ?_
      show own_Goes p e below (s₁.setTop (mkF m 11 #[.val (.int p1)] [(.int p1), (.int (1 : Int32))])) (G_own_bitM Z p1 h0 n0 s)
      refine own_go (fun _ k_ => XS.ishl X0.here hx rfl (hb hby own_d4_11) rfl k_) ?_
      show own_Goes p e below (s₁.setTop (mkF m 12 #[.val (.int p1)] [(.int ((1 : Int32) <<< (p1 &&& 31)))])) (G_own_bitM Z p1 h0 n0 s)
      obtain ⟨fs, hr, hrun, hended, hW, hsame⟩ := X0.leave (v := some (.int ((1 : Int32) <<< (p1 &&& 31)))) (fun h => by rw [Bd.returns] at h; cases h) Bd.notSynchronized
      refine ⟨_, _, retOut X0 hx (t := .int) (i := .ireturn) Bd.returns rfl (Or.inl ⟨rfl, Or.inl rfl, _, rfl⟩) (hb hby own_d4_12) hr, hrun, hended, _, _, rfl, ?_, ⟨_, rfl⟩, hW, hsame.mono (by decide) (by decide)⟩
      show Q_own_bitM Z p1 h0 n0 _ s₁.heap _
      rw [e0]
      exact ⟨by simp [own_bit, hc1_138, hc6_139], N0, rfl⟩
    · refine own_go (fun _ k_ => XS.icmpYes X0.here hx rfl (pc0 := 6) (pc' := 13) rfl (hb hby own_d4_6) rfl (XT.ii_ge_t hc6_139) (by decide) (by decide) k_) ?_
      show own_Goes p e below (s₁.setTop (mkF m 13 #[.val (.int p1)] [])) (G_own_bitM Z p1 h0 n0 s)
      refine own_go (fun _ k_ => XS.bipush X0.here hx rfl (hb hby own_d4_13) k_) ?_
      show own_Goes p e below (s₁.setTop (mkF m 15 #[.val (.int p1)] [(.int (64 : Int32))])) (G_own_bitM Z p1 h0 n0 s)
      obtain ⟨fs, hr, hrun, hended, hW, hsame⟩ := X0.leave (v := some (.int (64 : Int32))) (fun h => by rw [Bd.returns] at h; cases h) Bd.notSynchronized
      refine ⟨_, _, retOut X0 hx (t := .int) (i := .ireturn) Bd.returns rfl (Or.inl ⟨rfl, Or.inl rfl, _, rfl⟩) (hb hby own_d4_15) hr, hrun, hended, _, _, rfl, ?_, ⟨_, rfl⟩, hW, hsame.mono (by decide) (by decide)⟩
      show Q_own_bitM Z p1 h0 n0 _ s₁.heap _
      rw [e0]
      exact ⟨by simp [own_bit, hc1_138, hc6_139], N0, rfl⟩
theorem own_pn1 : plainName "com/example/trim_chain/trimchain/engine/Partition" = true := by first | (simp [plainName, overriddenIn]; done) | decide +kernel
theorem own_ef_own_iniM (m : MethodId) (ap : Addr) : entryFrame m #[(.ref ap), (.int (5 : Int32))] 3 = (mkF m 0 #[.val (.ref ap), .val (.int (5 : Int32)), .unset] []) := by first | (simp [entryFrame, mkF, argsToLocals, Value.category]; done) | rfl
def Q_own_iniM (Z : State) (ap : Addr) (h0 : Heap) (n0 : Nat) (v : Option Value) (h : Heap) (L : List Loc) : Prop := v = none ∧ Fr n0 L ∧ Keep h0 h [ap] ∧ ∃ (ae ao ab asx am atx : Addr) (ke ko kb ks km kt : ClassId), Fld Z h ap "com/example/trim_chain/trimchain/engine/Partition" "elements" "[I" (.ref ae) ∧ Fld Z h ap "com/example/trim_chain/trimchain/engine/Partition" "position" "[I" (.ref ao) ∧ Fld Z h ap "com/example/trim_chain/trimchain/engine/Partition" "blockOf" "[I" (.ref ab) ∧ Fld Z h ap "com/example/trim_chain/trimchain/engine/Partition" "start" "[I" (.ref asx) ∧ Fld Z h ap "com/example/trim_chain/trimchain/engine/Partition" "markedEnd" "[I" (.ref am) ∧ Fld Z h ap "com/example/trim_chain/trimchain/engine/Partition" "touched" "[I" (.ref atx) ∧ Fld Z h ap "com/example/trim_chain/trimchain/engine/Partition" "touchedCount" "I" (.int (0 : Int32)) ∧ Arv Z h ae ke .int (5 : Int32) (([0, 1, 2, 3, 4] : List Int32).map Value.int) (.int (0 : Int32)) ∧ Arv Z h ao ko .int (5 : Int32) (([0, 1, 2, 3, 4] : List Int32).map Value.int) (.int (0 : Int32)) ∧ Arv Z h ab kb .int (5 : Int32) (([0, 0, 0, 0, 0] : List Int32).map Value.int) (.int (0 : Int32)) ∧ Arv Z h asx ks .int (5 : Int32) (([0, 0, 0, 0, 0] : List Int32).map Value.int) (.int (0 : Int32)) ∧ Arv Z h am km .int (5 : Int32) (([0, 0, 0, 0, 0] : List Int32).map Value.int) (.int (0 : Int32)) ∧ Arv Z h atx kt .int (5 : Int32) (([0, 0, 0, 0, 0] : List Int32).map Value.int) (.int (0 : Int32)) ∧ ap ≠ ae ∧ ap ≠ ao ∧ ap ≠ ab ∧ ap ≠ asx ∧ ap ≠ am ∧ ap ≠ atx ∧ ae ≠ ao ∧ ae ≠ ab ∧ ae ≠ asx ∧ ae ≠ am ∧ ae ≠ atx ∧ ao ≠ ab ∧ ao ≠ asx ∧ ao ≠ am ∧ ao ≠ atx ∧ ab ≠ asx ∧ ab ≠ am ∧ ab ≠ atx ∧ asx ≠ am ∧ asx ≠ atx ∧ am ≠ atx ∧ n0 ≤ ae ∧ n0 ≤ ao ∧ n0 ≤ ab ∧ n0 ≤ asx ∧ n0 ≤ am ∧ n0 ≤ atx ∧ h0.size ≤ ae ∧ h0.size ≤ ao ∧ h0.size ≤ ab ∧ h0.size ≤ asx ∧ h0.size ≤ am ∧ h0.size ≤ atx
def G_own_iniM (Z : State) (ap : Addr) (h0 : Heap) (n0 : Nat) (s : State) : Outcome → State → Prop := fun o U' => ∃ v L, o = .returned v ∧ Q_own_iniM Z ap h0 n0 v U'.heap L ∧ FrameEnd s o U' L ({ frames := 1, cells := 7, slots := 35, locals := 12 } : Room).cells ({ frames := 1, cells := 7, slots := 35, locals := 12 } : Room).slots
theorem own_d1_0 : decode prog_10_method_1_code 0 = .ok (.aload_n 0, 1) := by decide +kernel
theorem own_d1_1 : decode prog_10_method_1_code 1 = .ok (.invokespecial 1, 3) := by decide +kernel
theorem own_d1_4 : decode prog_10_method_1_code 4 = .ok (.aload_n 0, 1) := by decide +kernel
theorem own_d1_5 : decode prog_10_method_1_code 5 = .ok (.iload_n 1, 1) := by decide +kernel
theorem own_d1_6 : decode prog_10_method_1_code 6 = .ok (.newarray .int, 2) := by decide +kernel
theorem own_d1_8 : decode prog_10_method_1_code 8 = .ok (.putfield 7, 3) := by decide +kernel
theorem own_d1_11 : decode prog_10_method_1_code 11 = .ok (.aload_n 0, 1) := by decide +kernel
theorem own_d1_12 : decode prog_10_method_1_code 12 = .ok (.iload_n 1, 1) := by decide +kernel
theorem own_d1_13 : decode prog_10_method_1_code 13 = .ok (.newarray .int, 2) := by decide +kernel
theorem own_d1_15 : decode prog_10_method_1_code 15 = .ok (.putfield 13, 3) := by decide +kernel
theorem own_d1_18 : decode prog_10_method_1_code 18 = .ok (.aload_n 0, 1) := by decide +kernel
theorem own_d1_19 : decode prog_10_method_1_code 19 = .ok (.iload_n 1, 1) := by decide +kernel
theorem own_d1_20 : decode prog_10_method_1_code 20 = .ok (.newarray .int, 2) := by decide +kernel
theorem own_d1_22 : decode prog_10_method_1_code 22 = .ok (.putfield 16, 3) := by decide +kernel
theorem own_d1_25 : decode prog_10_method_1_code 25 = .ok (.aload_n 0, 1) := by decide +kernel
theorem own_d1_26 : decode prog_10_method_1_code 26 = .ok (.iload_n 1, 1) := by decide +kernel
theorem own_d1_27 : decode prog_10_method_1_code 27 = .ok (.newarray .int, 2) := by decide +kernel
theorem own_d1_29 : decode prog_10_method_1_code 29 = .ok (.putfield 19, 3) := by decide +kernel
theorem own_d1_32 : decode prog_10_method_1_code 32 = .ok (.aload_n 0, 1) := by decide +kernel
theorem own_d1_33 : decode prog_10_method_1_code 33 = .ok (.iload_n 1, 1) := by decide +kernel
theorem own_d1_34 : decode prog_10_method_1_code 34 = .ok (.newarray .int, 2) := by decide +kernel
theorem own_d1_36 : decode prog_10_method_1_code 36 = .ok (.putfield 22, 3) := by decide +kernel
theorem own_d1_39 : decode prog_10_method_1_code 39 = .ok (.aload_n 0, 1) := by decide +kernel
theorem own_d1_40 : decode prog_10_method_1_code 40 = .ok (.iload_n 1, 1) := by decide +kernel
theorem own_d1_41 : decode prog_10_method_1_code 41 = .ok (.newarray .int, 2) := by decide +kernel
theorem own_d1_43 : decode prog_10_method_1_code 43 = .ok (.putfield 25, 3) := by decide +kernel
theorem own_d1_46 : decode prog_10_method_1_code 46 = .ok (.aload_n 0, 1) := by decide +kernel
theorem own_d1_47 : decode prog_10_method_1_code 47 = .ok (.iload_n 1, 1) := by decide +kernel
theorem own_d1_48 : decode prog_10_method_1_code 48 = .ok (.newarray .int, 2) := by decide +kernel
theorem own_d1_50 : decode prog_10_method_1_code 50 = .ok (.putfield 28, 3) := by decide +kernel
theorem own_d1_53 : decode prog_10_method_1_code 53 = .ok (.iconst 0, 1) := by decide +kernel
theorem own_d1_54 : decode prog_10_method_1_code 54 = .ok (.istore_n 2, 1) := by decide +kernel
theorem own_d1_55 : decode prog_10_method_1_code 55 = .ok (.iload_n 2, 1) := by decide +kernel
theorem own_d1_56 : decode prog_10_method_1_code 56 = .ok (.iload_n 1, 1) := by decide +kernel
theorem own_d1_57 : decode prog_10_method_1_code 57 = .ok (.if_icmp .ge 23, 3) := by decide +kernel
theorem own_d1_60 : decode prog_10_method_1_code 60 = .ok (.aload_n 0, 1) := by decide +kernel
theorem own_d1_61 : decode prog_10_method_1_code 61 = .ok (.getfield 7, 3) := by decide +kernel
theorem own_d1_64 : decode prog_10_method_1_code 64 = .ok (.iload_n 2, 1) := by decide +kernel
theorem own_d1_65 : decode prog_10_method_1_code 65 = .ok (.iload_n 2, 1) := by decide +kernel
theorem own_d1_66 : decode prog_10_method_1_code 66 = .ok (.iastore, 1) := by decide +kernel
theorem own_d1_67 : decode prog_10_method_1_code 67 = .ok (.aload_n 0, 1) := by decide +kernel
theorem own_d1_68 : decode prog_10_method_1_code 68 = .ok (.getfield 13, 3) := by decide +kernel
theorem own_d1_71 : decode prog_10_method_1_code 71 = .ok (.iload_n 2, 1) := by decide +kernel
theorem own_d1_72 : decode prog_10_method_1_code 72 = .ok (.iload_n 2, 1) := by decide +kernel
theorem own_d1_73 : decode prog_10_method_1_code 73 = .ok (.iastore, 1) := by decide +kernel
theorem own_d1_74 : decode prog_10_method_1_code 74 = .ok (.iinc 2 1, 3) := by decide +kernel
theorem own_d1_77 : decode prog_10_method_1_code 77 = .ok (.goto (-22), 3) := by decide +kernel
theorem own_d1_80 : decode prog_10_method_1_code 80 = .ok (.iload_n 1, 1) := by decide +kernel
theorem own_d1_81 : decode prog_10_method_1_code 81 = .ok (.ifCond .le 15, 3) := by decide +kernel
theorem own_d1_84 : decode prog_10_method_1_code 84 = .ok (.aload_n 0, 1) := by decide +kernel
theorem own_d1_85 : decode prog_10_method_1_code 85 = .ok (.getfield 22, 3) := by decide +kernel
theorem own_d1_88 : decode prog_10_method_1_code 88 = .ok (.iconst 0, 1) := by decide +kernel
theorem own_d1_89 : decode prog_10_method_1_code 89 = .ok (.iload_n 1, 1) := by decide +kernel
theorem own_d1_90 : decode prog_10_method_1_code 90 = .ok (.iastore, 1) := by decide +kernel
theorem own_d1_91 : decode prog_10_method_1_code 91 = .ok (.aload_n 0, 1) := by decide +kernel
theorem own_d1_92 : decode prog_10_method_1_code 92 = .ok (.iconst 1, 1) := by decide +kernel
theorem own_d1_93 : decode prog_10_method_1_code 93 = .ok (.putfield 31, 3) := by decide +kernel
theorem own_d1_96 : decode prog_10_method_1_code 96 = .ok (.return_, 1) := by decide +kernel
set_option maxRecDepth 65536 in
set_option maxHeartbeats 40000000 in
theorem own_iniM (l : Launch) (Z : State) (a0 : Array Value) (hw : ∀ d ∈ tables_1, d.before a0 Z = true) (ws : List Jvm.Cond) (ap : Addr) (h0 : Heap) (n0 : Nat) (Z0 : n0 ≤ h0.size) (E_ap : Exa Z h0 ap "com/example/trim_chain/trimchain/engine/Partition") (g_ap : n0 ≤ ap) (F_elements : Fld Z h0 ap "com/example/trim_chain/trimchain/engine/Partition" "elements" "[I" .null) (F_position : Fld Z h0 ap "com/example/trim_chain/trimchain/engine/Partition" "position" "[I" .null) (F_blockOf : Fld Z h0 ap "com/example/trim_chain/trimchain/engine/Partition" "blockOf" "[I" .null) (F_start : Fld Z h0 ap "com/example/trim_chain/trimchain/engine/Partition" "start" "[I" .null) (F_end : Fld Z h0 ap "com/example/trim_chain/trimchain/engine/Partition" "end" "[I" .null) (F_markedEnd : Fld Z h0 ap "com/example/trim_chain/trimchain/engine/Partition" "markedEnd" "[I" .null) (F_touched : Fld Z h0 ap "com/example/trim_chain/trimchain/engine/Partition" "touched" "[I" .null) (F_blockCount : Fld Z h0 ap "com/example/trim_chain/trimchain/engine/Partition" "blockCount" "I" (.int (0 : Int32))) (F_touchedCount : Fld Z h0 ap "com/example/trim_chain/trimchain/engine/Partition" "touchedCount" "I" (.int (0 : Int32))) :
    MetFree l (⟨"com/example/trim_chain/trimchain/engine/Partition", "<init>", "(I)V"⟩ : MethodName) (head1 (Jvm.Cond.code (⟨"com/example/trim_chain/trimchain/engine/Partition", "<init>", "(I)V"⟩ : MethodName) prog_10_method_1_code 3 none :: ws) ({ frames := 1, cells := 7, slots := 35, locals := 12 } : Room)) (fun a U => a = #[(.ref ap), (.int (5 : Int32))] ∧ Z.Warmed39 U.vm ∧ U.heap = h0) (fun _ _ _ _ _ => True) (fun _ U o U' => ∃ v L, o = .returned v ∧ Q_own_iniM Z ap h0 n0 v U'.heap L ∧ FrameEnd U o U' L ({ frames := 1, cells := 7, slots := 35, locals := 12 } : Room).cells ({ frames := 1, cells := 7, slots := 35, locals := 12 } : Room).slots) := by
  refine MetFree.of_bodySF (plainFor_of_name own_pn1) hisR ?_
  intro p e s m args below meth c s₁ Bd hml0 hP hK
  obtain ⟨rfl, hZ, hh⟩ := hP
  have hx := Bd.exec
  have hby := Bd.bytes
  have hml : c.maxLocals = 3 := hml0
  have hown : s.vm.findClass "com/example/trim_chain/trimchain/engine/Partition" = some m.cls := findClass_of_methodNamed Bd.named
  have hnm := (name_of_methodNamed Bd.named Bd.method).1
  have X0 : Stand p l e ({ frames := 1, cells := 7, slots := 35, locals := 12 } : Room) s m #[(.ref ap), (.int (5 : Int32))] below meth c s₁ [] 0 0 := Stand.of_body Bd
  have e0 : s₁.heap = h0 := by rw [← hh, Bd.state]; rfl
  have N0 := Fr.nil n0
  refine own_go (S := s₁.setTop (entryFrame m #[(.ref ap), (.int (5 : Int32))] 3)) (Q := (G_own_iniM Z ap h0 n0 s)) (fun _ k_ => castTop (own_ef_own_iniM m ap) k_) ?_
  show own_Goes p e below (s₁.setTop (mkF m 0 #[.val (.ref ap), .val (.int (5 : Int32)), .unset] [])) (G_own_iniM Z ap h0 n0 s)
  have K140 : Keep h0 h0 [ap] := Keep.refl h0 [ap]
  refine own_go (fun _ k_ => XS.aloadN X0.here hx rfl (hb hby own_d1_0) rfl rfl k_) ?_
  show own_Goes p e below (s₁.setTop (mkF m 1 #[.val (.ref ap), .val (.int (5 : Int32)), .unset] [(.ref ap)])) (G_own_iniM Z ap h0 n0 s)
  obtain ⟨T141, X141, e141, st141⟩ := initO X0 hx hZ hown (hw _ (List.mem_of_getElem? (i := 8) rfl)) (hw _ (List.mem_of_getElem? (i := 9) rfl)) (hw _ (List.mem_of_getElem? (i := 10) rfl)) e0 (g := (mkF m 1 #[.val (.ref ap), .val (.int (5 : Int32)), .unset] [(.ref ap)])) rfl (by rw [hml]; rfl) rfl (hb hby own_d1_1) (by decide) (W := 0) (by show 2 * 0 + _ ≤ _; exact Nat.le_of_eq rfl) (by decide)
  refine own_go st141 ?_
  show own_Goes p e below (T141.setTop (mkF m 4 #[.val (.ref ap), .val (.int (5 : Int32)), .unset] [])) (G_own_iniM Z ap h0 n0 s)
  refine own_go (fun _ k_ => XS.aloadN X141.here hx rfl (hb hby own_d1_4) rfl rfl k_) ?_
  show own_Goes p e below (T141.setTop (mkF m 5 #[.val (.ref ap), .val (.int (5 : Int32)), .unset] [(.ref ap)])) (G_own_iniM Z ap h0 n0 s)
  refine own_go (fun _ k_ => XS.iloadN X141.here hx rfl (hb hby own_d1_5) rfl k_) ?_
  show own_Goes p e below (T141.setTop (mkF m 6 #[.val (.ref ap), .val (.int (5 : Int32)), .unset] [(.int (5 : Int32)), (.ref ap)])) (G_own_iniM Z ap h0 n0 s)
  obtain ⟨T142, h142, cA142, X142, e142, E142, A142, st142⟩ := newP X141 hx hZ (aty := .int) (hw _ (List.mem_of_getElem? (i := 1) rfl)) e141 (g := (mkF m 6 #[.val (.ref ap), .val (.int (5 : Int32)), .unset] [(.int (5 : Int32)), (.ref ap)])) rfl (hb hby own_d1_6) rfl (by decide) (cap := 5) (by decide) (by decide) (by decide) (by decide)
  obtain ⟨b142, g142⟩ : ∃ z, z = h0.size := ⟨_, rfl⟩
  rw [← g142] at A142 st142
  have ne_ap_b142 : ap ≠ b142 := by rw [g142]; exact Nat.ne_of_lt E_ap.lt
  have E_144 := E_ap.ext E142
  have F_145 := F_elements.ext E142
  have F_146 := F_position.ext E142
  have F_147 := F_blockOf.ext E142
  have F_148 := F_start.ext E142
  have F_149 := F_end.ext E142
  have F_150 := F_markedEnd.ext E142
  have F_151 := F_touched.ext E142
  have F_152 := F_blockCount.ext E142
  have F_153 := F_touchedCount.ext E142
  have g_b142 : n0 ≤ b142 := by rw [g142]; exact Z0
  have sz_b142 : h0.size ≤ b142 := by rw [g142]; exact K140.1
  have K142 : Keep h0 h142 [ap] := K140.ext E142
  have Z142 : n0 ≤ h142.size := Nat.le_trans Z0 E142.1
  have Av142 : Arv Z h142 b142 cA142 .int (5 : Int32) [] (.int (0 : Int32)) := Arv.new A142 (by decide)
  have Aw142 : Arv Z h142 b142 cA142 .int (5 : Int32) [(.int (0 : Int32)), (.int (0 : Int32)), (.int (0 : Int32)), (.int (0 : Int32)), (.int (0 : Int32))] (.int (0 : Int32)) := Av142.pad (pad_rep [] _ 5)
  refine own_go st142 ?_
  show own_Goes p e below (T142.setTop (mkF m 8 #[.val (.ref ap), .val (.int (5 : Int32)), .unset] [(.ref b142), (.ref ap)])) (G_own_iniM Z ap h0 n0 s)
  obtain ⟨T154, h154, X154, e154, W154, st154⟩ := putF X142 hx hZ hown (host := "") (Or.inl (hw _ (List.mem_of_getElem? (i := 11) rfl))) Via.refl e142 F_145 E_144 (Or.inr ⟨(hw _ (List.mem_of_getElem? (i := 12) rfl)), rfl, hnm⟩) (hw _ (List.mem_of_getElem? (i := 3) rfl)) (ty := (.array .int)) (by decide) rfl rfl (g := (mkF m 8 #[.val (.ref ap), .val (.int (5 : Int32)), .unset] [(.ref b142), (.ref ap)])) rfl rfl (hb hby own_d1_8)
  have E_155 := E_144.wr W154
  have F_156 := F_146.other W154 (Or.inr (slot_ne (Or.inr (hw _ (List.mem_of_getElem? (i := 14) rfl))) (Or.inr (hw _ (List.mem_of_getElem? (i := 12) rfl))) (by decide) (t := (.array .int)) (t' := (.array .int)) (by decide) (by decide)))
  have F_157 := F_147.other W154 (Or.inr (slot_ne (Or.inr (hw _ (List.mem_of_getElem? (i := 16) rfl))) (Or.inr (hw _ (List.mem_of_getElem? (i := 12) rfl))) (by decide) (t := (.array .int)) (t' := (.array .int)) (by decide) (by decide)))
  have F_158 := F_148.other W154 (Or.inr (slot_ne (Or.inr (hw _ (List.mem_of_getElem? (i := 18) rfl))) (Or.inr (hw _ (List.mem_of_getElem? (i := 12) rfl))) (by decide) (t := (.array .int)) (t' := (.array .int)) (by decide) (by decide)))
  have F_159 := F_149.other W154 (Or.inr (slot_ne (Or.inr (hw _ (List.mem_of_getElem? (i := 20) rfl))) (Or.inr (hw _ (List.mem_of_getElem? (i := 12) rfl))) (by decide) (t := (.array .int)) (t' := (.array .int)) (by decide) (by decide)))
  have F_160 := F_150.other W154 (Or.inr (slot_ne (Or.inr (hw _ (List.mem_of_getElem? (i := 22) rfl))) (Or.inr (hw _ (List.mem_of_getElem? (i := 12) rfl))) (by decide) (t := (.array .int)) (t' := (.array .int)) (by decide) (by decide)))
  have F_161 := F_151.other W154 (Or.inr (slot_ne (Or.inr (hw _ (List.mem_of_getElem? (i := 24) rfl))) (Or.inr (hw _ (List.mem_of_getElem? (i := 12) rfl))) (by decide) (t := (.array .int)) (t' := (.array .int)) (by decide) (by decide)))
  have F_162 := F_152.other W154 (Or.inr (slot_ne (Or.inl (hw _ (List.mem_of_getElem? (i := 26) rfl))) (Or.inr (hw _ (List.mem_of_getElem? (i := 12) rfl))) (by decide) (t := .int) (t' := (.array .int)) (by decide) (by decide)))
  have F_163 := F_153.other W154 (Or.inr (slot_ne (Or.inl (hw _ (List.mem_of_getElem? (i := 42) rfl))) (Or.inr (hw _ (List.mem_of_getElem? (i := 12) rfl))) (by decide) (t := .int) (t' := (.array .int)) (by decide) (by decide)))
  have Aw142_164 := Aw142.other W154 (Ne.symm ne_ap_b142)
  have F_165 := F_145.same W154
  have N154 := Fr.snoc X154 N0 g_ap
  have Z154 : n0 ≤ h154.size := by rw [W154.size]; exact Z142
  have K154 : Keep h0 h154 [ap] := K142.wr W154 (Or.inl (List.mem_of_getElem? (i := 0) rfl))
  refine own_go st154 ?_
  show own_Goes p e below (T154.setTop (mkF m 11 #[.val (.ref ap), .val (.int (5 : Int32)), .unset] [])) (G_own_iniM Z ap h0 n0 s)
  refine own_go (fun _ k_ => XS.aloadN X154.here hx rfl (hb hby own_d1_11) rfl rfl k_) ?_
  show own_Goes p e below (T154.setTop (mkF m 12 #[.val (.ref ap), .val (.int (5 : Int32)), .unset] [(.ref ap)])) (G_own_iniM Z ap h0 n0 s)
  refine own_go (fun _ k_ => XS.iloadN X154.here hx rfl (hb hby own_d1_12) rfl k_) ?_
  show own_Goes p e below (T154.setTop (mkF m 13 #[.val (.ref ap), .val (.int (5 : Int32)), .unset] [(.int (5 : Int32)), (.ref ap)])) (G_own_iniM Z ap h0 n0 s)
  obtain ⟨T166, h166, cA166, X166, e166, E166, A166, st166⟩ := newP X154 hx hZ (aty := .int) (hw _ (List.mem_of_getElem? (i := 1) rfl)) e154 (g := (mkF m 13 #[.val (.ref ap), .val (.int (5 : Int32)), .unset] [(.int (5 : Int32)), (.ref ap)])) rfl (hb hby own_d1_13) rfl (by decide) (cap := 5) (by decide) (by decide) (by decide) (by decide)
  obtain ⟨b166, g166⟩ : ∃ z, z = h154.size := ⟨_, rfl⟩
  rw [← g166] at A166 st166
  have ne_ap_b166 : ap ≠ b166 := by rw [g166]; exact Nat.ne_of_lt E_155.lt
  have ne_b142_b166 : b142 ≠ b166 := by rw [g166]; exact Nat.ne_of_lt Aw142_164.lt
  have E_168 := E_155.ext E166
  have F_169 := F_165.ext E166
  have F_170 := F_156.ext E166
  have F_171 := F_157.ext E166
  have F_172 := F_158.ext E166
  have F_173 := F_159.ext E166
  have F_174 := F_160.ext E166
  have F_175 := F_161.ext E166
  have F_176 := F_162.ext E166
  have F_177 := F_163.ext E166
  have Aw142_178 := Aw142_164.ext E166
  have g_b166 : n0 ≤ b166 := by rw [g166]; exact Z154
  have sz_b166 : h0.size ≤ b166 := by rw [g166]; exact K154.1
  have K166 : Keep h0 h166 [ap] := K154.ext E166
  have Z166 : n0 ≤ h166.size := Nat.le_trans Z154 E166.1
  have Av166 : Arv Z h166 b166 cA166 .int (5 : Int32) [] (.int (0 : Int32)) := Arv.new A166 (by decide)
  have Aw166 : Arv Z h166 b166 cA166 .int (5 : Int32) [(.int (0 : Int32)), (.int (0 : Int32)), (.int (0 : Int32)), (.int (0 : Int32)), (.int (0 : Int32))] (.int (0 : Int32)) := Av166.pad (pad_rep [] _ 5)
  refine own_go st166 ?_
  show own_Goes p e below (T166.setTop (mkF m 15 #[.val (.ref ap), .val (.int (5 : Int32)), .unset] [(.ref b166), (.ref ap)])) (G_own_iniM Z ap h0 n0 s)
  obtain ⟨T179, h179, X179, e179, W179, st179⟩ := putF X166 hx hZ hown (host := "") (Or.inl (hw _ (List.mem_of_getElem? (i := 13) rfl))) Via.refl e166 F_170 E_168 (Or.inr ⟨(hw _ (List.mem_of_getElem? (i := 14) rfl)), rfl, hnm⟩) (hw _ (List.mem_of_getElem? (i := 3) rfl)) (ty := (.array .int)) (by decide) rfl rfl (g := (mkF m 15 #[.val (.ref ap), .val (.int (5 : Int32)), .unset] [(.ref b166), (.ref ap)])) rfl rfl (hb hby own_d1_15)
  have E_180 := E_168.wr W179
  have F_181 := F_169.other W179 (Or.inr (slot_ne (Or.inr (hw _ (List.mem_of_getElem? (i := 12) rfl))) (Or.inr (hw _ (List.mem_of_getElem? (i := 14) rfl))) (by decide) (t := (.array .int)) (t' := (.array .int)) (by decide) (by decide)))
  have F_182 := F_171.other W179 (Or.inr (slot_ne (Or.inr (hw _ (List.mem_of_getElem? (i := 16) rfl))) (Or.inr (hw _ (List.mem_of_getElem? (i := 14) rfl))) (by decide) (t := (.array .int)) (t' := (.array .int)) (by decide) (by decide)))
  have F_183 := F_172.other W179 (Or.inr (slot_ne (Or.inr (hw _ (List.mem_of_getElem? (i := 18) rfl))) (Or.inr (hw _ (List.mem_of_getElem? (i := 14) rfl))) (by decide) (t := (.array .int)) (t' := (.array .int)) (by decide) (by decide)))
  have F_184 := F_173.other W179 (Or.inr (slot_ne (Or.inr (hw _ (List.mem_of_getElem? (i := 20) rfl))) (Or.inr (hw _ (List.mem_of_getElem? (i := 14) rfl))) (by decide) (t := (.array .int)) (t' := (.array .int)) (by decide) (by decide)))
  have F_185 := F_174.other W179 (Or.inr (slot_ne (Or.inr (hw _ (List.mem_of_getElem? (i := 22) rfl))) (Or.inr (hw _ (List.mem_of_getElem? (i := 14) rfl))) (by decide) (t := (.array .int)) (t' := (.array .int)) (by decide) (by decide)))
  have F_186 := F_175.other W179 (Or.inr (slot_ne (Or.inr (hw _ (List.mem_of_getElem? (i := 24) rfl))) (Or.inr (hw _ (List.mem_of_getElem? (i := 14) rfl))) (by decide) (t := (.array .int)) (t' := (.array .int)) (by decide) (by decide)))
  have F_187 := F_176.other W179 (Or.inr (slot_ne (Or.inl (hw _ (List.mem_of_getElem? (i := 26) rfl))) (Or.inr (hw _ (List.mem_of_getElem? (i := 14) rfl))) (by decide) (t := .int) (t' := (.array .int)) (by decide) (by decide)))
  have F_188 := F_177.other W179 (Or.inr (slot_ne (Or.inl (hw _ (List.mem_of_getElem? (i := 42) rfl))) (Or.inr (hw _ (List.mem_of_getElem? (i := 14) rfl))) (by decide) (t := .int) (t' := (.array .int)) (by decide) (by decide)))
  have Aw142_189 := Aw142_178.other W179 (Ne.symm ne_ap_b142)
  have Aw166_190 := Aw166.other W179 (Ne.symm ne_ap_b166)
  have F_191 := F_170.same W179
  have N179 := Fr.snoc X179 N154 g_ap
  have Z179 : n0 ≤ h179.size := by rw [W179.size]; exact Z166
  have K179 : Keep h0 h179 [ap] := K166.wr W179 (Or.inl (List.mem_of_getElem? (i := 0) rfl))
  refine own_go st179 ?_
  show own_Goes p e below (T179.setTop (mkF m 18 #[.val (.ref ap), .val (.int (5 : Int32)), .unset] [])) (G_own_iniM Z ap h0 n0 s)
  refine own_go (fun _ k_ => XS.aloadN X179.here hx rfl (hb hby own_d1_18) rfl rfl k_) ?_
  show own_Goes p e below (T179.setTop (mkF m 19 #[.val (.ref ap), .val (.int (5 : Int32)), .unset] [(.ref ap)])) (G_own_iniM Z ap h0 n0 s)
  refine own_go (fun _ k_ => XS.iloadN X179.here hx rfl (hb hby own_d1_19) rfl k_) ?_
  show own_Goes p e below (T179.setTop (mkF m 20 #[.val (.ref ap), .val (.int (5 : Int32)), .unset] [(.int (5 : Int32)), (.ref ap)])) (G_own_iniM Z ap h0 n0 s)
  obtain ⟨T192, h192, cA192, X192, e192, E192, A192, st192⟩ := newP X179 hx hZ (aty := .int) (hw _ (List.mem_of_getElem? (i := 1) rfl)) e179 (g := (mkF m 20 #[.val (.ref ap), .val (.int (5 : Int32)), .unset] [(.int (5 : Int32)), (.ref ap)])) rfl (hb hby own_d1_20) rfl (by decide) (cap := 5) (by decide) (by decide) (by decide) (by decide)
  obtain ⟨b192, g192⟩ : ∃ z, z = h179.size := ⟨_, rfl⟩
  rw [← g192] at A192 st192
  have ne_ap_b192 : ap ≠ b192 := by rw [g192]; exact Nat.ne_of_lt E_180.lt
  have ne_b142_b192 : b142 ≠ b192 := by rw [g192]; exact Nat.ne_of_lt Aw142_189.lt
  have ne_b166_b192 : b166 ≠ b192 := by rw [g192]; exact Nat.ne_of_lt Aw166_190.lt
  have E_194 := E_180.ext E192
  have F_195 := F_181.ext E192
  have F_196 := F_191.ext E192
  have F_197 := F_182.ext E192
  have F_198 := F_183.ext E192
  have F_199 := F_184.ext E192
  have F_200 := F_185.ext E192
  have F_201 := F_186.ext E192
  have F_202 := F_187.ext E192
  have F_203 := F_188.ext E192
  have Aw142_204 := Aw142_189.ext E192
  have Aw166_205 := Aw166_190.ext E192
  have g_b192 : n0 ≤ b192 := by rw [g192]; exact Z179
  have sz_b192 : h0.size ≤ b192 := by rw [g192]; exact K179.1
  have K192 : Keep h0 h192 [ap] := K179.ext E192
  have Z192 : n0 ≤ h192.size := Nat.le_trans Z179 E192.1
  have Av192 : Arv Z h192 b192 cA192 .int (5 : Int32) [] (.int (0 : Int32)) := Arv.new A192 (by decide)
  have Aw192 : Arv Z h192 b192 cA192 .int (5 : Int32) [(.int (0 : Int32)), (.int (0 : Int32)), (.int (0 : Int32)), (.int (0 : Int32)), (.int (0 : Int32))] (.int (0 : Int32)) := Av192.pad (pad_rep [] _ 5)
  refine own_go st192 ?_
  show own_Goes p e below (T192.setTop (mkF m 22 #[.val (.ref ap), .val (.int (5 : Int32)), .unset] [(.ref b192), (.ref ap)])) (G_own_iniM Z ap h0 n0 s)
  obtain ⟨T206, h206, X206, e206, W206, st206⟩ := putF X192 hx hZ hown (host := "") (Or.inl (hw _ (List.mem_of_getElem? (i := 15) rfl))) Via.refl e192 F_197 E_194 (Or.inr ⟨(hw _ (List.mem_of_getElem? (i := 16) rfl)), rfl, hnm⟩) (hw _ (List.mem_of_getElem? (i := 3) rfl)) (ty := (.array .int)) (by decide) rfl rfl (g := (mkF m 22 #[.val (.ref ap), .val (.int (5 : Int32)), .unset] [(.ref b192), (.ref ap)])) rfl rfl (hb hby own_d1_22)
  have E_207 := E_194.wr W206
  have F_208 := F_195.other W206 (Or.inr (slot_ne (Or.inr (hw _ (List.mem_of_getElem? (i := 12) rfl))) (Or.inr (hw _ (List.mem_of_getElem? (i := 16) rfl))) (by decide) (t := (.array .int)) (t' := (.array .int)) (by decide) (by decide)))
  have F_209 := F_196.other W206 (Or.inr (slot_ne (Or.inr (hw _ (List.mem_of_getElem? (i := 14) rfl))) (Or.inr (hw _ (List.mem_of_getElem? (i := 16) rfl))) (by decide) (t := (.array .int)) (t' := (.array .int)) (by decide) (by decide)))
  have F_210 := F_198.other W206 (Or.inr (slot_ne (Or.inr (hw _ (List.mem_of_getElem? (i := 18) rfl))) (Or.inr (hw _ (List.mem_of_getElem? (i := 16) rfl))) (by decide) (t := (.array .int)) (t' := (.array .int)) (by decide) (by decide)))
  have F_211 := F_199.other W206 (Or.inr (slot_ne (Or.inr (hw _ (List.mem_of_getElem? (i := 20) rfl))) (Or.inr (hw _ (List.mem_of_getElem? (i := 16) rfl))) (by decide) (t := (.array .int)) (t' := (.array .int)) (by decide) (by decide)))
  have F_212 := F_200.other W206 (Or.inr (slot_ne (Or.inr (hw _ (List.mem_of_getElem? (i := 22) rfl))) (Or.inr (hw _ (List.mem_of_getElem? (i := 16) rfl))) (by decide) (t := (.array .int)) (t' := (.array .int)) (by decide) (by decide)))
  have F_213 := F_201.other W206 (Or.inr (slot_ne (Or.inr (hw _ (List.mem_of_getElem? (i := 24) rfl))) (Or.inr (hw _ (List.mem_of_getElem? (i := 16) rfl))) (by decide) (t := (.array .int)) (t' := (.array .int)) (by decide) (by decide)))
  have F_214 := F_202.other W206 (Or.inr (slot_ne (Or.inl (hw _ (List.mem_of_getElem? (i := 26) rfl))) (Or.inr (hw _ (List.mem_of_getElem? (i := 16) rfl))) (by decide) (t := .int) (t' := (.array .int)) (by decide) (by decide)))
  have F_215 := F_203.other W206 (Or.inr (slot_ne (Or.inl (hw _ (List.mem_of_getElem? (i := 42) rfl))) (Or.inr (hw _ (List.mem_of_getElem? (i := 16) rfl))) (by decide) (t := .int) (t' := (.array .int)) (by decide) (by decide)))
  have Aw142_216 := Aw142_204.other W206 (Ne.symm ne_ap_b142)
  have Aw166_217 := Aw166_205.other W206 (Ne.symm ne_ap_b166)
  have Aw192_218 := Aw192.other W206 (Ne.symm ne_ap_b192)
  have F_219 := F_197.same W206
  have N206 := Fr.snoc X206 N179 g_ap
  have Z206 : n0 ≤ h206.size := by rw [W206.size]; exact Z192
  have K206 : Keep h0 h206 [ap] := K192.wr W206 (Or.inl (List.mem_of_getElem? (i := 0) rfl))
  refine own_go st206 ?_
  show own_Goes p e below (T206.setTop (mkF m 25 #[.val (.ref ap), .val (.int (5 : Int32)), .unset] [])) (G_own_iniM Z ap h0 n0 s)
  refine own_go (fun _ k_ => XS.aloadN X206.here hx rfl (hb hby own_d1_25) rfl rfl k_) ?_
  show own_Goes p e below (T206.setTop (mkF m 26 #[.val (.ref ap), .val (.int (5 : Int32)), .unset] [(.ref ap)])) (G_own_iniM Z ap h0 n0 s)
  refine own_go (fun _ k_ => XS.iloadN X206.here hx rfl (hb hby own_d1_26) rfl k_) ?_
  show own_Goes p e below (T206.setTop (mkF m 27 #[.val (.ref ap), .val (.int (5 : Int32)), .unset] [(.int (5 : Int32)), (.ref ap)])) (G_own_iniM Z ap h0 n0 s)
  obtain ⟨T220, h220, cA220, X220, e220, E220, A220, st220⟩ := newP X206 hx hZ (aty := .int) (hw _ (List.mem_of_getElem? (i := 1) rfl)) e206 (g := (mkF m 27 #[.val (.ref ap), .val (.int (5 : Int32)), .unset] [(.int (5 : Int32)), (.ref ap)])) rfl (hb hby own_d1_27) rfl (by decide) (cap := 5) (by decide) (by decide) (by decide) (by decide)
  obtain ⟨b220, g220⟩ : ∃ z, z = h206.size := ⟨_, rfl⟩
  rw [← g220] at A220 st220
  have ne_ap_b220 : ap ≠ b220 := by rw [g220]; exact Nat.ne_of_lt E_207.lt
  have ne_b142_b220 : b142 ≠ b220 := by rw [g220]; exact Nat.ne_of_lt Aw142_216.lt
  have ne_b166_b220 : b166 ≠ b220 := by rw [g220]; exact Nat.ne_of_lt Aw166_217.lt
  have ne_b192_b220 : b192 ≠ b220 := by rw [g220]; exact Nat.ne_of_lt Aw192_218.lt
  have E_222 := E_207.ext E220
  have F_223 := F_208.ext E220
  have F_224 := F_209.ext E220
  have F_225 := F_219.ext E220
  have F_226 := F_210.ext E220
  have F_227 := F_211.ext E220
  have F_228 := F_212.ext E220
  have F_229 := F_213.ext E220
  have F_230 := F_214.ext E220
  have F_231 := F_215.ext E220
  have Aw142_232 := Aw142_216.ext E220
  have Aw166_233 := Aw166_217.ext E220
  have Aw192_234 := Aw192_218.ext E220
  have g_b220 : n0 ≤ b220 := by rw [g220]; exact Z206
  have sz_b220 : h0.size ≤ b220 := by rw [g220]; exact K206.1
  have K220 : Keep h0 h220 [ap] := K206.ext E220
  have Z220 : n0 ≤ h220.size := Nat.le_trans Z206 E220.1
  have Av220 : Arv Z h220 b220 cA220 .int (5 : Int32) [] (.int (0 : Int32)) := Arv.new A220 (by decide)
  have Aw220 : Arv Z h220 b220 cA220 .int (5 : Int32) [(.int (0 : Int32)), (.int (0 : Int32)), (.int (0 : Int32)), (.int (0 : Int32)), (.int (0 : Int32))] (.int (0 : Int32)) := Av220.pad (pad_rep [] _ 5)
  refine own_go st220 ?_
  show own_Goes p e below (T220.setTop (mkF m 29 #[.val (.ref ap), .val (.int (5 : Int32)), .unset] [(.ref b220), (.ref ap)])) (G_own_iniM Z ap h0 n0 s)
  obtain ⟨T235, h235, X235, e235, W235, st235⟩ := putF X220 hx hZ hown (host := "") (Or.inl (hw _ (List.mem_of_getElem? (i := 17) rfl))) Via.refl e220 F_226 E_222 (Or.inr ⟨(hw _ (List.mem_of_getElem? (i := 18) rfl)), rfl, hnm⟩) (hw _ (List.mem_of_getElem? (i := 3) rfl)) (ty := (.array .int)) (by decide) rfl rfl (g := (mkF m 29 #[.val (.ref ap), .val (.int (5 : Int32)), .unset] [(.ref b220), (.ref ap)])) rfl rfl (hb hby own_d1_29)
  have E_236 := E_222.wr W235
  have F_237 := F_223.other W235 (Or.inr (slot_ne (Or.inr (hw _ (List.mem_of_getElem? (i := 12) rfl))) (Or.inr (hw _ (List.mem_of_getElem? (i := 18) rfl))) (by decide) (t := (.array .int)) (t' := (.array .int)) (by decide) (by decide)))
  have F_238 := F_224.other W235 (Or.inr (slot_ne (Or.inr (hw _ (List.mem_of_getElem? (i := 14) rfl))) (Or.inr (hw _ (List.mem_of_getElem? (i := 18) rfl))) (by decide) (t := (.array .int)) (t' := (.array .int)) (by decide) (by decide)))
  have F_239 := F_225.other W235 (Or.inr (slot_ne (Or.inr (hw _ (List.mem_of_getElem? (i := 16) rfl))) (Or.inr (hw _ (List.mem_of_getElem? (i := 18) rfl))) (by decide) (t := (.array .int)) (t' := (.array .int)) (by decide) (by decide)))
  have F_240 := F_227.other W235 (Or.inr (slot_ne (Or.inr (hw _ (List.mem_of_getElem? (i := 20) rfl))) (Or.inr (hw _ (List.mem_of_getElem? (i := 18) rfl))) (by decide) (t := (.array .int)) (t' := (.array .int)) (by decide) (by decide)))
  have F_241 := F_228.other W235 (Or.inr (slot_ne (Or.inr (hw _ (List.mem_of_getElem? (i := 22) rfl))) (Or.inr (hw _ (List.mem_of_getElem? (i := 18) rfl))) (by decide) (t := (.array .int)) (t' := (.array .int)) (by decide) (by decide)))
  have F_242 := F_229.other W235 (Or.inr (slot_ne (Or.inr (hw _ (List.mem_of_getElem? (i := 24) rfl))) (Or.inr (hw _ (List.mem_of_getElem? (i := 18) rfl))) (by decide) (t := (.array .int)) (t' := (.array .int)) (by decide) (by decide)))
  have F_243 := F_230.other W235 (Or.inr (slot_ne (Or.inl (hw _ (List.mem_of_getElem? (i := 26) rfl))) (Or.inr (hw _ (List.mem_of_getElem? (i := 18) rfl))) (by decide) (t := .int) (t' := (.array .int)) (by decide) (by decide)))
  have F_244 := F_231.other W235 (Or.inr (slot_ne (Or.inl (hw _ (List.mem_of_getElem? (i := 42) rfl))) (Or.inr (hw _ (List.mem_of_getElem? (i := 18) rfl))) (by decide) (t := .int) (t' := (.array .int)) (by decide) (by decide)))
  have Aw142_245 := Aw142_232.other W235 (Ne.symm ne_ap_b142)
  have Aw166_246 := Aw166_233.other W235 (Ne.symm ne_ap_b166)
  have Aw192_247 := Aw192_234.other W235 (Ne.symm ne_ap_b192)
  have Aw220_248 := Aw220.other W235 (Ne.symm ne_ap_b220)
  have F_249 := F_226.same W235
  have N235 := Fr.snoc X235 N206 g_ap
  have Z235 : n0 ≤ h235.size := by rw [W235.size]; exact Z220
  have K235 : Keep h0 h235 [ap] := K220.wr W235 (Or.inl (List.mem_of_getElem? (i := 0) rfl))
  refine own_go st235 ?_
  show own_Goes p e below (T235.setTop (mkF m 32 #[.val (.ref ap), .val (.int (5 : Int32)), .unset] [])) (G_own_iniM Z ap h0 n0 s)
  refine own_go (fun _ k_ => XS.aloadN X235.here hx rfl (hb hby own_d1_32) rfl rfl k_) ?_
  show own_Goes p e below (T235.setTop (mkF m 33 #[.val (.ref ap), .val (.int (5 : Int32)), .unset] [(.ref ap)])) (G_own_iniM Z ap h0 n0 s)
  refine own_go (fun _ k_ => XS.iloadN X235.here hx rfl (hb hby own_d1_33) rfl k_) ?_
  show own_Goes p e below (T235.setTop (mkF m 34 #[.val (.ref ap), .val (.int (5 : Int32)), .unset] [(.int (5 : Int32)), (.ref ap)])) (G_own_iniM Z ap h0 n0 s)
  obtain ⟨T250, h250, cA250, X250, e250, E250, A250, st250⟩ := newP X235 hx hZ (aty := .int) (hw _ (List.mem_of_getElem? (i := 1) rfl)) e235 (g := (mkF m 34 #[.val (.ref ap), .val (.int (5 : Int32)), .unset] [(.int (5 : Int32)), (.ref ap)])) rfl (hb hby own_d1_34) rfl (by decide) (cap := 5) (by decide) (by decide) (by decide) (by decide)
  obtain ⟨b250, g250⟩ : ∃ z, z = h235.size := ⟨_, rfl⟩
  rw [← g250] at A250 st250
  have ne_ap_b250 : ap ≠ b250 := by rw [g250]; exact Nat.ne_of_lt E_236.lt
  have ne_b142_b250 : b142 ≠ b250 := by rw [g250]; exact Nat.ne_of_lt Aw142_245.lt
  have ne_b166_b250 : b166 ≠ b250 := by rw [g250]; exact Nat.ne_of_lt Aw166_246.lt
  have ne_b192_b250 : b192 ≠ b250 := by rw [g250]; exact Nat.ne_of_lt Aw192_247.lt
  have ne_b220_b250 : b220 ≠ b250 := by rw [g250]; exact Nat.ne_of_lt Aw220_248.lt
  have E_252 := E_236.ext E250
  have F_253 := F_237.ext E250
  have F_254 := F_238.ext E250
  have F_255 := F_239.ext E250
  have F_256 := F_249.ext E250
  have F_257 := F_240.ext E250
  have F_258 := F_241.ext E250
  have F_259 := F_242.ext E250
  have F_260 := F_243.ext E250
  have F_261 := F_244.ext E250
  have Aw142_262 := Aw142_245.ext E250
  have Aw166_263 := Aw166_246.ext E250
  have Aw192_264 := Aw192_247.ext E250
  have Aw220_265 := Aw220_248.ext E250
  have g_b250 : n0 ≤ b250 := by rw [g250]; exact Z235
  have sz_b250 : h0.size ≤ b250 := by rw [g250]; exact K235.1
  have K250 : Keep h0 h250 [ap] := K235.ext E250
  have Z250 : n0 ≤ h250.size := Nat.le_trans Z235 E250.1
  have Av250 : Arv Z h250 b250 cA250 .int (5 : Int32) [] (.int (0 : Int32)) := Arv.new A250 (by decide)
  have Aw250 : Arv Z h250 b250 cA250 .int (5 : Int32) [(.int (0 : Int32)), (.int (0 : Int32)), (.int (0 : Int32)), (.int (0 : Int32)), (.int (0 : Int32))] (.int (0 : Int32)) := Av250.pad (pad_rep [] _ 5)
  refine own_go st250 ?_
  show own_Goes p e below (T250.setTop (mkF m 36 #[.val (.ref ap), .val (.int (5 : Int32)), .unset] [(.ref b250), (.ref ap)])) (G_own_iniM Z ap h0 n0 s)
  obtain ⟨T266, h266, X266, e266, W266, st266⟩ := putF X250 hx hZ hown (host := "") (Or.inl (hw _ (List.mem_of_getElem? (i := 19) rfl))) Via.refl e250 F_257 E_252 (Or.inr ⟨(hw _ (List.mem_of_getElem? (i := 20) rfl)), rfl, hnm⟩) (hw _ (List.mem_of_getElem? (i := 3) rfl)) (ty := (.array .int)) (by decide) rfl rfl (g := (mkF m 36 #[.val (.ref ap), .val (.int (5 : Int32)), .unset] [(.ref b250), (.ref ap)])) rfl rfl (hb hby own_d1_36)
  have E_267 := E_252.wr W266
  have F_268 := F_253.other W266 (Or.inr (slot_ne (Or.inr (hw _ (List.mem_of_getElem? (i := 12) rfl))) (Or.inr (hw _ (List.mem_of_getElem? (i := 20) rfl))) (by decide) (t := (.array .int)) (t' := (.array .int)) (by decide) (by decide)))
  have F_269 := F_254.other W266 (Or.inr (slot_ne (Or.inr (hw _ (List.mem_of_getElem? (i := 14) rfl))) (Or.inr (hw _ (List.mem_of_getElem? (i := 20) rfl))) (by decide) (t := (.array .int)) (t' := (.array .int)) (by decide) (by decide)))
  have F_270 := F_255.other W266 (Or.inr (slot_ne (Or.inr (hw _ (List.mem_of_getElem? (i := 16) rfl))) (Or.inr (hw _ (List.mem_of_getElem? (i := 20) rfl))) (by decide) (t := (.array .int)) (t' := (.array .int)) (by decide) (by decide)))
  have F_271 := F_256.other W266 (Or.inr (slot_ne (Or.inr (hw _ (List.mem_of_getElem? (i := 18) rfl))) (Or.inr (hw _ (List.mem_of_getElem? (i := 20) rfl))) (by decide) (t := (.array .int)) (t' := (.array .int)) (by decide) (by decide)))
  have F_272 := F_258.other W266 (Or.inr (slot_ne (Or.inr (hw _ (List.mem_of_getElem? (i := 22) rfl))) (Or.inr (hw _ (List.mem_of_getElem? (i := 20) rfl))) (by decide) (t := (.array .int)) (t' := (.array .int)) (by decide) (by decide)))
  have F_273 := F_259.other W266 (Or.inr (slot_ne (Or.inr (hw _ (List.mem_of_getElem? (i := 24) rfl))) (Or.inr (hw _ (List.mem_of_getElem? (i := 20) rfl))) (by decide) (t := (.array .int)) (t' := (.array .int)) (by decide) (by decide)))
  have F_274 := F_260.other W266 (Or.inr (slot_ne (Or.inl (hw _ (List.mem_of_getElem? (i := 26) rfl))) (Or.inr (hw _ (List.mem_of_getElem? (i := 20) rfl))) (by decide) (t := .int) (t' := (.array .int)) (by decide) (by decide)))
  have F_275 := F_261.other W266 (Or.inr (slot_ne (Or.inl (hw _ (List.mem_of_getElem? (i := 42) rfl))) (Or.inr (hw _ (List.mem_of_getElem? (i := 20) rfl))) (by decide) (t := .int) (t' := (.array .int)) (by decide) (by decide)))
  have Aw142_276 := Aw142_262.other W266 (Ne.symm ne_ap_b142)
  have Aw166_277 := Aw166_263.other W266 (Ne.symm ne_ap_b166)
  have Aw192_278 := Aw192_264.other W266 (Ne.symm ne_ap_b192)
  have Aw220_279 := Aw220_265.other W266 (Ne.symm ne_ap_b220)
  have Aw250_280 := Aw250.other W266 (Ne.symm ne_ap_b250)
  have F_281 := F_257.same W266
  have N266 := Fr.snoc X266 N235 g_ap
  have Z266 : n0 ≤ h266.size := by rw [W266.size]; exact Z250
  have K266 : Keep h0 h266 [ap] := K250.wr W266 (Or.inl (List.mem_of_getElem? (i := 0) rfl))
  refine own_go st266 ?_
  show own_Goes p e below (T266.setTop (mkF m 39 #[.val (.ref ap), .val (.int (5 : Int32)), .unset] [])) (G_own_iniM Z ap h0 n0 s)
  refine own_go (fun _ k_ => XS.aloadN X266.here hx rfl (hb hby own_d1_39) rfl rfl k_) ?_
  show own_Goes p e below (T266.setTop (mkF m 40 #[.val (.ref ap), .val (.int (5 : Int32)), .unset] [(.ref ap)])) (G_own_iniM Z ap h0 n0 s)
  refine own_go (fun _ k_ => XS.iloadN X266.here hx rfl (hb hby own_d1_40) rfl k_) ?_
  show own_Goes p e below (T266.setTop (mkF m 41 #[.val (.ref ap), .val (.int (5 : Int32)), .unset] [(.int (5 : Int32)), (.ref ap)])) (G_own_iniM Z ap h0 n0 s)
  obtain ⟨T282, h282, cA282, X282, e282, E282, A282, st282⟩ := newP X266 hx hZ (aty := .int) (hw _ (List.mem_of_getElem? (i := 1) rfl)) e266 (g := (mkF m 41 #[.val (.ref ap), .val (.int (5 : Int32)), .unset] [(.int (5 : Int32)), (.ref ap)])) rfl (hb hby own_d1_41) rfl (by decide) (cap := 5) (by decide) (by decide) (by decide) (by decide)
  obtain ⟨b282, g282⟩ : ∃ z, z = h266.size := ⟨_, rfl⟩
  rw [← g282] at A282 st282
  have ne_ap_b282 : ap ≠ b282 := by rw [g282]; exact Nat.ne_of_lt E_267.lt
  have ne_b142_b282 : b142 ≠ b282 := by rw [g282]; exact Nat.ne_of_lt Aw142_276.lt
  have ne_b166_b282 : b166 ≠ b282 := by rw [g282]; exact Nat.ne_of_lt Aw166_277.lt
  have ne_b192_b282 : b192 ≠ b282 := by rw [g282]; exact Nat.ne_of_lt Aw192_278.lt
  have ne_b220_b282 : b220 ≠ b282 := by rw [g282]; exact Nat.ne_of_lt Aw220_279.lt
  have ne_b250_b282 : b250 ≠ b282 := by rw [g282]; exact Nat.ne_of_lt Aw250_280.lt
  have E_284 := E_267.ext E282
  have F_285 := F_268.ext E282
  have F_286 := F_269.ext E282
  have F_287 := F_270.ext E282
  have F_288 := F_271.ext E282
  have F_289 := F_281.ext E282
  have F_290 := F_272.ext E282
  have F_291 := F_273.ext E282
  have F_292 := F_274.ext E282
  have F_293 := F_275.ext E282
  have Aw142_294 := Aw142_276.ext E282
  have Aw166_295 := Aw166_277.ext E282
  have Aw192_296 := Aw192_278.ext E282
  have Aw220_297 := Aw220_279.ext E282
  have Aw250_298 := Aw250_280.ext E282
  have g_b282 : n0 ≤ b282 := by rw [g282]; exact Z266
  have sz_b282 : h0.size ≤ b282 := by rw [g282]; exact K266.1
  have K282 : Keep h0 h282 [ap] := K266.ext E282
  have Z282 : n0 ≤ h282.size := Nat.le_trans Z266 E282.1
  have Av282 : Arv Z h282 b282 cA282 .int (5 : Int32) [] (.int (0 : Int32)) := Arv.new A282 (by decide)
  have Aw282 : Arv Z h282 b282 cA282 .int (5 : Int32) [(.int (0 : Int32)), (.int (0 : Int32)), (.int (0 : Int32)), (.int (0 : Int32)), (.int (0 : Int32))] (.int (0 : Int32)) := Av282.pad (pad_rep [] _ 5)
  refine own_go st282 ?_
  show own_Goes p e below (T282.setTop (mkF m 43 #[.val (.ref ap), .val (.int (5 : Int32)), .unset] [(.ref b282), (.ref ap)])) (G_own_iniM Z ap h0 n0 s)
  obtain ⟨T299, h299, X299, e299, W299, st299⟩ := putF X282 hx hZ hown (host := "") (Or.inl (hw _ (List.mem_of_getElem? (i := 21) rfl))) Via.refl e282 F_290 E_284 (Or.inr ⟨(hw _ (List.mem_of_getElem? (i := 22) rfl)), rfl, hnm⟩) (hw _ (List.mem_of_getElem? (i := 3) rfl)) (ty := (.array .int)) (by decide) rfl rfl (g := (mkF m 43 #[.val (.ref ap), .val (.int (5 : Int32)), .unset] [(.ref b282), (.ref ap)])) rfl rfl (hb hby own_d1_43)
  have E_300 := E_284.wr W299
  have F_301 := F_285.other W299 (Or.inr (slot_ne (Or.inr (hw _ (List.mem_of_getElem? (i := 12) rfl))) (Or.inr (hw _ (List.mem_of_getElem? (i := 22) rfl))) (by decide) (t := (.array .int)) (t' := (.array .int)) (by decide) (by decide)))
  have F_302 := F_286.other W299 (Or.inr (slot_ne (Or.inr (hw _ (List.mem_of_getElem? (i := 14) rfl))) (Or.inr (hw _ (List.mem_of_getElem? (i := 22) rfl))) (by decide) (t := (.array .int)) (t' := (.array .int)) (by decide) (by decide)))
  have F_303 := F_287.other W299 (Or.inr (slot_ne (Or.inr (hw _ (List.mem_of_getElem? (i := 16) rfl))) (Or.inr (hw _ (List.mem_of_getElem? (i := 22) rfl))) (by decide) (t := (.array .int)) (t' := (.array .int)) (by decide) (by decide)))
  have F_304 := F_288.other W299 (Or.inr (slot_ne (Or.inr (hw _ (List.mem_of_getElem? (i := 18) rfl))) (Or.inr (hw _ (List.mem_of_getElem? (i := 22) rfl))) (by decide) (t := (.array .int)) (t' := (.array .int)) (by decide) (by decide)))
  have F_305 := F_289.other W299 (Or.inr (slot_ne (Or.inr (hw _ (List.mem_of_getElem? (i := 20) rfl))) (Or.inr (hw _ (List.mem_of_getElem? (i := 22) rfl))) (by decide) (t := (.array .int)) (t' := (.array .int)) (by decide) (by decide)))
  have F_306 := F_291.other W299 (Or.inr (slot_ne (Or.inr (hw _ (List.mem_of_getElem? (i := 24) rfl))) (Or.inr (hw _ (List.mem_of_getElem? (i := 22) rfl))) (by decide) (t := (.array .int)) (t' := (.array .int)) (by decide) (by decide)))
  have F_307 := F_292.other W299 (Or.inr (slot_ne (Or.inl (hw _ (List.mem_of_getElem? (i := 26) rfl))) (Or.inr (hw _ (List.mem_of_getElem? (i := 22) rfl))) (by decide) (t := .int) (t' := (.array .int)) (by decide) (by decide)))
  have F_308 := F_293.other W299 (Or.inr (slot_ne (Or.inl (hw _ (List.mem_of_getElem? (i := 42) rfl))) (Or.inr (hw _ (List.mem_of_getElem? (i := 22) rfl))) (by decide) (t := .int) (t' := (.array .int)) (by decide) (by decide)))
  have Aw142_309 := Aw142_294.other W299 (Ne.symm ne_ap_b142)
  have Aw166_310 := Aw166_295.other W299 (Ne.symm ne_ap_b166)
  have Aw192_311 := Aw192_296.other W299 (Ne.symm ne_ap_b192)
  have Aw220_312 := Aw220_297.other W299 (Ne.symm ne_ap_b220)
  have Aw250_313 := Aw250_298.other W299 (Ne.symm ne_ap_b250)
  have Aw282_314 := Aw282.other W299 (Ne.symm ne_ap_b282)
  have F_315 := F_290.same W299
  have N299 := Fr.snoc X299 N266 g_ap
  have Z299 : n0 ≤ h299.size := by rw [W299.size]; exact Z282
  have K299 : Keep h0 h299 [ap] := K282.wr W299 (Or.inl (List.mem_of_getElem? (i := 0) rfl))
  refine own_go st299 ?_
  show own_Goes p e below (T299.setTop (mkF m 46 #[.val (.ref ap), .val (.int (5 : Int32)), .unset] [])) (G_own_iniM Z ap h0 n0 s)
  refine own_go (fun _ k_ => XS.aloadN X299.here hx rfl (hb hby own_d1_46) rfl rfl k_) ?_
  show own_Goes p e below (T299.setTop (mkF m 47 #[.val (.ref ap), .val (.int (5 : Int32)), .unset] [(.ref ap)])) (G_own_iniM Z ap h0 n0 s)
  refine own_go (fun _ k_ => XS.iloadN X299.here hx rfl (hb hby own_d1_47) rfl k_) ?_
  show own_Goes p e below (T299.setTop (mkF m 48 #[.val (.ref ap), .val (.int (5 : Int32)), .unset] [(.int (5 : Int32)), (.ref ap)])) (G_own_iniM Z ap h0 n0 s)
  obtain ⟨T316, h316, cA316, X316, e316, E316, A316, st316⟩ := newP X299 hx hZ (aty := .int) (hw _ (List.mem_of_getElem? (i := 1) rfl)) e299 (g := (mkF m 48 #[.val (.ref ap), .val (.int (5 : Int32)), .unset] [(.int (5 : Int32)), (.ref ap)])) rfl (hb hby own_d1_48) rfl (by decide) (cap := 5) (by decide) (by decide) (by decide) (by decide)
  obtain ⟨b316, g316⟩ : ∃ z, z = h299.size := ⟨_, rfl⟩
  rw [← g316] at A316 st316
  have ne_ap_b316 : ap ≠ b316 := by rw [g316]; exact Nat.ne_of_lt E_300.lt
  have ne_b142_b316 : b142 ≠ b316 := by rw [g316]; exact Nat.ne_of_lt Aw142_309.lt
  have ne_b166_b316 : b166 ≠ b316 := by rw [g316]; exact Nat.ne_of_lt Aw166_310.lt
  have ne_b192_b316 : b192 ≠ b316 := by rw [g316]; exact Nat.ne_of_lt Aw192_311.lt
  have ne_b220_b316 : b220 ≠ b316 := by rw [g316]; exact Nat.ne_of_lt Aw220_312.lt
  have ne_b250_b316 : b250 ≠ b316 := by rw [g316]; exact Nat.ne_of_lt Aw250_313.lt
  have ne_b282_b316 : b282 ≠ b316 := by rw [g316]; exact Nat.ne_of_lt Aw282_314.lt
  have E_318 := E_300.ext E316
  have F_319 := F_301.ext E316
  have F_320 := F_302.ext E316
  have F_321 := F_303.ext E316
  have F_322 := F_304.ext E316
  have F_323 := F_305.ext E316
  have F_324 := F_315.ext E316
  have F_325 := F_306.ext E316
  have F_326 := F_307.ext E316
  have F_327 := F_308.ext E316
  have Aw142_328 := Aw142_309.ext E316
  have Aw166_329 := Aw166_310.ext E316
  have Aw192_330 := Aw192_311.ext E316
  have Aw220_331 := Aw220_312.ext E316
  have Aw250_332 := Aw250_313.ext E316
  have Aw282_333 := Aw282_314.ext E316
  have g_b316 : n0 ≤ b316 := by rw [g316]; exact Z299
  have sz_b316 : h0.size ≤ b316 := by rw [g316]; exact K299.1
  have K316 : Keep h0 h316 [ap] := K299.ext E316
  have Z316 : n0 ≤ h316.size := Nat.le_trans Z299 E316.1
  have Av316 : Arv Z h316 b316 cA316 .int (5 : Int32) [] (.int (0 : Int32)) := Arv.new A316 (by decide)
  have Aw316 : Arv Z h316 b316 cA316 .int (5 : Int32) [(.int (0 : Int32)), (.int (0 : Int32)), (.int (0 : Int32)), (.int (0 : Int32)), (.int (0 : Int32))] (.int (0 : Int32)) := Av316.pad (pad_rep [] _ 5)
  refine own_go st316 ?_
  show own_Goes p e below (T316.setTop (mkF m 50 #[.val (.ref ap), .val (.int (5 : Int32)), .unset] [(.ref b316), (.ref ap)])) (G_own_iniM Z ap h0 n0 s)
  obtain ⟨T334, h334, X334, e334, W334, st334⟩ := putF X316 hx hZ hown (host := "") (Or.inl (hw _ (List.mem_of_getElem? (i := 23) rfl))) Via.refl e316 F_325 E_318 (Or.inr ⟨(hw _ (List.mem_of_getElem? (i := 24) rfl)), rfl, hnm⟩) (hw _ (List.mem_of_getElem? (i := 3) rfl)) (ty := (.array .int)) (by decide) rfl rfl (g := (mkF m 50 #[.val (.ref ap), .val (.int (5 : Int32)), .unset] [(.ref b316), (.ref ap)])) rfl rfl (hb hby own_d1_50)
  have E_335 := E_318.wr W334
  have F_336 := F_319.other W334 (Or.inr (slot_ne (Or.inr (hw _ (List.mem_of_getElem? (i := 12) rfl))) (Or.inr (hw _ (List.mem_of_getElem? (i := 24) rfl))) (by decide) (t := (.array .int)) (t' := (.array .int)) (by decide) (by decide)))
  have F_337 := F_320.other W334 (Or.inr (slot_ne (Or.inr (hw _ (List.mem_of_getElem? (i := 14) rfl))) (Or.inr (hw _ (List.mem_of_getElem? (i := 24) rfl))) (by decide) (t := (.array .int)) (t' := (.array .int)) (by decide) (by decide)))
  have F_338 := F_321.other W334 (Or.inr (slot_ne (Or.inr (hw _ (List.mem_of_getElem? (i := 16) rfl))) (Or.inr (hw _ (List.mem_of_getElem? (i := 24) rfl))) (by decide) (t := (.array .int)) (t' := (.array .int)) (by decide) (by decide)))
  have F_339 := F_322.other W334 (Or.inr (slot_ne (Or.inr (hw _ (List.mem_of_getElem? (i := 18) rfl))) (Or.inr (hw _ (List.mem_of_getElem? (i := 24) rfl))) (by decide) (t := (.array .int)) (t' := (.array .int)) (by decide) (by decide)))
  have F_340 := F_323.other W334 (Or.inr (slot_ne (Or.inr (hw _ (List.mem_of_getElem? (i := 20) rfl))) (Or.inr (hw _ (List.mem_of_getElem? (i := 24) rfl))) (by decide) (t := (.array .int)) (t' := (.array .int)) (by decide) (by decide)))
  have F_341 := F_324.other W334 (Or.inr (slot_ne (Or.inr (hw _ (List.mem_of_getElem? (i := 22) rfl))) (Or.inr (hw _ (List.mem_of_getElem? (i := 24) rfl))) (by decide) (t := (.array .int)) (t' := (.array .int)) (by decide) (by decide)))
  have F_342 := F_326.other W334 (Or.inr (slot_ne (Or.inl (hw _ (List.mem_of_getElem? (i := 26) rfl))) (Or.inr (hw _ (List.mem_of_getElem? (i := 24) rfl))) (by decide) (t := .int) (t' := (.array .int)) (by decide) (by decide)))
  have F_343 := F_327.other W334 (Or.inr (slot_ne (Or.inl (hw _ (List.mem_of_getElem? (i := 42) rfl))) (Or.inr (hw _ (List.mem_of_getElem? (i := 24) rfl))) (by decide) (t := .int) (t' := (.array .int)) (by decide) (by decide)))
  have Aw142_344 := Aw142_328.other W334 (Ne.symm ne_ap_b142)
  have Aw166_345 := Aw166_329.other W334 (Ne.symm ne_ap_b166)
  have Aw192_346 := Aw192_330.other W334 (Ne.symm ne_ap_b192)
  have Aw220_347 := Aw220_331.other W334 (Ne.symm ne_ap_b220)
  have Aw250_348 := Aw250_332.other W334 (Ne.symm ne_ap_b250)
  have Aw282_349 := Aw282_333.other W334 (Ne.symm ne_ap_b282)
  have Aw316_350 := Aw316.other W334 (Ne.symm ne_ap_b316)
  have F_351 := F_325.same W334
  have N334 := Fr.snoc X334 N299 g_ap
  have Z334 : n0 ≤ h334.size := by rw [W334.size]; exact Z316
  have K334 : Keep h0 h334 [ap] := K316.wr W334 (Or.inl (List.mem_of_getElem? (i := 0) rfl))
  refine own_go st334 ?_
  show own_Goes p e below (T334.setTop (mkF m 53 #[.val (.ref ap), .val (.int (5 : Int32)), .unset] [])) (G_own_iniM Z ap h0 n0 s)
  refine own_go (fun _ k_ => XS.iconst X334.here hx rfl (hb hby own_d1_53) k_) ?_
  show own_Goes p e below (T334.setTop (mkF m 54 #[.val (.ref ap), .val (.int (5 : Int32)), .unset] [(.int (0 : Int32))])) (G_own_iniM Z ap h0 n0 s)
  refine own_go (fun _ k_ => XS.istoreN X334.here hx rfl (hb hby own_d1_54) rfl (l' := #[.val (.ref ap), .val (.int (5 : Int32)), .val (.int (0 : Int32))]) rfl k_) ?_
  show own_Goes p e below (T334.setTop (mkF m 55 #[.val (.ref ap), .val (.int (5 : Int32)), .val (.int (0 : Int32))] [])) (G_own_iniM Z ap h0 n0 s)
  refine own_go (fun _ k_ => XS.iloadN X334.here hx rfl (hb hby own_d1_55) rfl k_) ?_
  show own_Goes p e below (T334.setTop (mkF m 56 #[.val (.ref ap), .val (.int (5 : Int32)), .val (.int (0 : Int32))] [(.int (0 : Int32))])) (G_own_iniM Z ap h0 n0 s)
  refine own_go (fun _ k_ => XS.iloadN X334.here hx rfl (hb hby own_d1_56) rfl k_) ?_
  show own_Goes p e below (T334.setTop (mkF m 57 #[.val (.ref ap), .val (.int (5 : Int32)), .val (.int (0 : Int32))] [(.int (5 : Int32)), (.int (0 : Int32))])) (G_own_iniM Z ap h0 n0 s)
  refine own_go (fun _ k_ => XS.icmpNo X334.here hx rfl (hb hby own_d1_57) rfl (XT.ii_ge_f (by decide)) k_) ?_
  show own_Goes p e below (T334.setTop (mkF m 60 #[.val (.ref ap), .val (.int (5 : Int32)), .val (.int (0 : Int32))] [])) (G_own_iniM Z ap h0 n0 s)
  refine own_go (fun _ k_ => XS.aloadN X334.here hx rfl (hb hby own_d1_60) rfl rfl k_) ?_
  show own_Goes p e below (T334.setTop (mkF m 61 #[.val (.ref ap), .val (.int (5 : Int32)), .val (.int (0 : Int32))] [(.ref ap)])) (G_own_iniM Z ap h0 n0 s)
  obtain ⟨T352, X352, e352, st352⟩ := getF X334 hx hZ hown (host := "") (Or.inl (hw _ (List.mem_of_getElem? (i := 11) rfl))) Via.refl e334 F_336 (g := (mkF m 61 #[.val (.ref ap), .val (.int (5 : Int32)), .val (.int (0 : Int32))] [(.ref ap)])) rfl rfl (hb hby own_d1_61)
  refine own_go st352 ?_
  show own_Goes p e below (T352.setTop (mkF m 64 #[.val (.ref ap), .val (.int (5 : Int32)), .val (.int (0 : Int32))] [(.ref b142)])) (G_own_iniM Z ap h0 n0 s)
  refine own_go (fun _ k_ => XS.iloadN X352.here hx rfl (hb hby own_d1_64) rfl k_) ?_
  show own_Goes p e below (T352.setTop (mkF m 65 #[.val (.ref ap), .val (.int (5 : Int32)), .val (.int (0 : Int32))] [(.int (0 : Int32)), (.ref b142)])) (G_own_iniM Z ap h0 n0 s)
  refine own_go (fun _ k_ => XS.iloadN X352.here hx rfl (hb hby own_d1_65) rfl k_) ?_
  show own_Goes p e below (T352.setTop (mkF m 66 #[.val (.ref ap), .val (.int (5 : Int32)), .val (.int (0 : Int32))] [(.int (0 : Int32)), (.int (0 : Int32)), (.ref b142)])) (G_own_iniM Z ap h0 n0 s)
  obtain ⟨c353, Ar353, q353, s353, z353, H353, G353⟩ := id Aw142_344
  have hin353 := inb_of s353 (j := (0 : Int32)) (by decide)
  obtain ⟨T353, h353, X353, e353, W353, st353⟩ := stI X352 hx hZ e352 Ar353 hin353 (g := (mkF m 66 #[.val (.ref ap), .val (.int (5 : Int32)), .val (.int (0 : Int32))] [(.int (0 : Int32)), (.int (0 : Int32)), (.ref b142)])) rfl rfl (hb hby own_d1_66)
  have E_354 := E_335.wr W353
  have F_355 := F_336.other W353 (Or.inl ne_ap_b142)
  have F_356 := F_337.other W353 (Or.inl ne_ap_b142)
  have F_357 := F_338.other W353 (Or.inl ne_ap_b142)
  have F_358 := F_339.other W353 (Or.inl ne_ap_b142)
  have F_359 := F_340.other W353 (Or.inl ne_ap_b142)
  have F_360 := F_341.other W353 (Or.inl ne_ap_b142)
  have F_361 := F_351.other W353 (Or.inl ne_ap_b142)
  have F_362 := F_342.other W353 (Or.inl ne_ap_b142)
  have F_363 := F_343.other W353 (Or.inl ne_ap_b142)
  have Aw166_364 := Aw166_345.other W353 (Ne.symm ne_b142_b166)
  have Aw192_365 := Aw192_346.other W353 (Ne.symm ne_b142_b192)
  have Aw220_366 := Aw220_347.other W353 (Ne.symm ne_b142_b220)
  have Aw250_367 := Aw250_348.other W353 (Ne.symm ne_b142_b250)
  have Aw282_368 := Aw282_349.other W353 (Ne.symm ne_b142_b282)
  have Aw316_369 := Aw316_350.other W353 (Ne.symm ne_b142_b316)
  have Av353 : Arv Z h353 b142 cA142 .int (5 : Int32) [(.int (0 : Int32)), (.int (0 : Int32)), (.int (0 : Int32)), (.int (0 : Int32)), (.int (0 : Int32))] (.int (0 : Int32)) := Arv.set Ar353 q353 s353 z353 H353 G353 (v := (.int (0 : Int32))) rfl W353 0 rfl (by decide)
  have N353 := Fr.snoc X353 N334 g_b142
  have Z353 : n0 ≤ h353.size := by rw [W353.size]; exact Z334
  have K353 : Keep h0 h353 [ap] := K334.wr W353 (Or.inr sz_b142)
  refine own_go st353 ?_
  show own_Goes p e below (T353.setTop (mkF m 67 #[.val (.ref ap), .val (.int (5 : Int32)), .val (.int (0 : Int32))] [])) (G_own_iniM Z ap h0 n0 s)
  refine own_go (fun _ k_ => XS.aloadN X353.here hx rfl (hb hby own_d1_67) rfl rfl k_) ?_
  show own_Goes p e below (T353.setTop (mkF m 68 #[.val (.ref ap), .val (.int (5 : Int32)), .val (.int (0 : Int32))] [(.ref ap)])) (G_own_iniM Z ap h0 n0 s)
  obtain ⟨T370, X370, e370, st370⟩ := getF X353 hx hZ hown (host := "") (Or.inl (hw _ (List.mem_of_getElem? (i := 13) rfl))) Via.refl e353 F_356 (g := (mkF m 68 #[.val (.ref ap), .val (.int (5 : Int32)), .val (.int (0 : Int32))] [(.ref ap)])) rfl rfl (hb hby own_d1_68)
  refine own_go st370 ?_
  show own_Goes p e below (T370.setTop (mkF m 71 #[.val (.ref ap), .val (.int (5 : Int32)), .val (.int (0 : Int32))] [(.ref b166)])) (G_own_iniM Z ap h0 n0 s)
  refine own_go (fun _ k_ => XS.iloadN X370.here hx rfl (hb hby own_d1_71) rfl k_) ?_
  show own_Goes p e below (T370.setTop (mkF m 72 #[.val (.ref ap), .val (.int (5 : Int32)), .val (.int (0 : Int32))] [(.int (0 : Int32)), (.ref b166)])) (G_own_iniM Z ap h0 n0 s)
  refine own_go (fun _ k_ => XS.iloadN X370.here hx rfl (hb hby own_d1_72) rfl k_) ?_
  show own_Goes p e below (T370.setTop (mkF m 73 #[.val (.ref ap), .val (.int (5 : Int32)), .val (.int (0 : Int32))] [(.int (0 : Int32)), (.int (0 : Int32)), (.ref b166)])) (G_own_iniM Z ap h0 n0 s)
  obtain ⟨c371, Ar371, q371, s371, z371, H371, G371⟩ := id Aw166_364
  have hin371 := inb_of s371 (j := (0 : Int32)) (by decide)
  obtain ⟨T371, h371, X371, e371, W371, st371⟩ := stI X370 hx hZ e370 Ar371 hin371 (g := (mkF m 73 #[.val (.ref ap), .val (.int (5 : Int32)), .val (.int (0 : Int32))] [(.int (0 : Int32)), (.int (0 : Int32)), (.ref b166)])) rfl rfl (hb hby own_d1_73)
  have E_372 := E_354.wr W371
  have F_373 := F_355.other W371 (Or.inl ne_ap_b166)
  have F_374 := F_356.other W371 (Or.inl ne_ap_b166)
  have F_375 := F_357.other W371 (Or.inl ne_ap_b166)
  have F_376 := F_358.other W371 (Or.inl ne_ap_b166)
  have F_377 := F_359.other W371 (Or.inl ne_ap_b166)
  have F_378 := F_360.other W371 (Or.inl ne_ap_b166)
  have F_379 := F_361.other W371 (Or.inl ne_ap_b166)
  have F_380 := F_362.other W371 (Or.inl ne_ap_b166)
  have F_381 := F_363.other W371 (Or.inl ne_ap_b166)
  have Av353_382 := Av353.other W371 ne_b142_b166
  have Aw192_383 := Aw192_365.other W371 (Ne.symm ne_b166_b192)
  have Aw220_384 := Aw220_366.other W371 (Ne.symm ne_b166_b220)
  have Aw250_385 := Aw250_367.other W371 (Ne.symm ne_b166_b250)
  have Aw282_386 := Aw282_368.other W371 (Ne.symm ne_b166_b282)
  have Aw316_387 := Aw316_369.other W371 (Ne.symm ne_b166_b316)
  have Av371 : Arv Z h371 b166 cA166 .int (5 : Int32) [(.int (0 : Int32)), (.int (0 : Int32)), (.int (0 : Int32)), (.int (0 : Int32)), (.int (0 : Int32))] (.int (0 : Int32)) := Arv.set Ar371 q371 s371 z371 H371 G371 (v := (.int (0 : Int32))) rfl W371 0 rfl (by decide)
  have N371 := Fr.snoc X371 N353 g_b166
  have Z371 : n0 ≤ h371.size := by rw [W371.size]; exact Z353
  have K371 : Keep h0 h371 [ap] := K353.wr W371 (Or.inr sz_b166)
  refine own_go st371 ?_
  show own_Goes p e below (T371.setTop (mkF m 74 #[.val (.ref ap), .val (.int (5 : Int32)), .val (.int (0 : Int32))] [])) (G_own_iniM Z ap h0 n0 s)
  refine own_go (fun _ k_ => XS.iinc X371.here hx rfl (hb hby own_d1_74) rfl (l' := #[.val (.ref ap), .val (.int (5 : Int32)), .val (.int (1 : Int32))]) rfl k_) ?_
  show own_Goes p e below (T371.setTop (mkF m 77 #[.val (.ref ap), .val (.int (5 : Int32)), .val (.int (1 : Int32))] [])) (G_own_iniM Z ap h0 n0 s)
  refine own_go (fun _ k_ => XS.goto X371.here hx rfl (pc0 := 77) (pc' := 55) rfl (hb hby own_d1_77) (by decide) (by decide) k_) ?_
  show own_Goes p e below (T371.setTop (mkF m 55 #[.val (.ref ap), .val (.int (5 : Int32)), .val (.int (1 : Int32))] [])) (G_own_iniM Z ap h0 n0 s)
  refine own_go (fun _ k_ => XS.iloadN X371.here hx rfl (hb hby own_d1_55) rfl k_) ?_
  show own_Goes p e below (T371.setTop (mkF m 56 #[.val (.ref ap), .val (.int (5 : Int32)), .val (.int (1 : Int32))] [(.int (1 : Int32))])) (G_own_iniM Z ap h0 n0 s)
  refine own_go (fun _ k_ => XS.iloadN X371.here hx rfl (hb hby own_d1_56) rfl k_) ?_
  show own_Goes p e below (T371.setTop (mkF m 57 #[.val (.ref ap), .val (.int (5 : Int32)), .val (.int (1 : Int32))] [(.int (5 : Int32)), (.int (1 : Int32))])) (G_own_iniM Z ap h0 n0 s)
  refine own_go (fun _ k_ => XS.icmpNo X371.here hx rfl (hb hby own_d1_57) rfl (XT.ii_ge_f (by decide)) k_) ?_
  show own_Goes p e below (T371.setTop (mkF m 60 #[.val (.ref ap), .val (.int (5 : Int32)), .val (.int (1 : Int32))] [])) (G_own_iniM Z ap h0 n0 s)
  refine own_go (fun _ k_ => XS.aloadN X371.here hx rfl (hb hby own_d1_60) rfl rfl k_) ?_
  show own_Goes p e below (T371.setTop (mkF m 61 #[.val (.ref ap), .val (.int (5 : Int32)), .val (.int (1 : Int32))] [(.ref ap)])) (G_own_iniM Z ap h0 n0 s)
  obtain ⟨T388, X388, e388, st388⟩ := getF X371 hx hZ hown (host := "") (Or.inl (hw _ (List.mem_of_getElem? (i := 11) rfl))) Via.refl e371 F_373 (g := (mkF m 61 #[.val (.ref ap), .val (.int (5 : Int32)), .val (.int (1 : Int32))] [(.ref ap)])) rfl rfl (hb hby own_d1_61)
  refine own_go st388 ?_
  show own_Goes p e below (T388.setTop (mkF m 64 #[.val (.ref ap), .val (.int (5 : Int32)), .val (.int (1 : Int32))] [(.ref b142)])) (G_own_iniM Z ap h0 n0 s)
  refine own_go (fun _ k_ => XS.iloadN X388.here hx rfl (hb hby own_d1_64) rfl k_) ?_
  show own_Goes p e below (T388.setTop (mkF m 65 #[.val (.ref ap), .val (.int (5 : Int32)), .val (.int (1 : Int32))] [(.int (1 : Int32)), (.ref b142)])) (G_own_iniM Z ap h0 n0 s)
  refine own_go (fun _ k_ => XS.iloadN X388.here hx rfl (hb hby own_d1_65) rfl k_) ?_
  show own_Goes p e below (T388.setTop (mkF m 66 #[.val (.ref ap), .val (.int (5 : Int32)), .val (.int (1 : Int32))] [(.int (1 : Int32)), (.int (1 : Int32)), (.ref b142)])) (G_own_iniM Z ap h0 n0 s)
  obtain ⟨c389, Ar389, q389, s389, z389, H389, G389⟩ := id Av353_382
  have hin389 := inb_of s389 (j := (1 : Int32)) (by decide)
  obtain ⟨T389, h389, X389, e389, W389, st389⟩ := stI X388 hx hZ e388 Ar389 hin389 (g := (mkF m 66 #[.val (.ref ap), .val (.int (5 : Int32)), .val (.int (1 : Int32))] [(.int (1 : Int32)), (.int (1 : Int32)), (.ref b142)])) rfl rfl (hb hby own_d1_66)
  have E_390 := E_372.wr W389
  have F_391 := F_373.other W389 (Or.inl ne_ap_b142)
  have F_392 := F_374.other W389 (Or.inl ne_ap_b142)
  have F_393 := F_375.other W389 (Or.inl ne_ap_b142)
  have F_394 := F_376.other W389 (Or.inl ne_ap_b142)
  have F_395 := F_377.other W389 (Or.inl ne_ap_b142)
  have F_396 := F_378.other W389 (Or.inl ne_ap_b142)
  have F_397 := F_379.other W389 (Or.inl ne_ap_b142)
  have F_398 := F_380.other W389 (Or.inl ne_ap_b142)
  have F_399 := F_381.other W389 (Or.inl ne_ap_b142)
  have Av371_400 := Av371.other W389 (Ne.symm ne_b142_b166)
  have Aw192_401 := Aw192_383.other W389 (Ne.symm ne_b142_b192)
  have Aw220_402 := Aw220_384.other W389 (Ne.symm ne_b142_b220)
  have Aw250_403 := Aw250_385.other W389 (Ne.symm ne_b142_b250)
  have Aw282_404 := Aw282_386.other W389 (Ne.symm ne_b142_b282)
  have Aw316_405 := Aw316_387.other W389 (Ne.symm ne_b142_b316)
  have Av389 : Arv Z h389 b142 cA142 .int (5 : Int32) [(.int (0 : Int32)), (.int (1 : Int32)), (.int (0 : Int32)), (.int (0 : Int32)), (.int (0 : Int32))] (.int (0 : Int32)) := Arv.set Ar389 q389 s389 z389 H389 G389 (v := (.int (1 : Int32))) rfl W389 1 rfl (by decide)
  have N389 := Fr.snoc X389 N371 g_b142
  have Z389 : n0 ≤ h389.size := by rw [W389.size]; exact Z371
  have K389 : Keep h0 h389 [ap] := K371.wr W389 (Or.inr sz_b142)
  refine own_go st389 ?_
  show own_Goes p e below (T389.setTop (mkF m 67 #[.val (.ref ap), .val (.int (5 : Int32)), .val (.int (1 : Int32))] [])) (G_own_iniM Z ap h0 n0 s)
  refine own_go (fun _ k_ => XS.aloadN X389.here hx rfl (hb hby own_d1_67) rfl rfl k_) ?_
  show own_Goes p e below (T389.setTop (mkF m 68 #[.val (.ref ap), .val (.int (5 : Int32)), .val (.int (1 : Int32))] [(.ref ap)])) (G_own_iniM Z ap h0 n0 s)
  obtain ⟨T406, X406, e406, st406⟩ := getF X389 hx hZ hown (host := "") (Or.inl (hw _ (List.mem_of_getElem? (i := 13) rfl))) Via.refl e389 F_392 (g := (mkF m 68 #[.val (.ref ap), .val (.int (5 : Int32)), .val (.int (1 : Int32))] [(.ref ap)])) rfl rfl (hb hby own_d1_68)
  refine own_go st406 ?_
  show own_Goes p e below (T406.setTop (mkF m 71 #[.val (.ref ap), .val (.int (5 : Int32)), .val (.int (1 : Int32))] [(.ref b166)])) (G_own_iniM Z ap h0 n0 s)
  refine own_go (fun _ k_ => XS.iloadN X406.here hx rfl (hb hby own_d1_71) rfl k_) ?_
  show own_Goes p e below (T406.setTop (mkF m 72 #[.val (.ref ap), .val (.int (5 : Int32)), .val (.int (1 : Int32))] [(.int (1 : Int32)), (.ref b166)])) (G_own_iniM Z ap h0 n0 s)
  refine own_go (fun _ k_ => XS.iloadN X406.here hx rfl (hb hby own_d1_72) rfl k_) ?_
  show own_Goes p e below (T406.setTop (mkF m 73 #[.val (.ref ap), .val (.int (5 : Int32)), .val (.int (1 : Int32))] [(.int (1 : Int32)), (.int (1 : Int32)), (.ref b166)])) (G_own_iniM Z ap h0 n0 s)
  obtain ⟨c407, Ar407, q407, s407, z407, H407, G407⟩ := id Av371_400
  have hin407 := inb_of s407 (j := (1 : Int32)) (by decide)
  obtain ⟨T407, h407, X407, e407, W407, st407⟩ := stI X406 hx hZ e406 Ar407 hin407 (g := (mkF m 73 #[.val (.ref ap), .val (.int (5 : Int32)), .val (.int (1 : Int32))] [(.int (1 : Int32)), (.int (1 : Int32)), (.ref b166)])) rfl rfl (hb hby own_d1_73)
  have E_408 := E_390.wr W407
  have F_409 := F_391.other W407 (Or.inl ne_ap_b166)
  have F_410 := F_392.other W407 (Or.inl ne_ap_b166)
  have F_411 := F_393.other W407 (Or.inl ne_ap_b166)
  have F_412 := F_394.other W407 (Or.inl ne_ap_b166)
  have F_413 := F_395.other W407 (Or.inl ne_ap_b166)
  have F_414 := F_396.other W407 (Or.inl ne_ap_b166)
  have F_415 := F_397.other W407 (Or.inl ne_ap_b166)
  have F_416 := F_398.other W407 (Or.inl ne_ap_b166)
  have F_417 := F_399.other W407 (Or.inl ne_ap_b166)
  have Av389_418 := Av389.other W407 ne_b142_b166
  have Aw192_419 := Aw192_401.other W407 (Ne.symm ne_b166_b192)
  have Aw220_420 := Aw220_402.other W407 (Ne.symm ne_b166_b220)
  have Aw250_421 := Aw250_403.other W407 (Ne.symm ne_b166_b250)
  have Aw282_422 := Aw282_404.other W407 (Ne.symm ne_b166_b282)
  have Aw316_423 := Aw316_405.other W407 (Ne.symm ne_b166_b316)
  have Av407 : Arv Z h407 b166 cA166 .int (5 : Int32) [(.int (0 : Int32)), (.int (1 : Int32)), (.int (0 : Int32)), (.int (0 : Int32)), (.int (0 : Int32))] (.int (0 : Int32)) := Arv.set Ar407 q407 s407 z407 H407 G407 (v := (.int (1 : Int32))) rfl W407 1 rfl (by decide)
  have N407 := Fr.snoc X407 N389 g_b166
  have Z407 : n0 ≤ h407.size := by rw [W407.size]; exact Z389
  have K407 : Keep h0 h407 [ap] := K389.wr W407 (Or.inr sz_b166)
  refine own_go st407 ?_
  show own_Goes p e below (T407.setTop (mkF m 74 #[.val (.ref ap), .val (.int (5 : Int32)), .val (.int (1 : Int32))] [])) (G_own_iniM Z ap h0 n0 s)
  refine own_go (fun _ k_ => XS.iinc X407.here hx rfl (hb hby own_d1_74) rfl (l' := #[.val (.ref ap), .val (.int (5 : Int32)), .val (.int (2 : Int32))]) rfl k_) ?_
  show own_Goes p e below (T407.setTop (mkF m 77 #[.val (.ref ap), .val (.int (5 : Int32)), .val (.int (2 : Int32))] [])) (G_own_iniM Z ap h0 n0 s)
  refine own_go (fun _ k_ => XS.goto X407.here hx rfl (pc0 := 77) (pc' := 55) rfl (hb hby own_d1_77) (by decide) (by decide) k_) ?_
  show own_Goes p e below (T407.setTop (mkF m 55 #[.val (.ref ap), .val (.int (5 : Int32)), .val (.int (2 : Int32))] [])) (G_own_iniM Z ap h0 n0 s)
  refine own_go (fun _ k_ => XS.iloadN X407.here hx rfl (hb hby own_d1_55) rfl k_) ?_
  show own_Goes p e below (T407.setTop (mkF m 56 #[.val (.ref ap), .val (.int (5 : Int32)), .val (.int (2 : Int32))] [(.int (2 : Int32))])) (G_own_iniM Z ap h0 n0 s)
  refine own_go (fun _ k_ => XS.iloadN X407.here hx rfl (hb hby own_d1_56) rfl k_) ?_
  show own_Goes p e below (T407.setTop (mkF m 57 #[.val (.ref ap), .val (.int (5 : Int32)), .val (.int (2 : Int32))] [(.int (5 : Int32)), (.int (2 : Int32))])) (G_own_iniM Z ap h0 n0 s)
  refine own_go (fun _ k_ => XS.icmpNo X407.here hx rfl (hb hby own_d1_57) rfl (XT.ii_ge_f (by decide)) k_) ?_
  show own_Goes p e below (T407.setTop (mkF m 60 #[.val (.ref ap), .val (.int (5 : Int32)), .val (.int (2 : Int32))] [])) (G_own_iniM Z ap h0 n0 s)
  refine own_go (fun _ k_ => XS.aloadN X407.here hx rfl (hb hby own_d1_60) rfl rfl k_) ?_
  show own_Goes p e below (T407.setTop (mkF m 61 #[.val (.ref ap), .val (.int (5 : Int32)), .val (.int (2 : Int32))] [(.ref ap)])) (G_own_iniM Z ap h0 n0 s)
  obtain ⟨T424, X424, e424, st424⟩ := getF X407 hx hZ hown (host := "") (Or.inl (hw _ (List.mem_of_getElem? (i := 11) rfl))) Via.refl e407 F_409 (g := (mkF m 61 #[.val (.ref ap), .val (.int (5 : Int32)), .val (.int (2 : Int32))] [(.ref ap)])) rfl rfl (hb hby own_d1_61)
  refine own_go st424 ?_
  show own_Goes p e below (T424.setTop (mkF m 64 #[.val (.ref ap), .val (.int (5 : Int32)), .val (.int (2 : Int32))] [(.ref b142)])) (G_own_iniM Z ap h0 n0 s)
  refine own_go (fun _ k_ => XS.iloadN X424.here hx rfl (hb hby own_d1_64) rfl k_) ?_
  show own_Goes p e below (T424.setTop (mkF m 65 #[.val (.ref ap), .val (.int (5 : Int32)), .val (.int (2 : Int32))] [(.int (2 : Int32)), (.ref b142)])) (G_own_iniM Z ap h0 n0 s)
  refine own_go (fun _ k_ => XS.iloadN X424.here hx rfl (hb hby own_d1_65) rfl k_) ?_
  show own_Goes p e below (T424.setTop (mkF m 66 #[.val (.ref ap), .val (.int (5 : Int32)), .val (.int (2 : Int32))] [(.int (2 : Int32)), (.int (2 : Int32)), (.ref b142)])) (G_own_iniM Z ap h0 n0 s)
  obtain ⟨c425, Ar425, q425, s425, z425, H425, G425⟩ := id Av389_418
  have hin425 := inb_of s425 (j := (2 : Int32)) (by decide)
  obtain ⟨T425, h425, X425, e425, W425, st425⟩ := stI X424 hx hZ e424 Ar425 hin425 (g := (mkF m 66 #[.val (.ref ap), .val (.int (5 : Int32)), .val (.int (2 : Int32))] [(.int (2 : Int32)), (.int (2 : Int32)), (.ref b142)])) rfl rfl (hb hby own_d1_66)
  have E_426 := E_408.wr W425
  have F_427 := F_409.other W425 (Or.inl ne_ap_b142)
  have F_428 := F_410.other W425 (Or.inl ne_ap_b142)
  have F_429 := F_411.other W425 (Or.inl ne_ap_b142)
  have F_430 := F_412.other W425 (Or.inl ne_ap_b142)
  have F_431 := F_413.other W425 (Or.inl ne_ap_b142)
  have F_432 := F_414.other W425 (Or.inl ne_ap_b142)
  have F_433 := F_415.other W425 (Or.inl ne_ap_b142)
  have F_434 := F_416.other W425 (Or.inl ne_ap_b142)
  have F_435 := F_417.other W425 (Or.inl ne_ap_b142)
  have Av407_436 := Av407.other W425 (Ne.symm ne_b142_b166)
  have Aw192_437 := Aw192_419.other W425 (Ne.symm ne_b142_b192)
  have Aw220_438 := Aw220_420.other W425 (Ne.symm ne_b142_b220)
  have Aw250_439 := Aw250_421.other W425 (Ne.symm ne_b142_b250)
  have Aw282_440 := Aw282_422.other W425 (Ne.symm ne_b142_b282)
  have Aw316_441 := Aw316_423.other W425 (Ne.symm ne_b142_b316)
  have Av425 : Arv Z h425 b142 cA142 .int (5 : Int32) [(.int (0 : Int32)), (.int (1 : Int32)), (.int (2 : Int32)), (.int (0 : Int32)), (.int (0 : Int32))] (.int (0 : Int32)) := Arv.set Ar425 q425 s425 z425 H425 G425 (v := (.int (2 : Int32))) rfl W425 2 rfl (by decide)
  have N425 := Fr.snoc X425 N407 g_b142
  have Z425 : n0 ≤ h425.size := by rw [W425.size]; exact Z407
  have K425 : Keep h0 h425 [ap] := K407.wr W425 (Or.inr sz_b142)
  refine own_go st425 ?_
  show own_Goes p e below (T425.setTop (mkF m 67 #[.val (.ref ap), .val (.int (5 : Int32)), .val (.int (2 : Int32))] [])) (G_own_iniM Z ap h0 n0 s)
  refine own_go (fun _ k_ => XS.aloadN X425.here hx rfl (hb hby own_d1_67) rfl rfl k_) ?_
  show own_Goes p e below (T425.setTop (mkF m 68 #[.val (.ref ap), .val (.int (5 : Int32)), .val (.int (2 : Int32))] [(.ref ap)])) (G_own_iniM Z ap h0 n0 s)
  obtain ⟨T442, X442, e442, st442⟩ := getF X425 hx hZ hown (host := "") (Or.inl (hw _ (List.mem_of_getElem? (i := 13) rfl))) Via.refl e425 F_428 (g := (mkF m 68 #[.val (.ref ap), .val (.int (5 : Int32)), .val (.int (2 : Int32))] [(.ref ap)])) rfl rfl (hb hby own_d1_68)
  refine own_go st442 ?_
  show own_Goes p e below (T442.setTop (mkF m 71 #[.val (.ref ap), .val (.int (5 : Int32)), .val (.int (2 : Int32))] [(.ref b166)])) (G_own_iniM Z ap h0 n0 s)
  refine own_go (fun _ k_ => XS.iloadN X442.here hx rfl (hb hby own_d1_71) rfl k_) ?_
  show own_Goes p e below (T442.setTop (mkF m 72 #[.val (.ref ap), .val (.int (5 : Int32)), .val (.int (2 : Int32))] [(.int (2 : Int32)), (.ref b166)])) (G_own_iniM Z ap h0 n0 s)
  refine own_go (fun _ k_ => XS.iloadN X442.here hx rfl (hb hby own_d1_72) rfl k_) ?_
  show own_Goes p e below (T442.setTop (mkF m 73 #[.val (.ref ap), .val (.int (5 : Int32)), .val (.int (2 : Int32))] [(.int (2 : Int32)), (.int (2 : Int32)), (.ref b166)])) (G_own_iniM Z ap h0 n0 s)
  obtain ⟨c443, Ar443, q443, s443, z443, H443, G443⟩ := id Av407_436
  have hin443 := inb_of s443 (j := (2 : Int32)) (by decide)
  obtain ⟨T443, h443, X443, e443, W443, st443⟩ := stI X442 hx hZ e442 Ar443 hin443 (g := (mkF m 73 #[.val (.ref ap), .val (.int (5 : Int32)), .val (.int (2 : Int32))] [(.int (2 : Int32)), (.int (2 : Int32)), (.ref b166)])) rfl rfl (hb hby own_d1_73)
  have E_444 := E_426.wr W443
  have F_445 := F_427.other W443 (Or.inl ne_ap_b166)
  have F_446 := F_428.other W443 (Or.inl ne_ap_b166)
  have F_447 := F_429.other W443 (Or.inl ne_ap_b166)
  have F_448 := F_430.other W443 (Or.inl ne_ap_b166)
  have F_449 := F_431.other W443 (Or.inl ne_ap_b166)
  have F_450 := F_432.other W443 (Or.inl ne_ap_b166)
  have F_451 := F_433.other W443 (Or.inl ne_ap_b166)
  have F_452 := F_434.other W443 (Or.inl ne_ap_b166)
  have F_453 := F_435.other W443 (Or.inl ne_ap_b166)
  have Av425_454 := Av425.other W443 ne_b142_b166
  have Aw192_455 := Aw192_437.other W443 (Ne.symm ne_b166_b192)
  have Aw220_456 := Aw220_438.other W443 (Ne.symm ne_b166_b220)
  have Aw250_457 := Aw250_439.other W443 (Ne.symm ne_b166_b250)
  have Aw282_458 := Aw282_440.other W443 (Ne.symm ne_b166_b282)
  have Aw316_459 := Aw316_441.other W443 (Ne.symm ne_b166_b316)
  have Av443 : Arv Z h443 b166 cA166 .int (5 : Int32) [(.int (0 : Int32)), (.int (1 : Int32)), (.int (2 : Int32)), (.int (0 : Int32)), (.int (0 : Int32))] (.int (0 : Int32)) := Arv.set Ar443 q443 s443 z443 H443 G443 (v := (.int (2 : Int32))) rfl W443 2 rfl (by decide)
  have N443 := Fr.snoc X443 N425 g_b166
  have Z443 : n0 ≤ h443.size := by rw [W443.size]; exact Z425
  have K443 : Keep h0 h443 [ap] := K425.wr W443 (Or.inr sz_b166)
  refine own_go st443 ?_
  show own_Goes p e below (T443.setTop (mkF m 74 #[.val (.ref ap), .val (.int (5 : Int32)), .val (.int (2 : Int32))] [])) (G_own_iniM Z ap h0 n0 s)
  refine own_go (fun _ k_ => XS.iinc X443.here hx rfl (hb hby own_d1_74) rfl (l' := #[.val (.ref ap), .val (.int (5 : Int32)), .val (.int (3 : Int32))]) rfl k_) ?_
  show own_Goes p e below (T443.setTop (mkF m 77 #[.val (.ref ap), .val (.int (5 : Int32)), .val (.int (3 : Int32))] [])) (G_own_iniM Z ap h0 n0 s)
  refine own_go (fun _ k_ => XS.goto X443.here hx rfl (pc0 := 77) (pc' := 55) rfl (hb hby own_d1_77) (by decide) (by decide) k_) ?_
  show own_Goes p e below (T443.setTop (mkF m 55 #[.val (.ref ap), .val (.int (5 : Int32)), .val (.int (3 : Int32))] [])) (G_own_iniM Z ap h0 n0 s)
  refine own_go (fun _ k_ => XS.iloadN X443.here hx rfl (hb hby own_d1_55) rfl k_) ?_
  show own_Goes p e below (T443.setTop (mkF m 56 #[.val (.ref ap), .val (.int (5 : Int32)), .val (.int (3 : Int32))] [(.int (3 : Int32))])) (G_own_iniM Z ap h0 n0 s)
  refine own_go (fun _ k_ => XS.iloadN X443.here hx rfl (hb hby own_d1_56) rfl k_) ?_
  show own_Goes p e below (T443.setTop (mkF m 57 #[.val (.ref ap), .val (.int (5 : Int32)), .val (.int (3 : Int32))] [(.int (5 : Int32)), (.int (3 : Int32))])) (G_own_iniM Z ap h0 n0 s)
  refine own_go (fun _ k_ => XS.icmpNo X443.here hx rfl (hb hby own_d1_57) rfl (XT.ii_ge_f (by decide)) k_) ?_
  show own_Goes p e below (T443.setTop (mkF m 60 #[.val (.ref ap), .val (.int (5 : Int32)), .val (.int (3 : Int32))] [])) (G_own_iniM Z ap h0 n0 s)
  refine own_go (fun _ k_ => XS.aloadN X443.here hx rfl (hb hby own_d1_60) rfl rfl k_) ?_
  show own_Goes p e below (T443.setTop (mkF m 61 #[.val (.ref ap), .val (.int (5 : Int32)), .val (.int (3 : Int32))] [(.ref ap)])) (G_own_iniM Z ap h0 n0 s)
  obtain ⟨T460, X460, e460, st460⟩ := getF X443 hx hZ hown (host := "") (Or.inl (hw _ (List.mem_of_getElem? (i := 11) rfl))) Via.refl e443 F_445 (g := (mkF m 61 #[.val (.ref ap), .val (.int (5 : Int32)), .val (.int (3 : Int32))] [(.ref ap)])) rfl rfl (hb hby own_d1_61)
  refine own_go st460 ?_
  show own_Goes p e below (T460.setTop (mkF m 64 #[.val (.ref ap), .val (.int (5 : Int32)), .val (.int (3 : Int32))] [(.ref b142)])) (G_own_iniM Z ap h0 n0 s)
  refine own_go (fun _ k_ => XS.iloadN X460.here hx rfl (hb hby own_d1_64) rfl k_) ?_
  show own_Goes p e below (T460.setTop (mkF m 65 #[.val (.ref ap), .val (.int (5 : Int32)), .val (.int (3 : Int32))] [(.int (3 : Int32)), (.ref b142)])) (G_own_iniM Z ap h0 n0 s)
  refine own_go (fun _ k_ => XS.iloadN X460.here hx rfl (hb hby own_d1_65) rfl k_) ?_
  show own_Goes p e below (T460.setTop (mkF m 66 #[.val (.ref ap), .val (.int (5 : Int32)), .val (.int (3 : Int32))] [(.int (3 : Int32)), (.int (3 : Int32)), (.ref b142)])) (G_own_iniM Z ap h0 n0 s)
  obtain ⟨c461, Ar461, q461, s461, z461, H461, G461⟩ := id Av425_454
  have hin461 := inb_of s461 (j := (3 : Int32)) (by decide)
  obtain ⟨T461, h461, X461, e461, W461, st461⟩ := stI X460 hx hZ e460 Ar461 hin461 (g := (mkF m 66 #[.val (.ref ap), .val (.int (5 : Int32)), .val (.int (3 : Int32))] [(.int (3 : Int32)), (.int (3 : Int32)), (.ref b142)])) rfl rfl (hb hby own_d1_66)
  have E_462 := E_444.wr W461
  have F_463 := F_445.other W461 (Or.inl ne_ap_b142)
  have F_464 := F_446.other W461 (Or.inl ne_ap_b142)
  have F_465 := F_447.other W461 (Or.inl ne_ap_b142)
  have F_466 := F_448.other W461 (Or.inl ne_ap_b142)
  have F_467 := F_449.other W461 (Or.inl ne_ap_b142)
  have F_468 := F_450.other W461 (Or.inl ne_ap_b142)
  have F_469 := F_451.other W461 (Or.inl ne_ap_b142)
  have F_470 := F_452.other W461 (Or.inl ne_ap_b142)
  have F_471 := F_453.other W461 (Or.inl ne_ap_b142)
  have Av443_472 := Av443.other W461 (Ne.symm ne_b142_b166)
  have Aw192_473 := Aw192_455.other W461 (Ne.symm ne_b142_b192)
  have Aw220_474 := Aw220_456.other W461 (Ne.symm ne_b142_b220)
  have Aw250_475 := Aw250_457.other W461 (Ne.symm ne_b142_b250)
  have Aw282_476 := Aw282_458.other W461 (Ne.symm ne_b142_b282)
  have Aw316_477 := Aw316_459.other W461 (Ne.symm ne_b142_b316)
  have Av461 : Arv Z h461 b142 cA142 .int (5 : Int32) [(.int (0 : Int32)), (.int (1 : Int32)), (.int (2 : Int32)), (.int (3 : Int32)), (.int (0 : Int32))] (.int (0 : Int32)) := Arv.set Ar461 q461 s461 z461 H461 G461 (v := (.int (3 : Int32))) rfl W461 3 rfl (by decide)
  have N461 := Fr.snoc X461 N443 g_b142
  have Z461 : n0 ≤ h461.size := by rw [W461.size]; exact Z443
  have K461 : Keep h0 h461 [ap] := K443.wr W461 (Or.inr sz_b142)
  refine own_go st461 ?_
  show own_Goes p e below (T461.setTop (mkF m 67 #[.val (.ref ap), .val (.int (5 : Int32)), .val (.int (3 : Int32))] [])) (G_own_iniM Z ap h0 n0 s)
  refine own_go (fun _ k_ => XS.aloadN X461.here hx rfl (hb hby own_d1_67) rfl rfl k_) ?_
  show own_Goes p e below (T461.setTop (mkF m 68 #[.val (.ref ap), .val (.int (5 : Int32)), .val (.int (3 : Int32))] [(.ref ap)])) (G_own_iniM Z ap h0 n0 s)
  obtain ⟨T478, X478, e478, st478⟩ := getF X461 hx hZ hown (host := "") (Or.inl (hw _ (List.mem_of_getElem? (i := 13) rfl))) Via.refl e461 F_464 (g := (mkF m 68 #[.val (.ref ap), .val (.int (5 : Int32)), .val (.int (3 : Int32))] [(.ref ap)])) rfl rfl (hb hby own_d1_68)
  refine own_go st478 ?_
  show own_Goes p e below (T478.setTop (mkF m 71 #[.val (.ref ap), .val (.int (5 : Int32)), .val (.int (3 : Int32))] [(.ref b166)])) (G_own_iniM Z ap h0 n0 s)
  refine own_go (fun _ k_ => XS.iloadN X478.here hx rfl (hb hby own_d1_71) rfl k_) ?_
  show own_Goes p e below (T478.setTop (mkF m 72 #[.val (.ref ap), .val (.int (5 : Int32)), .val (.int (3 : Int32))] [(.int (3 : Int32)), (.ref b166)])) (G_own_iniM Z ap h0 n0 s)
  refine own_go (fun _ k_ => XS.iloadN X478.here hx rfl (hb hby own_d1_72) rfl k_) ?_
  show own_Goes p e below (T478.setTop (mkF m 73 #[.val (.ref ap), .val (.int (5 : Int32)), .val (.int (3 : Int32))] [(.int (3 : Int32)), (.int (3 : Int32)), (.ref b166)])) (G_own_iniM Z ap h0 n0 s)
  obtain ⟨c479, Ar479, q479, s479, z479, H479, G479⟩ := id Av443_472
  have hin479 := inb_of s479 (j := (3 : Int32)) (by decide)
  obtain ⟨T479, h479, X479, e479, W479, st479⟩ := stI X478 hx hZ e478 Ar479 hin479 (g := (mkF m 73 #[.val (.ref ap), .val (.int (5 : Int32)), .val (.int (3 : Int32))] [(.int (3 : Int32)), (.int (3 : Int32)), (.ref b166)])) rfl rfl (hb hby own_d1_73)
  have E_480 := E_462.wr W479
  have F_481 := F_463.other W479 (Or.inl ne_ap_b166)
  have F_482 := F_464.other W479 (Or.inl ne_ap_b166)
  have F_483 := F_465.other W479 (Or.inl ne_ap_b166)
  have F_484 := F_466.other W479 (Or.inl ne_ap_b166)
  have F_485 := F_467.other W479 (Or.inl ne_ap_b166)
  have F_486 := F_468.other W479 (Or.inl ne_ap_b166)
  have F_487 := F_469.other W479 (Or.inl ne_ap_b166)
  have F_488 := F_470.other W479 (Or.inl ne_ap_b166)
  have F_489 := F_471.other W479 (Or.inl ne_ap_b166)
  have Av461_490 := Av461.other W479 ne_b142_b166
  have Aw192_491 := Aw192_473.other W479 (Ne.symm ne_b166_b192)
  have Aw220_492 := Aw220_474.other W479 (Ne.symm ne_b166_b220)
  have Aw250_493 := Aw250_475.other W479 (Ne.symm ne_b166_b250)
  have Aw282_494 := Aw282_476.other W479 (Ne.symm ne_b166_b282)
  have Aw316_495 := Aw316_477.other W479 (Ne.symm ne_b166_b316)
  have Av479 : Arv Z h479 b166 cA166 .int (5 : Int32) [(.int (0 : Int32)), (.int (1 : Int32)), (.int (2 : Int32)), (.int (3 : Int32)), (.int (0 : Int32))] (.int (0 : Int32)) := Arv.set Ar479 q479 s479 z479 H479 G479 (v := (.int (3 : Int32))) rfl W479 3 rfl (by decide)
  have N479 := Fr.snoc X479 N461 g_b166
  have Z479 : n0 ≤ h479.size := by rw [W479.size]; exact Z461
  have K479 : Keep h0 h479 [ap] := K461.wr W479 (Or.inr sz_b166)
  refine own_go st479 ?_
  show own_Goes p e below (T479.setTop (mkF m 74 #[.val (.ref ap), .val (.int (5 : Int32)), .val (.int (3 : Int32))] [])) (G_own_iniM Z ap h0 n0 s)
  refine own_go (fun _ k_ => XS.iinc X479.here hx rfl (hb hby own_d1_74) rfl (l' := #[.val (.ref ap), .val (.int (5 : Int32)), .val (.int (4 : Int32))]) rfl k_) ?_
  show own_Goes p e below (T479.setTop (mkF m 77 #[.val (.ref ap), .val (.int (5 : Int32)), .val (.int (4 : Int32))] [])) (G_own_iniM Z ap h0 n0 s)
  refine own_go (fun _ k_ => XS.goto X479.here hx rfl (pc0 := 77) (pc' := 55) rfl (hb hby own_d1_77) (by decide) (by decide) k_) ?_
  show own_Goes p e below (T479.setTop (mkF m 55 #[.val (.ref ap), .val (.int (5 : Int32)), .val (.int (4 : Int32))] [])) (G_own_iniM Z ap h0 n0 s)
  refine own_go (fun _ k_ => XS.iloadN X479.here hx rfl (hb hby own_d1_55) rfl k_) ?_
  show own_Goes p e below (T479.setTop (mkF m 56 #[.val (.ref ap), .val (.int (5 : Int32)), .val (.int (4 : Int32))] [(.int (4 : Int32))])) (G_own_iniM Z ap h0 n0 s)
  refine own_go (fun _ k_ => XS.iloadN X479.here hx rfl (hb hby own_d1_56) rfl k_) ?_
  show own_Goes p e below (T479.setTop (mkF m 57 #[.val (.ref ap), .val (.int (5 : Int32)), .val (.int (4 : Int32))] [(.int (5 : Int32)), (.int (4 : Int32))])) (G_own_iniM Z ap h0 n0 s)
  refine own_go (fun _ k_ => XS.icmpNo X479.here hx rfl (hb hby own_d1_57) rfl (XT.ii_ge_f (by decide)) k_) ?_
  show own_Goes p e below (T479.setTop (mkF m 60 #[.val (.ref ap), .val (.int (5 : Int32)), .val (.int (4 : Int32))] [])) (G_own_iniM Z ap h0 n0 s)
  refine own_go (fun _ k_ => XS.aloadN X479.here hx rfl (hb hby own_d1_60) rfl rfl k_) ?_
  show own_Goes p e below (T479.setTop (mkF m 61 #[.val (.ref ap), .val (.int (5 : Int32)), .val (.int (4 : Int32))] [(.ref ap)])) (G_own_iniM Z ap h0 n0 s)
  obtain ⟨T496, X496, e496, st496⟩ := getF X479 hx hZ hown (host := "") (Or.inl (hw _ (List.mem_of_getElem? (i := 11) rfl))) Via.refl e479 F_481 (g := (mkF m 61 #[.val (.ref ap), .val (.int (5 : Int32)), .val (.int (4 : Int32))] [(.ref ap)])) rfl rfl (hb hby own_d1_61)
  refine own_go st496 ?_
  show own_Goes p e below (T496.setTop (mkF m 64 #[.val (.ref ap), .val (.int (5 : Int32)), .val (.int (4 : Int32))] [(.ref b142)])) (G_own_iniM Z ap h0 n0 s)
  refine own_go (fun _ k_ => XS.iloadN X496.here hx rfl (hb hby own_d1_64) rfl k_) ?_
  show own_Goes p e below (T496.setTop (mkF m 65 #[.val (.ref ap), .val (.int (5 : Int32)), .val (.int (4 : Int32))] [(.int (4 : Int32)), (.ref b142)])) (G_own_iniM Z ap h0 n0 s)
  refine own_go (fun _ k_ => XS.iloadN X496.here hx rfl (hb hby own_d1_65) rfl k_) ?_
  show own_Goes p e below (T496.setTop (mkF m 66 #[.val (.ref ap), .val (.int (5 : Int32)), .val (.int (4 : Int32))] [(.int (4 : Int32)), (.int (4 : Int32)), (.ref b142)])) (G_own_iniM Z ap h0 n0 s)
  obtain ⟨c497, Ar497, q497, s497, z497, H497, G497⟩ := id Av461_490
  have hin497 := inb_of s497 (j := (4 : Int32)) (by decide)
  obtain ⟨T497, h497, X497, e497, W497, st497⟩ := stI X496 hx hZ e496 Ar497 hin497 (g := (mkF m 66 #[.val (.ref ap), .val (.int (5 : Int32)), .val (.int (4 : Int32))] [(.int (4 : Int32)), (.int (4 : Int32)), (.ref b142)])) rfl rfl (hb hby own_d1_66)
  have E_498 := E_480.wr W497
  have F_499 := F_481.other W497 (Or.inl ne_ap_b142)
  have F_500 := F_482.other W497 (Or.inl ne_ap_b142)
  have F_501 := F_483.other W497 (Or.inl ne_ap_b142)
  have F_502 := F_484.other W497 (Or.inl ne_ap_b142)
  have F_503 := F_485.other W497 (Or.inl ne_ap_b142)
  have F_504 := F_486.other W497 (Or.inl ne_ap_b142)
  have F_505 := F_487.other W497 (Or.inl ne_ap_b142)
  have F_506 := F_488.other W497 (Or.inl ne_ap_b142)
  have F_507 := F_489.other W497 (Or.inl ne_ap_b142)
  have Av479_508 := Av479.other W497 (Ne.symm ne_b142_b166)
  have Aw192_509 := Aw192_491.other W497 (Ne.symm ne_b142_b192)
  have Aw220_510 := Aw220_492.other W497 (Ne.symm ne_b142_b220)
  have Aw250_511 := Aw250_493.other W497 (Ne.symm ne_b142_b250)
  have Aw282_512 := Aw282_494.other W497 (Ne.symm ne_b142_b282)
  have Aw316_513 := Aw316_495.other W497 (Ne.symm ne_b142_b316)
  have Av497 : Arv Z h497 b142 cA142 .int (5 : Int32) [(.int (0 : Int32)), (.int (1 : Int32)), (.int (2 : Int32)), (.int (3 : Int32)), (.int (4 : Int32))] (.int (0 : Int32)) := Arv.set Ar497 q497 s497 z497 H497 G497 (v := (.int (4 : Int32))) rfl W497 4 rfl (by decide)
  have N497 := Fr.snoc X497 N479 g_b142
  have Z497 : n0 ≤ h497.size := by rw [W497.size]; exact Z479
  have K497 : Keep h0 h497 [ap] := K479.wr W497 (Or.inr sz_b142)
  refine own_go st497 ?_
  show own_Goes p e below (T497.setTop (mkF m 67 #[.val (.ref ap), .val (.int (5 : Int32)), .val (.int (4 : Int32))] [])) (G_own_iniM Z ap h0 n0 s)
  refine own_go (fun _ k_ => XS.aloadN X497.here hx rfl (hb hby own_d1_67) rfl rfl k_) ?_
  show own_Goes p e below (T497.setTop (mkF m 68 #[.val (.ref ap), .val (.int (5 : Int32)), .val (.int (4 : Int32))] [(.ref ap)])) (G_own_iniM Z ap h0 n0 s)
  obtain ⟨T514, X514, e514, st514⟩ := getF X497 hx hZ hown (host := "") (Or.inl (hw _ (List.mem_of_getElem? (i := 13) rfl))) Via.refl e497 F_500 (g := (mkF m 68 #[.val (.ref ap), .val (.int (5 : Int32)), .val (.int (4 : Int32))] [(.ref ap)])) rfl rfl (hb hby own_d1_68)
  refine own_go st514 ?_
  show own_Goes p e below (T514.setTop (mkF m 71 #[.val (.ref ap), .val (.int (5 : Int32)), .val (.int (4 : Int32))] [(.ref b166)])) (G_own_iniM Z ap h0 n0 s)
  refine own_go (fun _ k_ => XS.iloadN X514.here hx rfl (hb hby own_d1_71) rfl k_) ?_
  show own_Goes p e below (T514.setTop (mkF m 72 #[.val (.ref ap), .val (.int (5 : Int32)), .val (.int (4 : Int32))] [(.int (4 : Int32)), (.ref b166)])) (G_own_iniM Z ap h0 n0 s)
  refine own_go (fun _ k_ => XS.iloadN X514.here hx rfl (hb hby own_d1_72) rfl k_) ?_
  show own_Goes p e below (T514.setTop (mkF m 73 #[.val (.ref ap), .val (.int (5 : Int32)), .val (.int (4 : Int32))] [(.int (4 : Int32)), (.int (4 : Int32)), (.ref b166)])) (G_own_iniM Z ap h0 n0 s)
  obtain ⟨c515, Ar515, q515, s515, z515, H515, G515⟩ := id Av479_508
  have hin515 := inb_of s515 (j := (4 : Int32)) (by decide)
  obtain ⟨T515, h515, X515, e515, W515, st515⟩ := stI X514 hx hZ e514 Ar515 hin515 (g := (mkF m 73 #[.val (.ref ap), .val (.int (5 : Int32)), .val (.int (4 : Int32))] [(.int (4 : Int32)), (.int (4 : Int32)), (.ref b166)])) rfl rfl (hb hby own_d1_73)
  have E_516 := E_498.wr W515
  have F_517 := F_499.other W515 (Or.inl ne_ap_b166)
  have F_518 := F_500.other W515 (Or.inl ne_ap_b166)
  have F_519 := F_501.other W515 (Or.inl ne_ap_b166)
  have F_520 := F_502.other W515 (Or.inl ne_ap_b166)
  have F_521 := F_503.other W515 (Or.inl ne_ap_b166)
  have F_522 := F_504.other W515 (Or.inl ne_ap_b166)
  have F_523 := F_505.other W515 (Or.inl ne_ap_b166)
  have F_524 := F_506.other W515 (Or.inl ne_ap_b166)
  have F_525 := F_507.other W515 (Or.inl ne_ap_b166)
  have Av497_526 := Av497.other W515 ne_b142_b166
  have Aw192_527 := Aw192_509.other W515 (Ne.symm ne_b166_b192)
  have Aw220_528 := Aw220_510.other W515 (Ne.symm ne_b166_b220)
  have Aw250_529 := Aw250_511.other W515 (Ne.symm ne_b166_b250)
  have Aw282_530 := Aw282_512.other W515 (Ne.symm ne_b166_b282)
  have Aw316_531 := Aw316_513.other W515 (Ne.symm ne_b166_b316)
  have Av515 : Arv Z h515 b166 cA166 .int (5 : Int32) [(.int (0 : Int32)), (.int (1 : Int32)), (.int (2 : Int32)), (.int (3 : Int32)), (.int (4 : Int32))] (.int (0 : Int32)) := Arv.set Ar515 q515 s515 z515 H515 G515 (v := (.int (4 : Int32))) rfl W515 4 rfl (by decide)
  have N515 := Fr.snoc X515 N497 g_b166
  have Z515 : n0 ≤ h515.size := by rw [W515.size]; exact Z497
  have K515 : Keep h0 h515 [ap] := K497.wr W515 (Or.inr sz_b166)
  refine own_go st515 ?_
  show own_Goes p e below (T515.setTop (mkF m 74 #[.val (.ref ap), .val (.int (5 : Int32)), .val (.int (4 : Int32))] [])) (G_own_iniM Z ap h0 n0 s)
  refine own_go (fun _ k_ => XS.iinc X515.here hx rfl (hb hby own_d1_74) rfl (l' := #[.val (.ref ap), .val (.int (5 : Int32)), .val (.int (5 : Int32))]) rfl k_) ?_
  show own_Goes p e below (T515.setTop (mkF m 77 #[.val (.ref ap), .val (.int (5 : Int32)), .val (.int (5 : Int32))] [])) (G_own_iniM Z ap h0 n0 s)
  refine own_go (fun _ k_ => XS.goto X515.here hx rfl (pc0 := 77) (pc' := 55) rfl (hb hby own_d1_77) (by decide) (by decide) k_) ?_
  show own_Goes p e below (T515.setTop (mkF m 55 #[.val (.ref ap), .val (.int (5 : Int32)), .val (.int (5 : Int32))] [])) (G_own_iniM Z ap h0 n0 s)
  refine own_go (fun _ k_ => XS.iloadN X515.here hx rfl (hb hby own_d1_55) rfl k_) ?_
  show own_Goes p e below (T515.setTop (mkF m 56 #[.val (.ref ap), .val (.int (5 : Int32)), .val (.int (5 : Int32))] [(.int (5 : Int32))])) (G_own_iniM Z ap h0 n0 s)
  refine own_go (fun _ k_ => XS.iloadN X515.here hx rfl (hb hby own_d1_56) rfl k_) ?_
  show own_Goes p e below (T515.setTop (mkF m 57 #[.val (.ref ap), .val (.int (5 : Int32)), .val (.int (5 : Int32))] [(.int (5 : Int32)), (.int (5 : Int32))])) (G_own_iniM Z ap h0 n0 s)
  refine own_go (fun _ k_ => XS.icmpYes X515.here hx rfl (pc0 := 57) (pc' := 80) rfl (hb hby own_d1_57) rfl (XT.ii_ge_t Int32.lt_irrefl) (by decide) (by decide) k_) ?_
  show own_Goes p e below (T515.setTop (mkF m 80 #[.val (.ref ap), .val (.int (5 : Int32)), .val (.int (5 : Int32))] [])) (G_own_iniM Z ap h0 n0 s)
  refine own_go (fun _ k_ => XS.iloadN X515.here hx rfl (hb hby own_d1_80) rfl k_) ?_
  show own_Goes p e below (T515.setTop (mkF m 81 #[.val (.ref ap), .val (.int (5 : Int32)), .val (.int (5 : Int32))] [(.int (5 : Int32))])) (G_own_iniM Z ap h0 n0 s)
  refine own_go (fun _ k_ => XS.ifNo X515.here hx rfl (hb hby own_d1_81) rfl (XT.i0_le_f (by decide)) k_) ?_
  show own_Goes p e below (T515.setTop (mkF m 84 #[.val (.ref ap), .val (.int (5 : Int32)), .val (.int (5 : Int32))] [])) (G_own_iniM Z ap h0 n0 s)
  refine own_go (fun _ k_ => XS.aloadN X515.here hx rfl (hb hby own_d1_84) rfl rfl k_) ?_
  show own_Goes p e below (T515.setTop (mkF m 85 #[.val (.ref ap), .val (.int (5 : Int32)), .val (.int (5 : Int32))] [(.ref ap)])) (G_own_iniM Z ap h0 n0 s)
  obtain ⟨T532, X532, e532, st532⟩ := getF X515 hx hZ hown (host := "") (Or.inl (hw _ (List.mem_of_getElem? (i := 19) rfl))) Via.refl e515 F_521 (g := (mkF m 85 #[.val (.ref ap), .val (.int (5 : Int32)), .val (.int (5 : Int32))] [(.ref ap)])) rfl rfl (hb hby own_d1_85)
  refine own_go st532 ?_
  show own_Goes p e below (T532.setTop (mkF m 88 #[.val (.ref ap), .val (.int (5 : Int32)), .val (.int (5 : Int32))] [(.ref b250)])) (G_own_iniM Z ap h0 n0 s)
  refine own_go (fun _ k_ => XS.iconst X532.here hx rfl (hb hby own_d1_88) k_) ?_
  show own_Goes p e below (T532.setTop (mkF m 89 #[.val (.ref ap), .val (.int (5 : Int32)), .val (.int (5 : Int32))] [(.int (0 : Int32)), (.ref b250)])) (G_own_iniM Z ap h0 n0 s)
  refine own_go (fun _ k_ => XS.iloadN X532.here hx rfl (hb hby own_d1_89) rfl k_) ?_
  show own_Goes p e below (T532.setTop (mkF m 90 #[.val (.ref ap), .val (.int (5 : Int32)), .val (.int (5 : Int32))] [(.int (5 : Int32)), (.int (0 : Int32)), (.ref b250)])) (G_own_iniM Z ap h0 n0 s)
  obtain ⟨c533, Ar533, q533, s533, z533, H533, G533⟩ := id Aw250_529
  have hin533 := inb_of s533 (j := (0 : Int32)) (by decide)
  obtain ⟨T533, h533, X533, e533, W533, st533⟩ := stI X532 hx hZ e532 Ar533 hin533 (g := (mkF m 90 #[.val (.ref ap), .val (.int (5 : Int32)), .val (.int (5 : Int32))] [(.int (5 : Int32)), (.int (0 : Int32)), (.ref b250)])) rfl rfl (hb hby own_d1_90)
  have E_534 := E_516.wr W533
  have F_535 := F_517.other W533 (Or.inl ne_ap_b250)
  have F_536 := F_518.other W533 (Or.inl ne_ap_b250)
  have F_537 := F_519.other W533 (Or.inl ne_ap_b250)
  have F_538 := F_520.other W533 (Or.inl ne_ap_b250)
  have F_539 := F_521.other W533 (Or.inl ne_ap_b250)
  have F_540 := F_522.other W533 (Or.inl ne_ap_b250)
  have F_541 := F_523.other W533 (Or.inl ne_ap_b250)
  have F_542 := F_524.other W533 (Or.inl ne_ap_b250)
  have F_543 := F_525.other W533 (Or.inl ne_ap_b250)
  have Av497_544 := Av497_526.other W533 ne_b142_b250
  have Av515_545 := Av515.other W533 ne_b166_b250
  have Aw192_546 := Aw192_527.other W533 ne_b192_b250
  have Aw220_547 := Aw220_528.other W533 ne_b220_b250
  have Aw282_548 := Aw282_530.other W533 (Ne.symm ne_b250_b282)
  have Aw316_549 := Aw316_531.other W533 (Ne.symm ne_b250_b316)
  have Av533 : Arv Z h533 b250 cA250 .int (5 : Int32) [(.int (5 : Int32)), (.int (0 : Int32)), (.int (0 : Int32)), (.int (0 : Int32)), (.int (0 : Int32))] (.int (0 : Int32)) := Arv.set Ar533 q533 s533 z533 H533 G533 (v := (.int (5 : Int32))) rfl W533 0 rfl (by decide)
  have N533 := Fr.snoc X533 N515 g_b250
  have Z533 : n0 ≤ h533.size := by rw [W533.size]; exact Z515
  have K533 : Keep h0 h533 [ap] := K515.wr W533 (Or.inr sz_b250)
  refine own_go st533 ?_
  show own_Goes p e below (T533.setTop (mkF m 91 #[.val (.ref ap), .val (.int (5 : Int32)), .val (.int (5 : Int32))] [])) (G_own_iniM Z ap h0 n0 s)
  refine own_go (fun _ k_ => XS.aloadN X533.here hx rfl (hb hby own_d1_91) rfl rfl k_) ?_
  show own_Goes p e below (T533.setTop (mkF m 92 #[.val (.ref ap), .val (.int (5 : Int32)), .val (.int (5 : Int32))] [(.ref ap)])) (G_own_iniM Z ap h0 n0 s)
  refine own_go (fun _ k_ => XS.iconst X533.here hx rfl (hb hby own_d1_92) k_) ?_
  show own_Goes p e below (T533.setTop (mkF m 93 #[.val (.ref ap), .val (.int (5 : Int32)), .val (.int (5 : Int32))] [(.int (1 : Int32)), (.ref ap)])) (G_own_iniM Z ap h0 n0 s)
  obtain ⟨T550, h550, X550, e550, W550, st550⟩ := putF X533 hx hZ hown (host := "") (Or.inl (hw _ (List.mem_of_getElem? (i := 25) rfl))) Via.refl e533 F_542 E_534 (Or.inl (hw _ (List.mem_of_getElem? (i := 26) rfl))) (hw _ (List.mem_of_getElem? (i := 3) rfl)) (ty := .int) (by decide) rfl rfl (g := (mkF m 93 #[.val (.ref ap), .val (.int (5 : Int32)), .val (.int (5 : Int32))] [(.int (1 : Int32)), (.ref ap)])) rfl rfl (hb hby own_d1_93)
  have E_551 := E_534.wr W550
  have F_552 := F_535.other W550 (Or.inr (slot_ne (Or.inr (hw _ (List.mem_of_getElem? (i := 12) rfl))) (Or.inl (hw _ (List.mem_of_getElem? (i := 26) rfl))) (by decide) (t := (.array .int)) (t' := .int) (by decide) (by decide)))
  have F_553 := F_536.other W550 (Or.inr (slot_ne (Or.inr (hw _ (List.mem_of_getElem? (i := 14) rfl))) (Or.inl (hw _ (List.mem_of_getElem? (i := 26) rfl))) (by decide) (t := (.array .int)) (t' := .int) (by decide) (by decide)))
  have F_554 := F_537.other W550 (Or.inr (slot_ne (Or.inr (hw _ (List.mem_of_getElem? (i := 16) rfl))) (Or.inl (hw _ (List.mem_of_getElem? (i := 26) rfl))) (by decide) (t := (.array .int)) (t' := .int) (by decide) (by decide)))
  have F_555 := F_538.other W550 (Or.inr (slot_ne (Or.inr (hw _ (List.mem_of_getElem? (i := 18) rfl))) (Or.inl (hw _ (List.mem_of_getElem? (i := 26) rfl))) (by decide) (t := (.array .int)) (t' := .int) (by decide) (by decide)))
  have F_556 := F_539.other W550 (Or.inr (slot_ne (Or.inr (hw _ (List.mem_of_getElem? (i := 20) rfl))) (Or.inl (hw _ (List.mem_of_getElem? (i := 26) rfl))) (by decide) (t := (.array .int)) (t' := .int) (by decide) (by decide)))
  have F_557 := F_540.other W550 (Or.inr (slot_ne (Or.inr (hw _ (List.mem_of_getElem? (i := 22) rfl))) (Or.inl (hw _ (List.mem_of_getElem? (i := 26) rfl))) (by decide) (t := (.array .int)) (t' := .int) (by decide) (by decide)))
  have F_558 := F_541.other W550 (Or.inr (slot_ne (Or.inr (hw _ (List.mem_of_getElem? (i := 24) rfl))) (Or.inl (hw _ (List.mem_of_getElem? (i := 26) rfl))) (by decide) (t := (.array .int)) (t' := .int) (by decide) (by decide)))
  have F_559 := F_543.other W550 (Or.inr (slot_ne (Or.inl (hw _ (List.mem_of_getElem? (i := 42) rfl))) (Or.inl (hw _ (List.mem_of_getElem? (i := 26) rfl))) (by decide) (t := .int) (t' := .int) (by decide) (by decide)))
  have Av497_560 := Av497_544.other W550 (Ne.symm ne_ap_b142)
  have Av515_561 := Av515_545.other W550 (Ne.symm ne_ap_b166)
  have Aw192_562 := Aw192_546.other W550 (Ne.symm ne_ap_b192)
  have Aw220_563 := Aw220_547.other W550 (Ne.symm ne_ap_b220)
  have Av533_564 := Av533.other W550 (Ne.symm ne_ap_b250)
  have Aw282_565 := Aw282_548.other W550 (Ne.symm ne_ap_b282)
  have Aw316_566 := Aw316_549.other W550 (Ne.symm ne_ap_b316)
  have F_567 := F_542.same W550
  have N550 := Fr.snoc X550 N533 g_ap
  have Z550 : n0 ≤ h550.size := by rw [W550.size]; exact Z533
  have K550 : Keep h0 h550 [ap] := K533.wr W550 (Or.inl (List.mem_of_getElem? (i := 0) rfl))
  refine own_go st550 ?_
  show own_Goes p e below (T550.setTop (mkF m 96 #[.val (.ref ap), .val (.int (5 : Int32)), .val (.int (5 : Int32))] [])) (G_own_iniM Z ap h0 n0 s)
  obtain ⟨fs, hr, hrun, hended, hW, hsame⟩ := X550.leave (v := none) (fun _ => rfl) Bd.notSynchronized
  refine ⟨_, _, X550.returnOut hx Bd.returns (hb hby own_d1_96) hr, hrun, hended, _, _, rfl, ?_, ⟨_, rfl⟩, hW, hsame.mono (by decide) (by decide)⟩
  show Q_own_iniM Z ap h0 n0 _ T550.heap _
  rw [e550]
  exact ⟨rfl, N550, K550, b142, b166, b192, b220, b282, b316, cA142, cA166, cA192, cA220, cA282, cA316, F_552, F_553, F_554, F_555, F_557, F_558, F_559, Av497_560, Av515_561, Aw192_562, Aw220_563, Aw282_565, Aw316_566, ne_ap_b142, ne_ap_b166, ne_ap_b192, ne_ap_b220, ne_ap_b282, ne_ap_b316, ne_b142_b166, ne_b142_b192, ne_b142_b220, ne_b142_b282, ne_b142_b316, ne_b166_b192, ne_b166_b220, ne_b166_b282, ne_b166_b316, ne_b192_b220, ne_b192_b282, ne_b192_b316, ne_b220_b282, ne_b220_b316, ne_b282_b316, g_b142, g_b166, g_b192, g_b220, g_b282, g_b316, sz_b142, sz_b166, sz_b192, sz_b220, sz_b282, sz_b316⟩
theorem own_pn0 : plainName "com/example/trim_chain/trimchain/engine/PartitionMarkPinLaw" = true := by first | (simp [plainName, overriddenIn]; done) | decide +kernel
theorem own_ef_own_law (m : MethodId) (q0 : Int32) (q1 : Int32) (q2 : Int32) (q3 : Int32) (q4 : Int32) : entryFrame m #[(.int q0), (.int q1), (.int q2), (.int q3), (.int q4)] maxLocals = (mkF m 0 #[.val (.int q0), .val (.int q1), .val (.int q2), .val (.int q3), .val (.int q4), .unset, .unset, .unset, .unset, .unset, .unset, .unset, .unset, .unset, .unset, .unset, .unset, .unset, .unset, .unset] []) := by first | (simp [entryFrame, mkF, argsToLocals, Value.category, maxLocals]; done) | rfl
def Q_own_law (Z : State) (q0 : Int32) (q1 : Int32) (q2 : Int32) (q3 : Int32) (q4 : Int32) (h0 : Heap) (n0 : Nat) (v : Option Value) (h : Heap) (L : List Loc) : Prop := v = some (.int 1) ∧ Fr n0 L
def G_own_law (Z : State) (q0 : Int32) (q1 : Int32) (q2 : Int32) (q3 : Int32) (q4 : Int32) (h0 : Heap) (n0 : Nat) (s : State) : Outcome → State → Prop := fun o U' => ∃ v L, o = .returned v ∧ Q_own_law Z q0 q1 q2 q3 q4 h0 n0 v U'.heap L ∧ FrameEnd s o U' L room_1.cells room_1.slots
theorem own_pd1 : parseMethodDescriptor "(I)V" = some ⟨[.int], none⟩ := by decide +kernel
theorem own_pd2 : parseMethodDescriptor "(I)I" = some ⟨[.int], some .int⟩ := by decide +kernel
set_option maxRecDepth 65536 in
set_option maxHeartbeats 40000000 in
theorem own_law (l : Launch) (Z : State) (a0 : Array Value) (hw : ∀ d ∈ tables_1, d.before a0 Z = true) (ws : List Jvm.Cond) (q0 : Int32) (q1 : Int32) (q2 : Int32) (q3 : Int32) (q4 : Int32) (h0 : Heap) (n0 : Nat) (Z0 : n0 ≤ h0.size)  :
    MetFree l x (head1 (Jvm.Cond.code x code maxLocals ret :: ws) room_1) (fun a U => a = #[(.int q0), (.int q1), (.int q2), (.int q3), (.int q4)] ∧ Z.Warmed39 U.vm ∧ U.heap = h0) (fun _ _ _ _ _ => True) (fun _ U o U' => ∃ v L, o = .returned v ∧ Q_own_law Z q0 q1 q2 q3 q4 h0 n0 v U'.heap L ∧ FrameEnd U o U' L room_1.cells room_1.slots) := by
  refine MetFree.of_bodySF (plainFor_of_name own_pn0) hisR ?_
  intro p e s m args below meth c s₁ Bd hml0 hP hK
  obtain ⟨rfl, hZ, hh⟩ := hP
  have hx := Bd.exec
  have hby := Bd.bytes
  have hml : c.maxLocals = 20 := hml0
  have hown : s.vm.findClass "com/example/trim_chain/trimchain/engine/PartitionMarkPinLaw" = some m.cls := findClass_of_methodNamed Bd.named
  have hnm := (name_of_methodNamed Bd.named Bd.method).1
  have X0 : Stand p l e room_1 s m #[(.int q0), (.int q1), (.int q2), (.int q3), (.int q4)] below meth c s₁ [] 0 0 := Stand.of_body Bd
  have e0 : s₁.heap = h0 := by rw [← hh, Bd.state]; rfl
  have N0 := Fr.nil n0
  refine own_go (S := s₁.setTop (entryFrame m #[(.int q0), (.int q1), (.int q2), (.int q3), (.int q4)] maxLocals)) (Q := (G_own_law Z q0 q1 q2 q3 q4 h0 n0 s)) (fun _ k_ => castTop (own_ef_own_law m q0 q1 q2 q3 q4) k_) ?_
  show own_Goes p e below (s₁.setTop (mkF m 0 #[.val (.int q0), .val (.int q1), .val (.int q2), .val (.int q3), .val (.int q4), .unset, .unset, .unset, .unset, .unset, .unset, .unset, .unset, .unset, .unset, .unset, .unset, .unset, .unset, .unset] [])) (G_own_law Z q0 q1 q2 q3 q4 h0 n0 s)
  refine own_go (fun _ k_ => XS.iloadN X0.here hx rfl (hb hby at_0) rfl k_) ?_
  show own_Goes p e below (s₁.setTop (mkF m 1 #[.val (.int q0), .val (.int q1), .val (.int q2), .val (.int q3), .val (.int q4), .unset, .unset, .unset, .unset, .unset, .unset, .unset, .unset, .unset, .unset, .unset, .unset, .unset, .unset, .unset] [(.int q0)])) (G_own_law Z q0 q1 q2 q3 q4 h0 n0 s)
  refine own_go (fun _ k_ => Jvm.Stand.ldcI (own := "com/example/trim_chain/trimchain/engine/PartitionMarkPinLaw") (index := 7) (v := (2147483647 : Int32)) X0 hx hown (mvT hZ (hw _ (List.mem_of_getElem? (i := 0) rfl))) rfl (hb hby at_1) k_) ?_
  show own_Goes p e below (s₁.setTop (mkF m 3 #[.val (.int q0), .val (.int q1), .val (.int q2), .val (.int q3), .val (.int q4), .unset, .unset, .unset, .unset, .unset, .unset, .unset, .unset, .unset, .unset, .unset, .unset, .unset, .unset, .unset] [(.int (2147483647 : Int32)), (.int q0)])) (G_own_law Z q0 q1 q2 q3 q4 h0 n0 s)
  refine own_go (fun _ k_ => XS.iand X0.here hx rfl (hb hby at_3) rfl k_) ?_
  show own_Goes p e below (s₁.setTop (mkF m 4 #[.val (.int q0), .val (.int q1), .val (.int q2), .val (.int q3), .val (.int q4), .unset, .unset, .unset, .unset, .unset, .unset, .unset, .unset, .unset, .unset, .unset, .unset, .unset, .unset, .unset] [(.int (q0 &&& (2147483647 : Int32)))])) (G_own_law Z q0 q1 q2 q3 q4 h0 n0 s)
  refine own_go (fun _ k_ => XS.iconst X0.here hx rfl (hb hby at_4) k_) ?_
  show own_Goes p e below (s₁.setTop (mkF m 5 #[.val (.int q0), .val (.int q1), .val (.int q2), .val (.int q3), .val (.int q4), .unset, .unset, .unset, .unset, .unset, .unset, .unset, .unset, .unset, .unset, .unset, .unset, .unset, .unset, .unset] [(.int (5 : Int32)), (.int (q0 &&& (2147483647 : Int32)))])) (G_own_law Z q0 q1 q2 q3 q4 h0 n0 s)
  refine own_go (fun _ k_ => iremM X0 hx rfl (hb hby at_5) rfl (by decide) k_) ?_
  show own_Goes p e below (s₁.setTop (mkF m 6 #[.val (.int q0), .val (.int q1), .val (.int q2), .val (.int q3), .val (.int q4), .unset, .unset, .unset, .unset, .unset, .unset, .unset, .unset, .unset, .unset, .unset, .unset, .unset, .unset, .unset] [(.int ((q0 &&& (2147483647 : Int32)) % (5 : Int32)))])) (G_own_law Z q0 q1 q2 q3 q4 h0 n0 s)
  refine own_go (fun _ k_ => XS.istore X0.here hx rfl (hb hby at_6) rfl (l' := #[.val (.int q0), .val (.int q1), .val (.int q2), .val (.int q3), .val (.int q4), .val (.int ((q0 &&& (2147483647 : Int32)) % (5 : Int32))), .unset, .unset, .unset, .unset, .unset, .unset, .unset, .unset, .unset, .unset, .unset, .unset, .unset, .unset]) rfl k_) ?_
  show own_Goes p e below (s₁.setTop (mkF m 8 #[.val (.int q0), .val (.int q1), .val (.int q2), .val (.int q3), .val (.int q4), .val (.int ((q0 &&& (2147483647 : Int32)) % (5 : Int32))), .unset, .unset, .unset, .unset, .unset, .unset, .unset, .unset, .unset, .unset, .unset, .unset, .unset, .unset] [])) (G_own_law Z q0 q1 q2 q3 q4 h0 n0 s)
  refine own_go (fun _ k_ => XS.iloadN X0.here hx rfl (hb hby at_8) rfl k_) ?_
  show own_Goes p e below (s₁.setTop (mkF m 9 #[.val (.int q0), .val (.int q1), .val (.int q2), .val (.int q3), .val (.int q4), .val (.int ((q0 &&& (2147483647 : Int32)) % (5 : Int32))), .unset, .unset, .unset, .unset, .unset, .unset, .unset, .unset, .unset, .unset, .unset, .unset, .unset, .unset] [(.int q1)])) (G_own_law Z q0 q1 q2 q3 q4 h0 n0 s)
  refine own_go (fun _ k_ => Jvm.Stand.ldcI (own := "com/example/trim_chain/trimchain/engine/PartitionMarkPinLaw") (index := 7) (v := (2147483647 : Int32)) X0 hx hown (mvT hZ (hw _ (List.mem_of_getElem? (i := 0) rfl))) rfl (hb hby at_9) k_) ?_
  show own_Goes p e below (s₁.setTop (mkF m 11 #[.val (.int q0), .val (.int q1), .val (.int q2), .val (.int q3), .val (.int q4), .val (.int ((q0 &&& (2147483647 : Int32)) % (5 : Int32))), .unset, .unset, .unset, .unset, .unset, .unset, .unset, .unset, .unset, .unset, .unset, .unset, .unset, .unset] [(.int (2147483647 : Int32)), (.int q1)])) (G_own_law Z q0 q1 q2 q3 q4 h0 n0 s)
  refine own_go (fun _ k_ => XS.iand X0.here hx rfl (hb hby at_11) rfl k_) ?_
  show own_Goes p e below (s₁.setTop (mkF m 12 #[.val (.int q0), .val (.int q1), .val (.int q2), .val (.int q3), .val (.int q4), .val (.int ((q0 &&& (2147483647 : Int32)) % (5 : Int32))), .unset, .unset, .unset, .unset, .unset, .unset, .unset, .unset, .unset, .unset, .unset, .unset, .unset, .unset] [(.int (q1 &&& (2147483647 : Int32)))])) (G_own_law Z q0 q1 q2 q3 q4 h0 n0 s)
  refine own_go (fun _ k_ => XS.iconst X0.here hx rfl (hb hby at_12) k_) ?_
  show own_Goes p e below (s₁.setTop (mkF m 13 #[.val (.int q0), .val (.int q1), .val (.int q2), .val (.int q3), .val (.int q4), .val (.int ((q0 &&& (2147483647 : Int32)) % (5 : Int32))), .unset, .unset, .unset, .unset, .unset, .unset, .unset, .unset, .unset, .unset, .unset, .unset, .unset, .unset] [(.int (5 : Int32)), (.int (q1 &&& (2147483647 : Int32)))])) (G_own_law Z q0 q1 q2 q3 q4 h0 n0 s)
  refine own_go (fun _ k_ => iremM X0 hx rfl (hb hby at_13) rfl (by decide) k_) ?_
  show own_Goes p e below (s₁.setTop (mkF m 14 #[.val (.int q0), .val (.int q1), .val (.int q2), .val (.int q3), .val (.int q4), .val (.int ((q0 &&& (2147483647 : Int32)) % (5 : Int32))), .unset, .unset, .unset, .unset, .unset, .unset, .unset, .unset, .unset, .unset, .unset, .unset, .unset, .unset] [(.int ((q1 &&& (2147483647 : Int32)) % (5 : Int32)))])) (G_own_law Z q0 q1 q2 q3 q4 h0 n0 s)
  refine own_go (fun _ k_ => XS.istore X0.here hx rfl (hb hby at_14) rfl (l' := #[.val (.int q0), .val (.int q1), .val (.int q2), .val (.int q3), .val (.int q4), .val (.int ((q0 &&& (2147483647 : Int32)) % (5 : Int32))), .val (.int ((q1 &&& (2147483647 : Int32)) % (5 : Int32))), .unset, .unset, .unset, .unset, .unset, .unset, .unset, .unset, .unset, .unset, .unset, .unset, .unset]) rfl k_) ?_
  show own_Goes p e below (s₁.setTop (mkF m 16 #[.val (.int q0), .val (.int q1), .val (.int q2), .val (.int q3), .val (.int q4), .val (.int ((q0 &&& (2147483647 : Int32)) % (5 : Int32))), .val (.int ((q1 &&& (2147483647 : Int32)) % (5 : Int32))), .unset, .unset, .unset, .unset, .unset, .unset, .unset, .unset, .unset, .unset, .unset, .unset, .unset] [])) (G_own_law Z q0 q1 q2 q3 q4 h0 n0 s)
  refine own_go (fun _ k_ => XS.iloadN X0.here hx rfl (hb hby at_16) rfl k_) ?_
  show own_Goes p e below (s₁.setTop (mkF m 17 #[.val (.int q0), .val (.int q1), .val (.int q2), .val (.int q3), .val (.int q4), .val (.int ((q0 &&& (2147483647 : Int32)) % (5 : Int32))), .val (.int ((q1 &&& (2147483647 : Int32)) % (5 : Int32))), .unset, .unset, .unset, .unset, .unset, .unset, .unset, .unset, .unset, .unset, .unset, .unset, .unset] [(.int q2)])) (G_own_law Z q0 q1 q2 q3 q4 h0 n0 s)
  refine own_go (fun _ k_ => Jvm.Stand.ldcI (own := "com/example/trim_chain/trimchain/engine/PartitionMarkPinLaw") (index := 7) (v := (2147483647 : Int32)) X0 hx hown (mvT hZ (hw _ (List.mem_of_getElem? (i := 0) rfl))) rfl (hb hby at_17) k_) ?_
  show own_Goes p e below (s₁.setTop (mkF m 19 #[.val (.int q0), .val (.int q1), .val (.int q2), .val (.int q3), .val (.int q4), .val (.int ((q0 &&& (2147483647 : Int32)) % (5 : Int32))), .val (.int ((q1 &&& (2147483647 : Int32)) % (5 : Int32))), .unset, .unset, .unset, .unset, .unset, .unset, .unset, .unset, .unset, .unset, .unset, .unset, .unset] [(.int (2147483647 : Int32)), (.int q2)])) (G_own_law Z q0 q1 q2 q3 q4 h0 n0 s)
  refine own_go (fun _ k_ => XS.iand X0.here hx rfl (hb hby at_19) rfl k_) ?_
  show own_Goes p e below (s₁.setTop (mkF m 20 #[.val (.int q0), .val (.int q1), .val (.int q2), .val (.int q3), .val (.int q4), .val (.int ((q0 &&& (2147483647 : Int32)) % (5 : Int32))), .val (.int ((q1 &&& (2147483647 : Int32)) % (5 : Int32))), .unset, .unset, .unset, .unset, .unset, .unset, .unset, .unset, .unset, .unset, .unset, .unset, .unset] [(.int (q2 &&& (2147483647 : Int32)))])) (G_own_law Z q0 q1 q2 q3 q4 h0 n0 s)
  refine own_go (fun _ k_ => XS.iconst X0.here hx rfl (hb hby at_20) k_) ?_
  show own_Goes p e below (s₁.setTop (mkF m 21 #[.val (.int q0), .val (.int q1), .val (.int q2), .val (.int q3), .val (.int q4), .val (.int ((q0 &&& (2147483647 : Int32)) % (5 : Int32))), .val (.int ((q1 &&& (2147483647 : Int32)) % (5 : Int32))), .unset, .unset, .unset, .unset, .unset, .unset, .unset, .unset, .unset, .unset, .unset, .unset, .unset] [(.int (5 : Int32)), (.int (q2 &&& (2147483647 : Int32)))])) (G_own_law Z q0 q1 q2 q3 q4 h0 n0 s)
  refine own_go (fun _ k_ => iremM X0 hx rfl (hb hby at_21) rfl (by decide) k_) ?_
  show own_Goes p e below (s₁.setTop (mkF m 22 #[.val (.int q0), .val (.int q1), .val (.int q2), .val (.int q3), .val (.int q4), .val (.int ((q0 &&& (2147483647 : Int32)) % (5 : Int32))), .val (.int ((q1 &&& (2147483647 : Int32)) % (5 : Int32))), .unset, .unset, .unset, .unset, .unset, .unset, .unset, .unset, .unset, .unset, .unset, .unset, .unset] [(.int ((q2 &&& (2147483647 : Int32)) % (5 : Int32)))])) (G_own_law Z q0 q1 q2 q3 q4 h0 n0 s)
  refine own_go (fun _ k_ => XS.istore X0.here hx rfl (hb hby at_22) rfl (l' := #[.val (.int q0), .val (.int q1), .val (.int q2), .val (.int q3), .val (.int q4), .val (.int ((q0 &&& (2147483647 : Int32)) % (5 : Int32))), .val (.int ((q1 &&& (2147483647 : Int32)) % (5 : Int32))), .val (.int ((q2 &&& (2147483647 : Int32)) % (5 : Int32))), .unset, .unset, .unset, .unset, .unset, .unset, .unset, .unset, .unset, .unset, .unset, .unset]) rfl k_) ?_
  show own_Goes p e below (s₁.setTop (mkF m 24 #[.val (.int q0), .val (.int q1), .val (.int q2), .val (.int q3), .val (.int q4), .val (.int ((q0 &&& (2147483647 : Int32)) % (5 : Int32))), .val (.int ((q1 &&& (2147483647 : Int32)) % (5 : Int32))), .val (.int ((q2 &&& (2147483647 : Int32)) % (5 : Int32))), .unset, .unset, .unset, .unset, .unset, .unset, .unset, .unset, .unset, .unset, .unset, .unset] [])) (G_own_law Z q0 q1 q2 q3 q4 h0 n0 s)
  refine own_go (fun _ k_ => XS.iloadN X0.here hx rfl (hb hby at_24) rfl k_) ?_
  show own_Goes p e below (s₁.setTop (mkF m 25 #[.val (.int q0), .val (.int q1), .val (.int q2), .val (.int q3), .val (.int q4), .val (.int ((q0 &&& (2147483647 : Int32)) % (5 : Int32))), .val (.int ((q1 &&& (2147483647 : Int32)) % (5 : Int32))), .val (.int ((q2 &&& (2147483647 : Int32)) % (5 : Int32))), .unset, .unset, .unset, .unset, .unset, .unset, .unset, .unset, .unset, .unset, .unset, .unset] [(.int q3)])) (G_own_law Z q0 q1 q2 q3 q4 h0 n0 s)
  refine own_go (fun _ k_ => Jvm.Stand.ldcI (own := "com/example/trim_chain/trimchain/engine/PartitionMarkPinLaw") (index := 7) (v := (2147483647 : Int32)) X0 hx hown (mvT hZ (hw _ (List.mem_of_getElem? (i := 0) rfl))) rfl (hb hby at_25) k_) ?_
  show own_Goes p e below (s₁.setTop (mkF m 27 #[.val (.int q0), .val (.int q1), .val (.int q2), .val (.int q3), .val (.int q4), .val (.int ((q0 &&& (2147483647 : Int32)) % (5 : Int32))), .val (.int ((q1 &&& (2147483647 : Int32)) % (5 : Int32))), .val (.int ((q2 &&& (2147483647 : Int32)) % (5 : Int32))), .unset, .unset, .unset, .unset, .unset, .unset, .unset, .unset, .unset, .unset, .unset, .unset] [(.int (2147483647 : Int32)), (.int q3)])) (G_own_law Z q0 q1 q2 q3 q4 h0 n0 s)
  refine own_go (fun _ k_ => XS.iand X0.here hx rfl (hb hby at_27) rfl k_) ?_
  show own_Goes p e below (s₁.setTop (mkF m 28 #[.val (.int q0), .val (.int q1), .val (.int q2), .val (.int q3), .val (.int q4), .val (.int ((q0 &&& (2147483647 : Int32)) % (5 : Int32))), .val (.int ((q1 &&& (2147483647 : Int32)) % (5 : Int32))), .val (.int ((q2 &&& (2147483647 : Int32)) % (5 : Int32))), .unset, .unset, .unset, .unset, .unset, .unset, .unset, .unset, .unset, .unset, .unset, .unset] [(.int (q3 &&& (2147483647 : Int32)))])) (G_own_law Z q0 q1 q2 q3 q4 h0 n0 s)
  refine own_go (fun _ k_ => XS.iconst X0.here hx rfl (hb hby at_28) k_) ?_
  show own_Goes p e below (s₁.setTop (mkF m 29 #[.val (.int q0), .val (.int q1), .val (.int q2), .val (.int q3), .val (.int q4), .val (.int ((q0 &&& (2147483647 : Int32)) % (5 : Int32))), .val (.int ((q1 &&& (2147483647 : Int32)) % (5 : Int32))), .val (.int ((q2 &&& (2147483647 : Int32)) % (5 : Int32))), .unset, .unset, .unset, .unset, .unset, .unset, .unset, .unset, .unset, .unset, .unset, .unset] [(.int (5 : Int32)), (.int (q3 &&& (2147483647 : Int32)))])) (G_own_law Z q0 q1 q2 q3 q4 h0 n0 s)
  refine own_go (fun _ k_ => iremM X0 hx rfl (hb hby at_29) rfl (by decide) k_) ?_
  show own_Goes p e below (s₁.setTop (mkF m 30 #[.val (.int q0), .val (.int q1), .val (.int q2), .val (.int q3), .val (.int q4), .val (.int ((q0 &&& (2147483647 : Int32)) % (5 : Int32))), .val (.int ((q1 &&& (2147483647 : Int32)) % (5 : Int32))), .val (.int ((q2 &&& (2147483647 : Int32)) % (5 : Int32))), .unset, .unset, .unset, .unset, .unset, .unset, .unset, .unset, .unset, .unset, .unset, .unset] [(.int ((q3 &&& (2147483647 : Int32)) % (5 : Int32)))])) (G_own_law Z q0 q1 q2 q3 q4 h0 n0 s)
  refine own_go (fun _ k_ => XS.istore X0.here hx rfl (hb hby at_30) rfl (l' := #[.val (.int q0), .val (.int q1), .val (.int q2), .val (.int q3), .val (.int q4), .val (.int ((q0 &&& (2147483647 : Int32)) % (5 : Int32))), .val (.int ((q1 &&& (2147483647 : Int32)) % (5 : Int32))), .val (.int ((q2 &&& (2147483647 : Int32)) % (5 : Int32))), .val (.int ((q3 &&& (2147483647 : Int32)) % (5 : Int32))), .unset, .unset, .unset, .unset, .unset, .unset, .unset, .unset, .unset, .unset, .unset]) rfl k_) ?_
  show own_Goes p e below (s₁.setTop (mkF m 32 #[.val (.int q0), .val (.int q1), .val (.int q2), .val (.int q3), .val (.int q4), .val (.int ((q0 &&& (2147483647 : Int32)) % (5 : Int32))), .val (.int ((q1 &&& (2147483647 : Int32)) % (5 : Int32))), .val (.int ((q2 &&& (2147483647 : Int32)) % (5 : Int32))), .val (.int ((q3 &&& (2147483647 : Int32)) % (5 : Int32))), .unset, .unset, .unset, .unset, .unset, .unset, .unset, .unset, .unset, .unset, .unset] [])) (G_own_law Z q0 q1 q2 q3 q4 h0 n0 s)
  refine own_go (fun _ k_ => XS.iload X0.here hx rfl (hb hby at_32) rfl k_) ?_
  show own_Goes p e below (s₁.setTop (mkF m 34 #[.val (.int q0), .val (.int q1), .val (.int q2), .val (.int q3), .val (.int q4), .val (.int ((q0 &&& (2147483647 : Int32)) % (5 : Int32))), .val (.int ((q1 &&& (2147483647 : Int32)) % (5 : Int32))), .val (.int ((q2 &&& (2147483647 : Int32)) % (5 : Int32))), .val (.int ((q3 &&& (2147483647 : Int32)) % (5 : Int32))), .unset, .unset, .unset, .unset, .unset, .unset, .unset, .unset, .unset, .unset, .unset] [(.int q4)])) (G_own_law Z q0 q1 q2 q3 q4 h0 n0 s)
  refine own_go (fun _ k_ => Jvm.Stand.ldcI (own := "com/example/trim_chain/trimchain/engine/PartitionMarkPinLaw") (index := 7) (v := (2147483647 : Int32)) X0 hx hown (mvT hZ (hw _ (List.mem_of_getElem? (i := 0) rfl))) rfl (hb hby at_34) k_) ?_
  show own_Goes p e below (s₁.setTop (mkF m 36 #[.val (.int q0), .val (.int q1), .val (.int q2), .val (.int q3), .val (.int q4), .val (.int ((q0 &&& (2147483647 : Int32)) % (5 : Int32))), .val (.int ((q1 &&& (2147483647 : Int32)) % (5 : Int32))), .val (.int ((q2 &&& (2147483647 : Int32)) % (5 : Int32))), .val (.int ((q3 &&& (2147483647 : Int32)) % (5 : Int32))), .unset, .unset, .unset, .unset, .unset, .unset, .unset, .unset, .unset, .unset, .unset] [(.int (2147483647 : Int32)), (.int q4)])) (G_own_law Z q0 q1 q2 q3 q4 h0 n0 s)
  refine own_go (fun _ k_ => XS.iand X0.here hx rfl (hb hby at_36) rfl k_) ?_
  show own_Goes p e below (s₁.setTop (mkF m 37 #[.val (.int q0), .val (.int q1), .val (.int q2), .val (.int q3), .val (.int q4), .val (.int ((q0 &&& (2147483647 : Int32)) % (5 : Int32))), .val (.int ((q1 &&& (2147483647 : Int32)) % (5 : Int32))), .val (.int ((q2 &&& (2147483647 : Int32)) % (5 : Int32))), .val (.int ((q3 &&& (2147483647 : Int32)) % (5 : Int32))), .unset, .unset, .unset, .unset, .unset, .unset, .unset, .unset, .unset, .unset, .unset] [(.int (q4 &&& (2147483647 : Int32)))])) (G_own_law Z q0 q1 q2 q3 q4 h0 n0 s)
  refine own_go (fun _ k_ => XS.iconst X0.here hx rfl (hb hby at_37) k_) ?_
  show own_Goes p e below (s₁.setTop (mkF m 38 #[.val (.int q0), .val (.int q1), .val (.int q2), .val (.int q3), .val (.int q4), .val (.int ((q0 &&& (2147483647 : Int32)) % (5 : Int32))), .val (.int ((q1 &&& (2147483647 : Int32)) % (5 : Int32))), .val (.int ((q2 &&& (2147483647 : Int32)) % (5 : Int32))), .val (.int ((q3 &&& (2147483647 : Int32)) % (5 : Int32))), .unset, .unset, .unset, .unset, .unset, .unset, .unset, .unset, .unset, .unset, .unset] [(.int (5 : Int32)), (.int (q4 &&& (2147483647 : Int32)))])) (G_own_law Z q0 q1 q2 q3 q4 h0 n0 s)
  refine own_go (fun _ k_ => iremM X0 hx rfl (hb hby at_38) rfl (by decide) k_) ?_
  show own_Goes p e below (s₁.setTop (mkF m 39 #[.val (.int q0), .val (.int q1), .val (.int q2), .val (.int q3), .val (.int q4), .val (.int ((q0 &&& (2147483647 : Int32)) % (5 : Int32))), .val (.int ((q1 &&& (2147483647 : Int32)) % (5 : Int32))), .val (.int ((q2 &&& (2147483647 : Int32)) % (5 : Int32))), .val (.int ((q3 &&& (2147483647 : Int32)) % (5 : Int32))), .unset, .unset, .unset, .unset, .unset, .unset, .unset, .unset, .unset, .unset, .unset] [(.int ((q4 &&& (2147483647 : Int32)) % (5 : Int32)))])) (G_own_law Z q0 q1 q2 q3 q4 h0 n0 s)
  refine own_go (fun _ k_ => XS.istore X0.here hx rfl (hb hby at_39) rfl (l' := #[.val (.int q0), .val (.int q1), .val (.int q2), .val (.int q3), .val (.int q4), .val (.int ((q0 &&& (2147483647 : Int32)) % (5 : Int32))), .val (.int ((q1 &&& (2147483647 : Int32)) % (5 : Int32))), .val (.int ((q2 &&& (2147483647 : Int32)) % (5 : Int32))), .val (.int ((q3 &&& (2147483647 : Int32)) % (5 : Int32))), .val (.int ((q4 &&& (2147483647 : Int32)) % (5 : Int32))), .unset, .unset, .unset, .unset, .unset, .unset, .unset, .unset, .unset, .unset]) rfl k_) ?_
  show own_Goes p e below (s₁.setTop (mkF m 41 #[.val (.int q0), .val (.int q1), .val (.int q2), .val (.int q3), .val (.int q4), .val (.int ((q0 &&& (2147483647 : Int32)) % (5 : Int32))), .val (.int ((q1 &&& (2147483647 : Int32)) % (5 : Int32))), .val (.int ((q2 &&& (2147483647 : Int32)) % (5 : Int32))), .val (.int ((q3 &&& (2147483647 : Int32)) % (5 : Int32))), .val (.int ((q4 &&& (2147483647 : Int32)) % (5 : Int32))), .unset, .unset, .unset, .unset, .unset, .unset, .unset, .unset, .unset, .unset] [])) (G_own_law Z q0 q1 q2 q3 q4 h0 n0 s)
  obtain ⟨n, h_n⟩ : ∃ z : Int32, z = ((q0 &&& (2147483647 : Int32)) % (5 : Int32)) := ⟨_, rfl⟩
  rw [← h_n]
  show own_Goes p e below (s₁.setTop (mkF m 41 #[.val (.int q0), .val (.int q1), .val (.int q2), .val (.int q3), .val (.int q4), .val (.int n), .val (.int ((q1 &&& (2147483647 : Int32)) % (5 : Int32))), .val (.int ((q2 &&& (2147483647 : Int32)) % (5 : Int32))), .val (.int ((q3 &&& (2147483647 : Int32)) % (5 : Int32))), .val (.int ((q4 &&& (2147483647 : Int32)) % (5 : Int32))), .unset, .unset, .unset, .unset, .unset, .unset, .unset, .unset, .unset, .unset] [])) (G_own_law Z q0 q1 q2 q3 q4 h0 n0 s)
  have h_nr : ¬ n < 0 ∧ n < 5 := by rw [h_n]; exact own_rem _
  obtain ⟨x0, h_x0⟩ : ∃ z : Int32, z = ((q1 &&& (2147483647 : Int32)) % (5 : Int32)) := ⟨_, rfl⟩
  rw [← h_x0]
  show own_Goes p e below (s₁.setTop (mkF m 41 #[.val (.int q0), .val (.int q1), .val (.int q2), .val (.int q3), .val (.int q4), .val (.int n), .val (.int x0), .val (.int ((q2 &&& (2147483647 : Int32)) % (5 : Int32))), .val (.int ((q3 &&& (2147483647 : Int32)) % (5 : Int32))), .val (.int ((q4 &&& (2147483647 : Int32)) % (5 : Int32))), .unset, .unset, .unset, .unset, .unset, .unset, .unset, .unset, .unset, .unset] [])) (G_own_law Z q0 q1 q2 q3 q4 h0 n0 s)
  have h_x0r : ¬ x0 < 0 ∧ x0 < 5 := by rw [h_x0]; exact own_rem _
  obtain ⟨x1, h_x1⟩ : ∃ z : Int32, z = ((q2 &&& (2147483647 : Int32)) % (5 : Int32)) := ⟨_, rfl⟩
  rw [← h_x1]
  show own_Goes p e below (s₁.setTop (mkF m 41 #[.val (.int q0), .val (.int q1), .val (.int q2), .val (.int q3), .val (.int q4), .val (.int n), .val (.int x0), .val (.int x1), .val (.int ((q3 &&& (2147483647 : Int32)) % (5 : Int32))), .val (.int ((q4 &&& (2147483647 : Int32)) % (5 : Int32))), .unset, .unset, .unset, .unset, .unset, .unset, .unset, .unset, .unset, .unset] [])) (G_own_law Z q0 q1 q2 q3 q4 h0 n0 s)
  have h_x1r : ¬ x1 < 0 ∧ x1 < 5 := by rw [h_x1]; exact own_rem _
  obtain ⟨x2, h_x2⟩ : ∃ z : Int32, z = ((q3 &&& (2147483647 : Int32)) % (5 : Int32)) := ⟨_, rfl⟩
  rw [← h_x2]
  show own_Goes p e below (s₁.setTop (mkF m 41 #[.val (.int q0), .val (.int q1), .val (.int q2), .val (.int q3), .val (.int q4), .val (.int n), .val (.int x0), .val (.int x1), .val (.int x2), .val (.int ((q4 &&& (2147483647 : Int32)) % (5 : Int32))), .unset, .unset, .unset, .unset, .unset, .unset, .unset, .unset, .unset, .unset] [])) (G_own_law Z q0 q1 q2 q3 q4 h0 n0 s)
  have h_x2r : ¬ x2 < 0 ∧ x2 < 5 := by rw [h_x2]; exact own_rem _
  obtain ⟨x3, h_x3⟩ : ∃ z : Int32, z = ((q4 &&& (2147483647 : Int32)) % (5 : Int32)) := ⟨_, rfl⟩
  rw [← h_x3]
  show own_Goes p e below (s₁.setTop (mkF m 41 #[.val (.int q0), .val (.int q1), .val (.int q2), .val (.int q3), .val (.int q4), .val (.int n), .val (.int x0), .val (.int x1), .val (.int x2), .val (.int x3), .unset, .unset, .unset, .unset, .unset, .unset, .unset, .unset, .unset, .unset] [])) (G_own_law Z q0 q1 q2 q3 q4 h0 n0 s)
  have h_x3r : ¬ x3 < 0 ∧ x3 < 5 := by rw [h_x3]; exact own_rem _
  have m_n := own_mem5 h_nr
  clear h_n
  have h_n := h_nr
  have m_x0 := own_mem5 h_x0r
  clear h_x0
  have h_x0 := h_x0r
  have m_x1 := own_mem5 h_x1r
  clear h_x1
  have h_x1 := h_x1r
  have m_x2 := own_mem5 h_x2r
  clear h_x2
  have h_x2 := h_x2r
  have m_x3 := own_mem5 h_x3r
  clear h_x3
  have h_x3 := h_x3r
  refine own_go (fun _ k_ => XS.iconst X0.here hx rfl (hb hby at_41) k_) ?_
  show own_Goes p e below (s₁.setTop (mkF m 42 #[.val (.int q0), .val (.int q1), .val (.int q2), .val (.int q3), .val (.int q4), .val (.int n), .val (.int x0), .val (.int x1), .val (.int x2), .val (.int x3), .unset, .unset, .unset, .unset, .unset, .unset, .unset, .unset, .unset, .unset] [(.int (4 : Int32))])) (G_own_law Z q0 q1 q2 q3 q4 h0 n0 s)
  obtain ⟨T568, h568, cA568, X568, e568, E568, A568, st568⟩ := newP X0 hx hZ (aty := .int) (hw _ (List.mem_of_getElem? (i := 1) rfl)) e0 (g := (mkF m 42 #[.val (.int q0), .val (.int q1), .val (.int q2), .val (.int q3), .val (.int q4), .val (.int n), .val (.int x0), .val (.int x1), .val (.int x2), .val (.int x3), .unset, .unset, .unset, .unset, .unset, .unset, .unset, .unset, .unset, .unset] [(.int (4 : Int32))])) rfl (hb hby at_42) rfl (by decide) (cap := 4) (by decide) (by decide) (by decide) (by decide)
  obtain ⟨b568, g568⟩ : ∃ z, z = h0.size := ⟨_, rfl⟩
  rw [← g568] at A568 st568
  have g_b568 : n0 ≤ b568 := by rw [g568]; exact Z0
  have Z568 : n0 ≤ h568.size := Nat.le_trans Z0 E568.1
  have Av568 : Arv Z h568 b568 cA568 .int (4 : Int32) [] (.int (0 : Int32)) := Arv.new A568 (by decide)
  have Aw568 : Arv Z h568 b568 cA568 .int (4 : Int32) [(.int (0 : Int32)), (.int (0 : Int32)), (.int (0 : Int32)), (.int (0 : Int32))] (.int (0 : Int32)) := Av568.pad (pad_rep [] _ 4)
  refine own_go st568 ?_
  show own_Goes p e below (T568.setTop (mkF m 44 #[.val (.int q0), .val (.int q1), .val (.int q2), .val (.int q3), .val (.int q4), .val (.int n), .val (.int x0), .val (.int x1), .val (.int x2), .val (.int x3), .unset, .unset, .unset, .unset, .unset, .unset, .unset, .unset, .unset, .unset] [(.ref b568)])) (G_own_law Z q0 q1 q2 q3 q4 h0 n0 s)
  refine own_go (fun _ k_ => XS.astore X568.here hx rfl (hb hby at_44) rfl rfl (l' := #[.val (.int q0), .val (.int q1), .val (.int q2), .val (.int q3), .val (.int q4), .val (.int n), .val (.int x0), .val (.int x1), .val (.int x2), .val (.int x3), .val (.ref b568), .unset, .unset, .unset, .unset, .unset, .unset, .unset, .unset, .unset]) rfl k_) ?_
  show own_Goes p e below (T568.setTop (mkF m 46 #[.val (.int q0), .val (.int q1), .val (.int q2), .val (.int q3), .val (.int q4), .val (.int n), .val (.int x0), .val (.int x1), .val (.int x2), .val (.int x3), .val (.ref b568), .unset, .unset, .unset, .unset, .unset, .unset, .unset, .unset, .unset] [])) (G_own_law Z q0 q1 q2 q3 q4 h0 n0 s)
  obtain ⟨T570, h570, X570, e570, E570, A570, D570, -, st570⟩ := newO X568 hx hZ hown (hw _ (List.mem_of_getElem? (i := 2) rfl)) (hw _ (List.mem_of_getElem? (i := 3) rfl)) (hw _ (List.mem_of_getElem? (i := 4) rfl)) e568 (g := (mkF m 46 #[.val (.int q0), .val (.int q1), .val (.int q2), .val (.int q3), .val (.int q4), .val (.int n), .val (.int x0), .val (.int x1), .val (.int x2), .val (.int x3), .val (.ref b568), .unset, .unset, .unset, .unset, .unset, .unset, .unset, .unset, .unset] [])) rfl (hb hby at_46) (by decide) (by decide)
  obtain ⟨b570, g570⟩ : ∃ z, z = h568.size := ⟨_, rfl⟩
  rw [← g570] at A570 D570 st570
  have ne_b568_b570 : b568 ≠ b570 := by rw [g570]; exact Nat.ne_of_lt Aw568.lt
  have Aw568_572 := Aw568.ext E570
  have g_b570 : n0 ≤ b570 := by rw [g570]; exact Z568
  have Z570 : n0 ≤ h570.size := Nat.le_trans Z568 E570.1
  have F_573 : Fld Z h570 b570 "com/example/trim_chain/trimchain/engine/Partition" "elements" "[I" .null := D570 (Or.inr (hw _ (List.mem_of_getElem? (i := 12) rfl))) (ty := (.array .int)) (by decide)
  have F_574 : Fld Z h570 b570 "com/example/trim_chain/trimchain/engine/Partition" "position" "[I" .null := D570 (Or.inr (hw _ (List.mem_of_getElem? (i := 14) rfl))) (ty := (.array .int)) (by decide)
  have F_575 : Fld Z h570 b570 "com/example/trim_chain/trimchain/engine/Partition" "blockOf" "[I" .null := D570 (Or.inr (hw _ (List.mem_of_getElem? (i := 16) rfl))) (ty := (.array .int)) (by decide)
  have F_576 : Fld Z h570 b570 "com/example/trim_chain/trimchain/engine/Partition" "start" "[I" .null := D570 (Or.inr (hw _ (List.mem_of_getElem? (i := 18) rfl))) (ty := (.array .int)) (by decide)
  have F_577 : Fld Z h570 b570 "com/example/trim_chain/trimchain/engine/Partition" "end" "[I" .null := D570 (Or.inr (hw _ (List.mem_of_getElem? (i := 20) rfl))) (ty := (.array .int)) (by decide)
  have F_578 : Fld Z h570 b570 "com/example/trim_chain/trimchain/engine/Partition" "markedEnd" "[I" .null := D570 (Or.inr (hw _ (List.mem_of_getElem? (i := 22) rfl))) (ty := (.array .int)) (by decide)
  have F_579 : Fld Z h570 b570 "com/example/trim_chain/trimchain/engine/Partition" "touched" "[I" .null := D570 (Or.inr (hw _ (List.mem_of_getElem? (i := 24) rfl))) (ty := (.array .int)) (by decide)
  have F_580 : Fld Z h570 b570 "com/example/trim_chain/trimchain/engine/Partition" "blockCount" "I" (.int (0 : Int32)) := D570 (Or.inl (hw _ (List.mem_of_getElem? (i := 26) rfl))) (ty := .int) (by decide)
  have F_581 : Fld Z h570 b570 "com/example/trim_chain/trimchain/engine/Partition" "touchedCount" "I" (.int (0 : Int32)) := D570 (Or.inl (hw _ (List.mem_of_getElem? (i := 42) rfl))) (ty := .int) (by decide)
  refine own_go st570 ?_
  show own_Goes p e below (T570.setTop (mkF m 49 #[.val (.int q0), .val (.int q1), .val (.int q2), .val (.int q3), .val (.int q4), .val (.int n), .val (.int x0), .val (.int x1), .val (.int x2), .val (.int x3), .val (.ref b568), .unset, .unset, .unset, .unset, .unset, .unset, .unset, .unset, .unset] [(.ref b570)])) (G_own_law Z q0 q1 q2 q3 q4 h0 n0 s)
  refine own_go (fun _ k_ => XS.dup X570.here hx rfl (hb hby at_49) rfl rfl k_) ?_
  show own_Goes p e below (T570.setTop (mkF m 50 #[.val (.int q0), .val (.int q1), .val (.int q2), .val (.int q3), .val (.int q4), .val (.int n), .val (.int x0), .val (.int x1), .val (.int x2), .val (.int x3), .val (.ref b568), .unset, .unset, .unset, .unset, .unset, .unset, .unset, .unset, .unset] [(.ref b570), (.ref b570)])) (G_own_law Z q0 q1 q2 q3 q4 h0 n0 s)
  refine own_go (fun _ k_ => XS.iconst X570.here hx rfl (hb hby at_50) k_) ?_
  show own_Goes p e below (T570.setTop (mkF m 51 #[.val (.int q0), .val (.int q1), .val (.int q2), .val (.int q3), .val (.int q4), .val (.int n), .val (.int x0), .val (.int x1), .val (.int x2), .val (.int x3), .val (.ref b568), .unset, .unset, .unset, .unset, .unset, .unset, .unset, .unset, .unset] [(.int (5 : Int32)), (.ref b570), (.ref b570)])) (G_own_law Z q0 q1 q2 q3 q4 h0 n0 s)
  have hwl := Aw568_572.lt
  obtain ⟨_, _, ⟨T582, L582, k582, n582⟩, -, X582, ⟨Lc582, hQ582, l582, y582, z582⟩, st582⟩ := X570.specialBack hx (y := (⟨"com/example/trim_chain/trimchain/engine/Partition", "<init>", "(I)V"⟩ : MethodName)) rfl hown (mvT hZ (hw _ (List.mem_of_getElem? (i := 5) rfl))) (mvT hZ (hw _ (List.mem_of_getElem? (i := 6) rfl))) (mvT hZ (hw _ (List.mem_of_getElem? (i := 7) rfl))) (by decide) (backOf (W := 1) (own_iniM l Z a0 hw [] b570 h570 n0 Z570 A570 g_b570 F_573 F_574 F_575 F_576 F_577 F_578 F_579 F_580 F_581) hZ (hw _ (List.mem_of_getElem? (i := 7) rfl)) (hw _ (List.mem_of_getElem? (i := 4) rfl)) (by decide) (by decide)) (g := (mkF m 51 #[.val (.int q0), .val (.int q1), .val (.int q2), .val (.int q3), .val (.int q4), .val (.int n), .val (.int x0), .val (.int x1), .val (.int x2), .val (.int x3), .val (.ref b568), .unset, .unset, .unset, .unset, .unset, .unset, .unset, .unset, .unset] [(.int (5 : Int32)), (.ref b570), (.ref b570)])) rfl (by rw [hml]; rfl) (Steps.refl _) (a := b570) (argsL := [(.int (5 : Int32))]) (rest := [(.ref b570)]) (lenOf own_pd1 rfl) rfl (by show 2 * 0 + _ ≤ _; exact Nat.le_of_eq rfl) (hb hby at_51) (fun _ _ => ⟨rfl, e570, (by decide : 2 + 7 ≤ _), (by decide : 13 + 35 ≤ _)⟩)
  dsimp only [Pt.U, Pt.locs, Pt.cells, Pt.slots] at X582 l582 y582 z582 st582 hQ582
  subst l582 y582 z582
  obtain ⟨rfl, N582q, Kq582, ae, ao, ab, asx, am, atx, ke, ko, kb, ks, km, kt, F_elements, F_position, F_blockOf, F_start, F_markedEnd, F_touched, F_touchedCount, A_elements, A_position, A_blockOf, A_start, A_markedEnd, A_touched, nq_ap_ae, nq_ap_ao, nq_ap_ab, nq_ap_asx, nq_ap_am, nq_ap_atx, nq_ae_ao, nq_ae_ab, nq_ae_asx, nq_ae_am, nq_ae_atx, nq_ao_ab, nq_ao_asx, nq_ao_am, nq_ao_atx, nq_ab_asx, nq_ab_am, nq_ab_atx, nq_asx_am, nq_asx_atx, nq_am_atx, g_ae, g_ao, g_ab, g_asx, g_am, g_atx, sz_ae, sz_ao, sz_ab, sz_asx, sz_am, sz_atx⟩ := hQ582
  have N582 := Fr.app N0 N582q
  have nw_ae : b568 ≠ ae := fun q => absurd hwl (by rw [q]; exact Nat.not_lt.mpr sz_ae)
  have nw_ao : b568 ≠ ao := fun q => absurd hwl (by rw [q]; exact Nat.not_lt.mpr sz_ao)
  have nw_ab : b568 ≠ ab := fun q => absurd hwl (by rw [q]; exact Nat.not_lt.mpr sz_ab)
  have nw_asx : b568 ≠ asx := fun q => absurd hwl (by rw [q]; exact Nat.not_lt.mpr sz_asx)
  have nw_am : b568 ≠ am := fun q => absurd hwl (by rw [q]; exact Nat.not_lt.mpr sz_am)
  have nw_atx : b568 ≠ atx := fun q => absurd hwl (by rw [q]; exact Nat.not_lt.mpr sz_atx)
  have Aw568_583 := Aw568_572.keep Kq582 (ninS ne_b568_b570 nin0)
  have A570_584 := A570.keep Kq582
  have Z582 : n0 ≤ T582.heap.size := Nat.le_trans Z570 Kq582.1
  refine own_go (fun _ k_ => st582.trans k_) ?_
  show own_Goes p e below (T582.setTop (mkF m 54 #[.val (.int q0), .val (.int q1), .val (.int q2), .val (.int q3), .val (.int q4), .val (.int n), .val (.int x0), .val (.int x1), .val (.int x2), .val (.int x3), .val (.ref b568), .unset, .unset, .unset, .unset, .unset, .unset, .unset, .unset, .unset] [(.ref b570)])) (G_own_law Z q0 q1 q2 q3 q4 h0 n0 s)
  refine own_go (fun _ k_ => XS.astore X582.here hx rfl (hb hby at_54) rfl rfl (l' := #[.val (.int q0), .val (.int q1), .val (.int q2), .val (.int q3), .val (.int q4), .val (.int n), .val (.int x0), .val (.int x1), .val (.int x2), .val (.int x3), .val (.ref b568), .val (.ref b570), .unset, .unset, .unset, .unset, .unset, .unset, .unset, .unset]) rfl k_) ?_
  show own_Goes p e below (T582.setTop (mkF m 56 #[.val (.int q0), .val (.int q1), .val (.int q2), .val (.int q3), .val (.int q4), .val (.int n), .val (.int x0), .val (.int x1), .val (.int x2), .val (.int x3), .val (.ref b568), .val (.ref b570), .unset, .unset, .unset, .unset, .unset, .unset, .unset, .unset] [])) (G_own_law Z q0 q1 q2 q3 q4 h0 n0 s)
  have J68_594 : ∀ (T594 : State) (h594 : Heap) (lc594 : List Loc) (els68 : List Int32) (pos68 : List Int32) (mel68 : List Int32) (tl68 : List Int32) (k68 : Int32) (tc68 : Int32), (Stand p l e room_1 s m #[(.int q0), (.int q1), (.int q2), (.int q3), (.int q4)] below meth c T594 lc594 9 48) → (T594.heap = h594) → (Fr n0 lc594) → (n0 ≤ h594.size) → (Arv Z h594 b568 cA568 .int (4 : Int32) (([0, 0, 0, 0] : List Int32).map Value.int) (.int (0 : Int32))) → (Exa Z h594 b570 "com/example/trim_chain/trimchain/engine/Partition") → (Fld Z h594 b570 "com/example/trim_chain/trimchain/engine/Partition" "elements" "[I" (.ref ae)) → (Arv Z h594 ae ke .int (5 : Int32) (els68.map Value.int) (.int (0 : Int32))) → (Fld Z h594 b570 "com/example/trim_chain/trimchain/engine/Partition" "position" "[I" (.ref ao)) → (Arv Z h594 ao ko .int (5 : Int32) (pos68.map Value.int) (.int (0 : Int32))) → (Fld Z h594 b570 "com/example/trim_chain/trimchain/engine/Partition" "blockOf" "[I" (.ref ab)) → (Arv Z h594 ab kb .int (5 : Int32) (([0, 0, 0, 0, 0] : List Int32).map Value.int) (.int (0 : Int32))) → (Fld Z h594 b570 "com/example/trim_chain/trimchain/engine/Partition" "start" "[I" (.ref asx)) → (Arv Z h594 asx ks .int (5 : Int32) (([0, 0, 0, 0, 0] : List Int32).map Value.int) (.int (0 : Int32))) → (Fld Z h594 b570 "com/example/trim_chain/trimchain/engine/Partition" "markedEnd" "[I" (.ref am)) → (Arv Z h594 am km .int (5 : Int32) (mel68.map Value.int) (.int (0 : Int32))) → (Fld Z h594 b570 "com/example/trim_chain/trimchain/engine/Partition" "touched" "[I" (.ref atx)) → (Arv Z h594 atx kt .int (5 : Int32) (tl68.map Value.int) (.int (0 : Int32))) → (Fld Z h594 b570 "com/example/trim_chain/trimchain/engine/Partition" "touchedCount" "I" (.int tc68)) → (mel68.length = (5 : Int32).toNatClampNeg) → (tl68.length = (5 : Int32).toNatClampNeg) → (own_g mel68 0 = k68) → (k68 = 0 → tc68 = 0) → ((els68, pos68, k68) = (own_s1 n x0)) → own_Goes p e below (T594.setTop (mkF m 68 #[.val (.int q0), .val (.int q1), .val (.int q2), .val (.int q3), .val (.int q4), .val (.int n), .val (.int x0), .val (.int x1), .val (.int x2), .val (.int x3), .val (.ref b568), .val (.ref b570), .unset, .unset, .unset, .unset, .unset, .unset, .unset, .unset] [])) (G_own_law Z q0 q1 q2 q3 q4 h0 n0 s) := by
    intro T594 h594 lc594 els68 pos68 mel68 tl68 k68 tc68 X594 e594 N594 Z594 f594_0 f594_1 f594_2 f594_3 f594_4 f594_5 f594_6 f594_7 f594_8 f594_9 f594_10 f594_11 f594_12 f594_13 f594_14 lm68 lt68 hk68 htc68 hst68
    show own_Goes p e below (T594.setTop (mkF m 68 #[.val (.int q0), .val (.int q1), .val (.int q2), .val (.int q3), .val (.int q4), .val (.int n), .val (.int x0), .val (.int x1), .val (.int x2), .val (.int x3), .val (.ref b568), .val (.ref b570), .unset, .unset, .unset, .unset, .unset, .unset, .unset, .unset] [])) (G_own_law Z q0 q1 q2 q3 q4 h0 n0 s)
    have J81_595 : ∀ (T595 : State) (h595 : Heap) (lc595 : List Loc) (els81 : List Int32) (pos81 : List Int32) (mel81 : List Int32) (tl81 : List Int32) (k81 : Int32) (tc81 : Int32), (Stand p l e room_1 s m #[(.int q0), (.int q1), (.int q2), (.int q3), (.int q4)] below meth c T595 lc595 9 48) → (T595.heap = h595) → (Fr n0 lc595) → (n0 ≤ h595.size) → (Arv Z h595 b568 cA568 .int (4 : Int32) (([0, 0, 0, 0] : List Int32).map Value.int) (.int (0 : Int32))) → (Exa Z h595 b570 "com/example/trim_chain/trimchain/engine/Partition") → (Fld Z h595 b570 "com/example/trim_chain/trimchain/engine/Partition" "elements" "[I" (.ref ae)) → (Arv Z h595 ae ke .int (5 : Int32) (els81.map Value.int) (.int (0 : Int32))) → (Fld Z h595 b570 "com/example/trim_chain/trimchain/engine/Partition" "position" "[I" (.ref ao)) → (Arv Z h595 ao ko .int (5 : Int32) (pos81.map Value.int) (.int (0 : Int32))) → (Fld Z h595 b570 "com/example/trim_chain/trimchain/engine/Partition" "blockOf" "[I" (.ref ab)) → (Arv Z h595 ab kb .int (5 : Int32) (([0, 0, 0, 0, 0] : List Int32).map Value.int) (.int (0 : Int32))) → (Fld Z h595 b570 "com/example/trim_chain/trimchain/engine/Partition" "start" "[I" (.ref asx)) → (Arv Z h595 asx ks .int (5 : Int32) (([0, 0, 0, 0, 0] : List Int32).map Value.int) (.int (0 : Int32))) → (Fld Z h595 b570 "com/example/trim_chain/trimchain/engine/Partition" "markedEnd" "[I" (.ref am)) → (Arv Z h595 am km .int (5 : Int32) (mel81.map Value.int) (.int (0 : Int32))) → (Fld Z h595 b570 "com/example/trim_chain/trimchain/engine/Partition" "touched" "[I" (.ref atx)) → (Arv Z h595 atx kt .int (5 : Int32) (tl81.map Value.int) (.int (0 : Int32))) → (Fld Z h595 b570 "com/example/trim_chain/trimchain/engine/Partition" "touchedCount" "I" (.int tc81)) → (mel81.length = (5 : Int32).toNatClampNeg) → (tl81.length = (5 : Int32).toNatClampNeg) → (own_g mel81 0 = k81) → (k81 = 0 → tc81 = 0) → ((els81, pos81, k81) = (own_s2 n x0 x1)) → own_Goes p e below (T595.setTop (mkF m 81 #[.val (.int q0), .val (.int q1), .val (.int q2), .val (.int q3), .val (.int q4), .val (.int n), .val (.int x0), .val (.int x1), .val (.int x2), .val (.int x3), .val (.ref b568), .val (.ref b570), .unset, .unset, .unset, .unset, .unset, .unset, .unset, .unset] [])) (G_own_law Z q0 q1 q2 q3 q4 h0 n0 s) := by
      intro T595 h595 lc595 els81 pos81 mel81 tl81 k81 tc81 X595 e595 N595 Z595 f595_0 f595_1 f595_2 f595_3 f595_4 f595_5 f595_6 f595_7 f595_8 f595_9 f595_10 f595_11 f595_12 f595_13 f595_14 lm81 lt81 hk81 htc81 hst81
      show own_Goes p e below (T595.setTop (mkF m 81 #[.val (.int q0), .val (.int q1), .val (.int q2), .val (.int q3), .val (.int q4), .val (.int n), .val (.int x0), .val (.int x1), .val (.int x2), .val (.int x3), .val (.ref b568), .val (.ref b570), .unset, .unset, .unset, .unset, .unset, .unset, .unset, .unset] [])) (G_own_law Z q0 q1 q2 q3 q4 h0 n0 s)
      have J94_596 : ∀ (T596 : State) (h596 : Heap) (lc596 : List Loc) (els94 : List Int32) (pos94 : List Int32) (mel94 : List Int32) (tl94 : List Int32) (k94 : Int32) (tc94 : Int32), (Stand p l e room_1 s m #[(.int q0), (.int q1), (.int q2), (.int q3), (.int q4)] below meth c T596 lc596 9 48) → (T596.heap = h596) → (Fr n0 lc596) → (n0 ≤ h596.size) → (Arv Z h596 b568 cA568 .int (4 : Int32) (([0, 0, 0, 0] : List Int32).map Value.int) (.int (0 : Int32))) → (Exa Z h596 b570 "com/example/trim_chain/trimchain/engine/Partition") → (Fld Z h596 b570 "com/example/trim_chain/trimchain/engine/Partition" "elements" "[I" (.ref ae)) → (Arv Z h596 ae ke .int (5 : Int32) (els94.map Value.int) (.int (0 : Int32))) → (Fld Z h596 b570 "com/example/trim_chain/trimchain/engine/Partition" "position" "[I" (.ref ao)) → (Arv Z h596 ao ko .int (5 : Int32) (pos94.map Value.int) (.int (0 : Int32))) → (Fld Z h596 b570 "com/example/trim_chain/trimchain/engine/Partition" "blockOf" "[I" (.ref ab)) → (Arv Z h596 ab kb .int (5 : Int32) (([0, 0, 0, 0, 0] : List Int32).map Value.int) (.int (0 : Int32))) → (Fld Z h596 b570 "com/example/trim_chain/trimchain/engine/Partition" "start" "[I" (.ref asx)) → (Arv Z h596 asx ks .int (5 : Int32) (([0, 0, 0, 0, 0] : List Int32).map Value.int) (.int (0 : Int32))) → (Fld Z h596 b570 "com/example/trim_chain/trimchain/engine/Partition" "markedEnd" "[I" (.ref am)) → (Arv Z h596 am km .int (5 : Int32) (mel94.map Value.int) (.int (0 : Int32))) → (Fld Z h596 b570 "com/example/trim_chain/trimchain/engine/Partition" "touched" "[I" (.ref atx)) → (Arv Z h596 atx kt .int (5 : Int32) (tl94.map Value.int) (.int (0 : Int32))) → (Fld Z h596 b570 "com/example/trim_chain/trimchain/engine/Partition" "touchedCount" "I" (.int tc94)) → (mel94.length = (5 : Int32).toNatClampNeg) → (tl94.length = (5 : Int32).toNatClampNeg) → (own_g mel94 0 = k94) → (k94 = 0 → tc94 = 0) → ((els94, pos94, k94) = (own_s3 n x0 x1 x2)) → own_Goes p e below (T596.setTop (mkF m 94 #[.val (.int q0), .val (.int q1), .val (.int q2), .val (.int q3), .val (.int q4), .val (.int n), .val (.int x0), .val (.int x1), .val (.int x2), .val (.int x3), .val (.ref b568), .val (.ref b570), .unset, .unset, .unset, .unset, .unset, .unset, .unset, .unset] [])) (G_own_law Z q0 q1 q2 q3 q4 h0 n0 s) := by
        intro T596 h596 lc596 els94 pos94 mel94 tl94 k94 tc94 X596 e596 N596 Z596 f596_0 f596_1 f596_2 f596_3 f596_4 f596_5 f596_6 f596_7 f596_8 f596_9 f596_10 f596_11 f596_12 f596_13 f596_14 lm94 lt94 hk94 htc94 hst94
        show own_Goes p e below (T596.setTop (mkF m 94 #[.val (.int q0), .val (.int q1), .val (.int q2), .val (.int q3), .val (.int q4), .val (.int n), .val (.int x0), .val (.int x1), .val (.int x2), .val (.int x3), .val (.ref b568), .val (.ref b570), .unset, .unset, .unset, .unset, .unset, .unset, .unset, .unset] [])) (G_own_law Z q0 q1 q2 q3 q4 h0 n0 s)
        have J107_597 : ∀ (T597 : State) (h597 : Heap) (lc597 : List Loc) (els107 : List Int32) (pos107 : List Int32) (mel107 : List Int32) (tl107 : List Int32) (k107 : Int32) (tc107 : Int32), (Stand p l e room_1 s m #[(.int q0), (.int q1), (.int q2), (.int q3), (.int q4)] below meth c T597 lc597 9 48) → (T597.heap = h597) → (Fr n0 lc597) → (n0 ≤ h597.size) → (Arv Z h597 b568 cA568 .int (4 : Int32) (([0, 0, 0, 0] : List Int32).map Value.int) (.int (0 : Int32))) → (Exa Z h597 b570 "com/example/trim_chain/trimchain/engine/Partition") → (Fld Z h597 b570 "com/example/trim_chain/trimchain/engine/Partition" "elements" "[I" (.ref ae)) → (Arv Z h597 ae ke .int (5 : Int32) (els107.map Value.int) (.int (0 : Int32))) → (Fld Z h597 b570 "com/example/trim_chain/trimchain/engine/Partition" "position" "[I" (.ref ao)) → (Arv Z h597 ao ko .int (5 : Int32) (pos107.map Value.int) (.int (0 : Int32))) → (Fld Z h597 b570 "com/example/trim_chain/trimchain/engine/Partition" "blockOf" "[I" (.ref ab)) → (Arv Z h597 ab kb .int (5 : Int32) (([0, 0, 0, 0, 0] : List Int32).map Value.int) (.int (0 : Int32))) → (Fld Z h597 b570 "com/example/trim_chain/trimchain/engine/Partition" "start" "[I" (.ref asx)) → (Arv Z h597 asx ks .int (5 : Int32) (([0, 0, 0, 0, 0] : List Int32).map Value.int) (.int (0 : Int32))) → (Fld Z h597 b570 "com/example/trim_chain/trimchain/engine/Partition" "markedEnd" "[I" (.ref am)) → (Arv Z h597 am km .int (5 : Int32) (mel107.map Value.int) (.int (0 : Int32))) → (Fld Z h597 b570 "com/example/trim_chain/trimchain/engine/Partition" "touched" "[I" (.ref atx)) → (Arv Z h597 atx kt .int (5 : Int32) (tl107.map Value.int) (.int (0 : Int32))) → (Fld Z h597 b570 "com/example/trim_chain/trimchain/engine/Partition" "touchedCount" "I" (.int tc107)) → (mel107.length = (5 : Int32).toNatClampNeg) → (tl107.length = (5 : Int32).toNatClampNeg) → (own_g mel107 0 = k107) → (k107 = 0 → tc107 = 0) → ((els107, pos107, k107) = (own_s4 n x0 x1 x2 x3)) → own_Goes p e below (T597.setTop (mkF m 107 #[.val (.int q0), .val (.int q1), .val (.int q2), .val (.int q3), .val (.int q4), .val (.int n), .val (.int x0), .val (.int x1), .val (.int x2), .val (.int x3), .val (.ref b568), .val (.ref b570), .unset, .unset, .unset, .unset, .unset, .unset, .unset, .unset] [])) (G_own_law Z q0 q1 q2 q3 q4 h0 n0 s) := by
          intro T597 h597 lc597 els107 pos107 mel107 tl107 k107 tc107 X597 e597 N597 Z597 f597_0 f597_1 f597_2 f597_3 f597_4 f597_5 f597_6 f597_7 f597_8 f597_9 f597_10 f597_11 f597_12 f597_13 f597_14 lm107 lt107 hk107 htc107 hst107
          show own_Goes p e below (T597.setTop (mkF m 107 #[.val (.int q0), .val (.int q1), .val (.int q2), .val (.int q3), .val (.int q4), .val (.int n), .val (.int x0), .val (.int x1), .val (.int x2), .val (.int x3), .val (.ref b568), .val (.ref b570), .unset, .unset, .unset, .unset, .unset, .unset, .unset, .unset] [])) (G_own_law Z q0 q1 q2 q3 q4 h0 n0 s)
          have hall := own_all n m_n x0 m_x0 x1 m_x1 x2 m_x2 x3 m_x3
          rw [← hst107] at hall
          refine own_go (fun _ k_ => XS.iconst X597.here hx rfl (hb hby at_107) k_) ?_
          show own_Goes p e below (T597.setTop (mkF m 108 #[.val (.int q0), .val (.int q1), .val (.int q2), .val (.int q3), .val (.int q4), .val (.int n), .val (.int x0), .val (.int x1), .val (.int x2), .val (.int x3), .val (.ref b568), .val (.ref b570), .unset, .unset, .unset, .unset, .unset, .unset, .unset, .unset] [(.int (0 : Int32))])) (G_own_law Z q0 q1 q2 q3 q4 h0 n0 s)
          refine own_go (fun _ k_ => XS.istore X597.here hx rfl (hb hby at_108) rfl (l' := #[.val (.int q0), .val (.int q1), .val (.int q2), .val (.int q3), .val (.int q4), .val (.int n), .val (.int x0), .val (.int x1), .val (.int x2), .val (.int x3), .val (.ref b568), .val (.ref b570), .val (.int (0 : Int32)), .unset, .unset, .unset, .unset, .unset, .unset, .unset]) rfl k_) ?_
          show own_Goes p e below (T597.setTop (mkF m 110 #[.val (.int q0), .val (.int q1), .val (.int q2), .val (.int q3), .val (.int q4), .val (.int n), .val (.int x0), .val (.int x1), .val (.int x2), .val (.int x3), .val (.ref b568), .val (.ref b570), .val (.int (0 : Int32)), .unset, .unset, .unset, .unset, .unset, .unset, .unset] [])) (G_own_law Z q0 q1 q2 q3 q4 h0 n0 s)
          have J125_598 : ∀ (T598 : State) (h598 : Heap) (lc598 : List Loc) (wl125 : List Int32) (kk125 : Int32), (Stand p l e room_1 s m #[(.int q0), (.int q1), (.int q2), (.int q3), (.int q4)] below meth c T598 lc598 9 48) → (T598.heap = h598) → (Fr n0 lc598) → (n0 ≤ h598.size) → (Arv Z h598 b568 cA568 .int (4 : Int32) (wl125.map Value.int) (.int (0 : Int32))) → (Exa Z h598 b570 "com/example/trim_chain/trimchain/engine/Partition") → (Fld Z h598 b570 "com/example/trim_chain/trimchain/engine/Partition" "elements" "[I" (.ref ae)) → (Arv Z h598 ae ke .int (5 : Int32) (els107.map Value.int) (.int (0 : Int32))) → (Fld Z h598 b570 "com/example/trim_chain/trimchain/engine/Partition" "position" "[I" (.ref ao)) → (Arv Z h598 ao ko .int (5 : Int32) (pos107.map Value.int) (.int (0 : Int32))) → (Fld Z h598 b570 "com/example/trim_chain/trimchain/engine/Partition" "blockOf" "[I" (.ref ab)) → (Arv Z h598 ab kb .int (5 : Int32) (([0, 0, 0, 0, 0] : List Int32).map Value.int) (.int (0 : Int32))) → (Fld Z h598 b570 "com/example/trim_chain/trimchain/engine/Partition" "start" "[I" (.ref asx)) → (Arv Z h598 asx ks .int (5 : Int32) (([0, 0, 0, 0, 0] : List Int32).map Value.int) (.int (0 : Int32))) → (Fld Z h598 b570 "com/example/trim_chain/trimchain/engine/Partition" "markedEnd" "[I" (.ref am)) → (Arv Z h598 am km .int (5 : Int32) (mel107.map Value.int) (.int (0 : Int32))) → (Fld Z h598 b570 "com/example/trim_chain/trimchain/engine/Partition" "touched" "[I" (.ref atx)) → (Arv Z h598 atx kt .int (5 : Int32) (tl107.map Value.int) (.int (0 : Int32))) → (Fld Z h598 b570 "com/example/trim_chain/trimchain/engine/Partition" "touchedCount" "I" (.int tc107)) → (wl125.length = (4 : Int32).toNatClampNeg) → ((wl125, kk125) = (own_w1 n x0)) → own_Goes p e below (T598.setTop (mkF m 125 #[.val (.int q0), .val (.int q1), .val (.int q2), .val (.int q3), .val (.int q4), .val (.int n), .val (.int x0), .val (.int x1), .val (.int x2), .val (.int x3), .val (.ref b568), .val (.ref b570), .val (.int kk125), .unset, .unset, .unset, .unset, .unset, .unset, .unset] [])) (G_own_law Z q0 q1 q2 q3 q4 h0 n0 s) := by
            intro T598 h598 lc598 wl125 kk125 X598 e598 N598 Z598 f598_0 f598_1 f598_2 f598_3 f598_4 f598_5 f598_6 f598_7 f598_8 f598_9 f598_10 f598_11 f598_12 f598_13 f598_14 lw125 hwt125
            show own_Goes p e below (T598.setTop (mkF m 125 #[.val (.int q0), .val (.int q1), .val (.int q2), .val (.int q3), .val (.int q4), .val (.int n), .val (.int x0), .val (.int x1), .val (.int x2), .val (.int x3), .val (.ref b568), .val (.ref b570), .val (.int kk125), .unset, .unset, .unset, .unset, .unset, .unset, .unset] [])) (G_own_law Z q0 q1 q2 q3 q4 h0 n0 s)
            have hkb125 : own_k (wl125, kk125) = true := by rw [hwt125]; exact own_k1 n m_n x0 m_x0
            simp only [own_k, Bool.and_eq_true, decide_eq_true_eq] at hkb125
            have hki125 : ¬ kk125 < 0 ∧ kk125 < 4 := ⟨hkb125.1.2, hkb125.2⟩
            have J148_599 : ∀ (T599 : State) (h599 : Heap) (lc599 : List Loc) (wl148 : List Int32) (kk148 : Int32), (Stand p l e room_1 s m #[(.int q0), (.int q1), (.int q2), (.int q3), (.int q4)] below meth c T599 lc599 9 48) → (T599.heap = h599) → (Fr n0 lc599) → (n0 ≤ h599.size) → (Arv Z h599 b568 cA568 .int (4 : Int32) (wl148.map Value.int) (.int (0 : Int32))) → (Exa Z h599 b570 "com/example/trim_chain/trimchain/engine/Partition") → (Fld Z h599 b570 "com/example/trim_chain/trimchain/engine/Partition" "elements" "[I" (.ref ae)) → (Arv Z h599 ae ke .int (5 : Int32) (els107.map Value.int) (.int (0 : Int32))) → (Fld Z h599 b570 "com/example/trim_chain/trimchain/engine/Partition" "position" "[I" (.ref ao)) → (Arv Z h599 ao ko .int (5 : Int32) (pos107.map Value.int) (.int (0 : Int32))) → (Fld Z h599 b570 "com/example/trim_chain/trimchain/engine/Partition" "blockOf" "[I" (.ref ab)) → (Arv Z h599 ab kb .int (5 : Int32) (([0, 0, 0, 0, 0] : List Int32).map Value.int) (.int (0 : Int32))) → (Fld Z h599 b570 "com/example/trim_chain/trimchain/engine/Partition" "start" "[I" (.ref asx)) → (Arv Z h599 asx ks .int (5 : Int32) (([0, 0, 0, 0, 0] : List Int32).map Value.int) (.int (0 : Int32))) → (Fld Z h599 b570 "com/example/trim_chain/trimchain/engine/Partition" "markedEnd" "[I" (.ref am)) → (Arv Z h599 am km .int (5 : Int32) (mel107.map Value.int) (.int (0 : Int32))) → (Fld Z h599 b570 "com/example/trim_chain/trimchain/engine/Partition" "touched" "[I" (.ref atx)) → (Arv Z h599 atx kt .int (5 : Int32) (tl107.map Value.int) (.int (0 : Int32))) → (Fld Z h599 b570 "com/example/trim_chain/trimchain/engine/Partition" "touchedCount" "I" (.int tc107)) → (wl148.length = (4 : Int32).toNatClampNeg) → ((wl148, kk148) = (own_w2 n x0 x1)) → own_Goes p e below (T599.setTop (mkF m 148 #[.val (.int q0), .val (.int q1), .val (.int q2), .val (.int q3), .val (.int q4), .val (.int n), .val (.int x0), .val (.int x1), .val (.int x2), .val (.int x3), .val (.ref b568), .val (.ref b570), .val (.int kk148), .unset, .unset, .unset, .unset, .unset, .unset, .unset] [])) (G_own_law Z q0 q1 q2 q3 q4 h0 n0 s) := by
              intro T599 h599 lc599 wl148 kk148 X599 e599 N599 Z599 f599_0 f599_1 f599_2 f599_3 f599_4 f599_5 f599_6 f599_7 f599_8 f599_9 f599_10 f599_11 f599_12 f599_13 f599_14 lw148 hwt148
              show own_Goes p e below (T599.setTop (mkF m 148 #[.val (.int q0), .val (.int q1), .val (.int q2), .val (.int q3), .val (.int q4), .val (.int n), .val (.int x0), .val (.int x1), .val (.int x2), .val (.int x3), .val (.ref b568), .val (.ref b570), .val (.int kk148), .unset, .unset, .unset, .unset, .unset, .unset, .unset] [])) (G_own_law Z q0 q1 q2 q3 q4 h0 n0 s)
              have hkb148 : own_k (wl148, kk148) = true := by rw [hwt148]; exact own_k2 n m_n x0 m_x0 x1 m_x1
              simp only [own_k, Bool.and_eq_true, decide_eq_true_eq] at hkb148
              have hki148 : ¬ kk148 < 0 ∧ kk148 < 4 := ⟨hkb148.1.2, hkb148.2⟩
              have J178_600 : ∀ (T600 : State) (h600 : Heap) (lc600 : List Loc) (wl178 : List Int32) (kk178 : Int32), (Stand p l e room_1 s m #[(.int q0), (.int q1), (.int q2), (.int q3), (.int q4)] below meth c T600 lc600 9 48) → (T600.heap = h600) → (Fr n0 lc600) → (n0 ≤ h600.size) → (Arv Z h600 b568 cA568 .int (4 : Int32) (wl178.map Value.int) (.int (0 : Int32))) → (Exa Z h600 b570 "com/example/trim_chain/trimchain/engine/Partition") → (Fld Z h600 b570 "com/example/trim_chain/trimchain/engine/Partition" "elements" "[I" (.ref ae)) → (Arv Z h600 ae ke .int (5 : Int32) (els107.map Value.int) (.int (0 : Int32))) → (Fld Z h600 b570 "com/example/trim_chain/trimchain/engine/Partition" "position" "[I" (.ref ao)) → (Arv Z h600 ao ko .int (5 : Int32) (pos107.map Value.int) (.int (0 : Int32))) → (Fld Z h600 b570 "com/example/trim_chain/trimchain/engine/Partition" "blockOf" "[I" (.ref ab)) → (Arv Z h600 ab kb .int (5 : Int32) (([0, 0, 0, 0, 0] : List Int32).map Value.int) (.int (0 : Int32))) → (Fld Z h600 b570 "com/example/trim_chain/trimchain/engine/Partition" "start" "[I" (.ref asx)) → (Arv Z h600 asx ks .int (5 : Int32) (([0, 0, 0, 0, 0] : List Int32).map Value.int) (.int (0 : Int32))) → (Fld Z h600 b570 "com/example/trim_chain/trimchain/engine/Partition" "markedEnd" "[I" (.ref am)) → (Arv Z h600 am km .int (5 : Int32) (mel107.map Value.int) (.int (0 : Int32))) → (Fld Z h600 b570 "com/example/trim_chain/trimchain/engine/Partition" "touched" "[I" (.ref atx)) → (Arv Z h600 atx kt .int (5 : Int32) (tl107.map Value.int) (.int (0 : Int32))) → (Fld Z h600 b570 "com/example/trim_chain/trimchain/engine/Partition" "touchedCount" "I" (.int tc107)) → (wl178.length = (4 : Int32).toNatClampNeg) → ((wl178, kk178) = (own_w3 n x0 x1 x2)) → own_Goes p e below (T600.setTop (mkF m 178 #[.val (.int q0), .val (.int q1), .val (.int q2), .val (.int q3), .val (.int q4), .val (.int n), .val (.int x0), .val (.int x1), .val (.int x2), .val (.int x3), .val (.ref b568), .val (.ref b570), .val (.int kk178), .unset, .unset, .unset, .unset, .unset, .unset, .unset] [])) (G_own_law Z q0 q1 q2 q3 q4 h0 n0 s) := by
                intro T600 h600 lc600 wl178 kk178 X600 e600 N600 Z600 f600_0 f600_1 f600_2 f600_3 f600_4 f600_5 f600_6 f600_7 f600_8 f600_9 f600_10 f600_11 f600_12 f600_13 f600_14 lw178 hwt178
                show own_Goes p e below (T600.setTop (mkF m 178 #[.val (.int q0), .val (.int q1), .val (.int q2), .val (.int q3), .val (.int q4), .val (.int n), .val (.int x0), .val (.int x1), .val (.int x2), .val (.int x3), .val (.ref b568), .val (.ref b570), .val (.int kk178), .unset, .unset, .unset, .unset, .unset, .unset, .unset] [])) (G_own_law Z q0 q1 q2 q3 q4 h0 n0 s)
                have hkb178 : own_k (wl178, kk178) = true := by rw [hwt178]; exact own_k3 n m_n x0 m_x0 x1 m_x1 x2 m_x2
                simp only [own_k, Bool.and_eq_true, decide_eq_true_eq] at hkb178
                have hki178 : ¬ kk178 < 0 ∧ kk178 < 4 := ⟨hkb178.1.2, hkb178.2⟩
                have J215_601 : ∀ (T601 : State) (h601 : Heap) (lc601 : List Loc) (wl215 : List Int32) (kk215 : Int32), (Stand p l e room_1 s m #[(.int q0), (.int q1), (.int q2), (.int q3), (.int q4)] below meth c T601 lc601 9 48) → (T601.heap = h601) → (Fr n0 lc601) → (n0 ≤ h601.size) → (Arv Z h601 b568 cA568 .int (4 : Int32) (wl215.map Value.int) (.int (0 : Int32))) → (Exa Z h601 b570 "com/example/trim_chain/trimchain/engine/Partition") → (Fld Z h601 b570 "com/example/trim_chain/trimchain/engine/Partition" "elements" "[I" (.ref ae)) → (Arv Z h601 ae ke .int (5 : Int32) (els107.map Value.int) (.int (0 : Int32))) → (Fld Z h601 b570 "com/example/trim_chain/trimchain/engine/Partition" "position" "[I" (.ref ao)) → (Arv Z h601 ao ko .int (5 : Int32) (pos107.map Value.int) (.int (0 : Int32))) → (Fld Z h601 b570 "com/example/trim_chain/trimchain/engine/Partition" "blockOf" "[I" (.ref ab)) → (Arv Z h601 ab kb .int (5 : Int32) (([0, 0, 0, 0, 0] : List Int32).map Value.int) (.int (0 : Int32))) → (Fld Z h601 b570 "com/example/trim_chain/trimchain/engine/Partition" "start" "[I" (.ref asx)) → (Arv Z h601 asx ks .int (5 : Int32) (([0, 0, 0, 0, 0] : List Int32).map Value.int) (.int (0 : Int32))) → (Fld Z h601 b570 "com/example/trim_chain/trimchain/engine/Partition" "markedEnd" "[I" (.ref am)) → (Arv Z h601 am km .int (5 : Int32) (mel107.map Value.int) (.int (0 : Int32))) → (Fld Z h601 b570 "com/example/trim_chain/trimchain/engine/Partition" "touched" "[I" (.ref atx)) → (Arv Z h601 atx kt .int (5 : Int32) (tl107.map Value.int) (.int (0 : Int32))) → (Fld Z h601 b570 "com/example/trim_chain/trimchain/engine/Partition" "touchedCount" "I" (.int tc107)) → (wl215.length = (4 : Int32).toNatClampNeg) → ((wl215, kk215) = (own_w4 n x0 x1 x2 x3)) → own_Goes p e below (T601.setTop (mkF m 215 #[.val (.int q0), .val (.int q1), .val (.int q2), .val (.int q3), .val (.int q4), .val (.int n), .val (.int x0), .val (.int x1), .val (.int x2), .val (.int x3), .val (.ref b568), .val (.ref b570), .val (.int kk215), .unset, .unset, .unset, .unset, .unset, .unset, .unset] [])) (G_own_law Z q0 q1 q2 q3 q4 h0 n0 s) := by
                  intro T601 h601 lc601 wl215 kk215 X601 e601 N601 Z601 f601_0 f601_1 f601_2 f601_3 f601_4 f601_5 f601_6 f601_7 f601_8 f601_9 f601_10 f601_11 f601_12 f601_13 f601_14 lw215 hwt215
                  show own_Goes p e below (T601.setTop (mkF m 215 #[.val (.int q0), .val (.int q1), .val (.int q2), .val (.int q3), .val (.int q4), .val (.int n), .val (.int x0), .val (.int x1), .val (.int x2), .val (.int x3), .val (.ref b568), .val (.ref b570), .val (.int kk215), .unset, .unset, .unset, .unset, .unset, .unset, .unset] [])) (G_own_law Z q0 q1 q2 q3 q4 h0 n0 s)
                  rw [← hwt215] at hall
                  simp only [Bool.and_eq_true] at hall
                  obtain ⟨hperm, hfr⟩ := hall
                  have hperm := of_decide_eq_true hperm
                  have hfr := own_frontE hfr
                  refine own_go (fun _ k_ => XS.aload X601.here hx rfl (hb hby at_215) rfl rfl k_) ?_
                  show own_Goes p e below (T601.setTop (mkF m 217 #[.val (.int q0), .val (.int q1), .val (.int q2), .val (.int q3), .val (.int q4), .val (.int n), .val (.int x0), .val (.int x1), .val (.int x2), .val (.int x3), .val (.ref b568), .val (.ref b570), .val (.int kk215), .unset, .unset, .unset, .unset, .unset, .unset, .unset] [(.ref b570)])) (G_own_law Z q0 q1 q2 q3 q4 h0 n0 s)
                  refine own_go (fun _ k_ => XS.iconst X601.here hx rfl (hb hby at_217) k_) ?_
                  show own_Goes p e below (T601.setTop (mkF m 218 #[.val (.int q0), .val (.int q1), .val (.int q2), .val (.int q3), .val (.int q4), .val (.int n), .val (.int x0), .val (.int x1), .val (.int x2), .val (.int x3), .val (.ref b568), .val (.ref b570), .val (.int kk215), .unset, .unset, .unset, .unset, .unset, .unset, .unset] [(.int (0 : Int32)), (.ref b570)])) (G_own_law Z q0 q1 q2 q3 q4 h0 n0 s)
                  obtain ⟨cq602, kq602, q602a, q602b, q602c⟩ := isOf hZ e601 f601_1
                  obtain ⟨_, _, ⟨T602, L602, k602, n602⟩, -, X602, ⟨Lc602, hQ602, l602, y602, z602⟩, st602⟩ := X601.virtualBack hx (y := (⟨"com/example/trim_chain/trimchain/engine/Partition", "element", "(I)I"⟩ : MethodName)) (z := (⟨"com/example/trim_chain/trimchain/engine/Partition", "element", "(I)I"⟩ : MethodName)) hown (mvT hZ (hw _ (List.mem_of_getElem? (i := 27) rfl))) (mvT hZ (hw _ (List.mem_of_getElem? (i := 28) rfl))) (notFace_of_selects (args := #[]) (mvT hZ (hw _ (List.mem_of_getElem? (i := 30) rfl)))) (mvT hZ (hw _ (List.mem_of_getElem? (i := 30) rfl))) (mvT hZ (hw _ (List.mem_of_getElem? (i := 29) rfl))) (by decide) (backOf (W := 0) (own_elM l Z a0 hw [] b570 (0 : Int32) ae ke els107 h601 n0 Z601 f601_2 f601_3 (by decide)) hZ (hw _ (List.mem_of_getElem? (i := 31) rfl)) (hw _ (List.mem_of_getElem? (i := 4) rfl)) (by decide) (by decide)) q602a q602c (g := (mkF m 218 #[.val (.int q0), .val (.int q1), .val (.int q2), .val (.int q3), .val (.int q4), .val (.int n), .val (.int x0), .val (.int x1), .val (.int x2), .val (.int x3), .val (.ref b568), .val (.ref b570), .val (.int kk215), .unset, .unset, .unset, .unset, .unset, .unset, .unset] [(.int (0 : Int32)), (.ref b570)])) rfl (by rw [hml]; rfl) (Steps.refl _) (argsL := [(.int (0 : Int32))]) (rest := []) (lenOf own_pd2 rfl) rfl (by show 2 * 0 + _ ≤ _; exact Nat.le_of_eq rfl) (hb hby at_218) (fun _ _ => ⟨rfl, e601, (by decide : 9 + 0 ≤ _), (by decide : 48 + 0 ≤ _)⟩)
                  dsimp only [Pt.U, Pt.locs, Pt.cells, Pt.slots] at X602 l602 y602 z602 st602 hQ602
                  subst l602 y602 z602
                  obtain ⟨rfl, N602q, e602⟩ := hQ602
                  have N602 := Fr.app N601 N602q
                  refine own_go (fun _ k_ => st602.trans k_) ?_
                  show own_Goes p e below (T602.setTop (mkF m 221 #[.val (.int q0), .val (.int q1), .val (.int q2), .val (.int q3), .val (.int q4), .val (.int n), .val (.int x0), .val (.int x1), .val (.int x2), .val (.int x3), .val (.ref b568), .val (.ref b570), .val (.int kk215), .unset, .unset, .unset, .unset, .unset, .unset, .unset] [(.int (own_g els107 (0 : Int32)))])) (G_own_law Z q0 q1 q2 q3 q4 h0 n0 s)
                  refine own_go (fun _ k_ => XS.istore X602.here hx rfl (hb hby at_221) rfl (l' := #[.val (.int q0), .val (.int q1), .val (.int q2), .val (.int q3), .val (.int q4), .val (.int n), .val (.int x0), .val (.int x1), .val (.int x2), .val (.int x3), .val (.ref b568), .val (.ref b570), .val (.int kk215), .val (.int (own_g els107 (0 : Int32))), .unset, .unset, .unset, .unset, .unset, .unset]) rfl k_) ?_
                  show own_Goes p e below (T602.setTop (mkF m 223 #[.val (.int q0), .val (.int q1), .val (.int q2), .val (.int q3), .val (.int q4), .val (.int n), .val (.int x0), .val (.int x1), .val (.int x2), .val (.int x3), .val (.ref b568), .val (.ref b570), .val (.int kk215), .val (.int (own_g els107 (0 : Int32))), .unset, .unset, .unset, .unset, .unset, .unset] [])) (G_own_law Z q0 q1 q2 q3 q4 h0 n0 s)
                  refine own_go (fun _ k_ => XS.aload X602.here hx rfl (hb hby at_223) rfl rfl k_) ?_
                  show own_Goes p e below (T602.setTop (mkF m 225 #[.val (.int q0), .val (.int q1), .val (.int q2), .val (.int q3), .val (.int q4), .val (.int n), .val (.int x0), .val (.int x1), .val (.int x2), .val (.int x3), .val (.ref b568), .val (.ref b570), .val (.int kk215), .val (.int (own_g els107 (0 : Int32))), .unset, .unset, .unset, .unset, .unset, .unset] [(.ref b570)])) (G_own_law Z q0 q1 q2 q3 q4 h0 n0 s)
                  refine own_go (fun _ k_ => XS.iconst X602.here hx rfl (hb hby at_225) k_) ?_
                  show own_Goes p e below (T602.setTop (mkF m 226 #[.val (.int q0), .val (.int q1), .val (.int q2), .val (.int q3), .val (.int q4), .val (.int n), .val (.int x0), .val (.int x1), .val (.int x2), .val (.int x3), .val (.ref b568), .val (.ref b570), .val (.int kk215), .val (.int (own_g els107 (0 : Int32))), .unset, .unset, .unset, .unset, .unset, .unset] [(.int (1 : Int32)), (.ref b570)])) (G_own_law Z q0 q1 q2 q3 q4 h0 n0 s)
                  obtain ⟨cq603, kq603, q603a, q603b, q603c⟩ := isOf hZ e602 f601_1
                  obtain ⟨_, _, ⟨T603, L603, k603, n603⟩, -, X603, ⟨Lc603, hQ603, l603, y603, z603⟩, st603⟩ := X602.virtualBack hx (y := (⟨"com/example/trim_chain/trimchain/engine/Partition", "element", "(I)I"⟩ : MethodName)) (z := (⟨"com/example/trim_chain/trimchain/engine/Partition", "element", "(I)I"⟩ : MethodName)) hown (mvT hZ (hw _ (List.mem_of_getElem? (i := 27) rfl))) (mvT hZ (hw _ (List.mem_of_getElem? (i := 28) rfl))) (notFace_of_selects (args := #[]) (mvT hZ (hw _ (List.mem_of_getElem? (i := 30) rfl)))) (mvT hZ (hw _ (List.mem_of_getElem? (i := 30) rfl))) (mvT hZ (hw _ (List.mem_of_getElem? (i := 29) rfl))) (by decide) (backOf (W := 0) (own_elM l Z a0 hw [] b570 (1 : Int32) ae ke els107 h601 n0 Z601 f601_2 f601_3 (by decide)) hZ (hw _ (List.mem_of_getElem? (i := 31) rfl)) (hw _ (List.mem_of_getElem? (i := 4) rfl)) (by decide) (by decide)) q603a q603c (g := (mkF m 226 #[.val (.int q0), .val (.int q1), .val (.int q2), .val (.int q3), .val (.int q4), .val (.int n), .val (.int x0), .val (.int x1), .val (.int x2), .val (.int x3), .val (.ref b568), .val (.ref b570), .val (.int kk215), .val (.int (own_g els107 (0 : Int32))), .unset, .unset, .unset, .unset, .unset, .unset] [(.int (1 : Int32)), (.ref b570)])) rfl (by rw [hml]; rfl) (Steps.refl _) (argsL := [(.int (1 : Int32))]) (rest := []) (lenOf own_pd2 rfl) rfl (by show 2 * 0 + _ ≤ _; exact Nat.le_of_eq rfl) (hb hby at_226) (fun _ _ => ⟨rfl, e602, (by decide : 9 + 0 ≤ _), (by decide : 48 + 0 ≤ _)⟩)
                  dsimp only [Pt.U, Pt.locs, Pt.cells, Pt.slots] at X603 l603 y603 z603 st603 hQ603
                  subst l603 y603 z603
                  obtain ⟨rfl, N603q, e603⟩ := hQ603
                  have N603 := Fr.app N602 N603q
                  refine own_go (fun _ k_ => st603.trans k_) ?_
                  show own_Goes p e below (T603.setTop (mkF m 229 #[.val (.int q0), .val (.int q1), .val (.int q2), .val (.int q3), .val (.int q4), .val (.int n), .val (.int x0), .val (.int x1), .val (.int x2), .val (.int x3), .val (.ref b568), .val (.ref b570), .val (.int kk215), .val (.int (own_g els107 (0 : Int32))), .unset, .unset, .unset, .unset, .unset, .unset] [(.int (own_g els107 (1 : Int32)))])) (G_own_law Z q0 q1 q2 q3 q4 h0 n0 s)
                  refine own_go (fun _ k_ => XS.istore X603.here hx rfl (hb hby at_229) rfl (l' := #[.val (.int q0), .val (.int q1), .val (.int q2), .val (.int q3), .val (.int q4), .val (.int n), .val (.int x0), .val (.int x1), .val (.int x2), .val (.int x3), .val (.ref b568), .val (.ref b570), .val (.int kk215), .val (.int (own_g els107 (0 : Int32))), .val (.int (own_g els107 (1 : Int32))), .unset, .unset, .unset, .unset, .unset]) rfl k_) ?_
                  show own_Goes p e below (T603.setTop (mkF m 231 #[.val (.int q0), .val (.int q1), .val (.int q2), .val (.int q3), .val (.int q4), .val (.int n), .val (.int x0), .val (.int x1), .val (.int x2), .val (.int x3), .val (.ref b568), .val (.ref b570), .val (.int kk215), .val (.int (own_g els107 (0 : Int32))), .val (.int (own_g els107 (1 : Int32))), .unset, .unset, .unset, .unset, .unset] [])) (G_own_law Z q0 q1 q2 q3 q4 h0 n0 s)
                  refine own_go (fun _ k_ => XS.aload X603.here hx rfl (hb hby at_231) rfl rfl k_) ?_
                  show own_Goes p e below (T603.setTop (mkF m 233 #[.val (.int q0), .val (.int q1), .val (.int q2), .val (.int q3), .val (.int q4), .val (.int n), .val (.int x0), .val (.int x1), .val (.int x2), .val (.int x3), .val (.ref b568), .val (.ref b570), .val (.int kk215), .val (.int (own_g els107 (0 : Int32))), .val (.int (own_g els107 (1 : Int32))), .unset, .unset, .unset, .unset, .unset] [(.ref b570)])) (G_own_law Z q0 q1 q2 q3 q4 h0 n0 s)
                  refine own_go (fun _ k_ => XS.iconst X603.here hx rfl (hb hby at_233) k_) ?_
                  show own_Goes p e below (T603.setTop (mkF m 234 #[.val (.int q0), .val (.int q1), .val (.int q2), .val (.int q3), .val (.int q4), .val (.int n), .val (.int x0), .val (.int x1), .val (.int x2), .val (.int x3), .val (.ref b568), .val (.ref b570), .val (.int kk215), .val (.int (own_g els107 (0 : Int32))), .val (.int (own_g els107 (1 : Int32))), .unset, .unset, .unset, .unset, .unset] [(.int (2 : Int32)), (.ref b570)])) (G_own_law Z q0 q1 q2 q3 q4 h0 n0 s)
                  obtain ⟨cq604, kq604, q604a, q604b, q604c⟩ := isOf hZ e603 f601_1
                  obtain ⟨_, _, ⟨T604, L604, k604, n604⟩, -, X604, ⟨Lc604, hQ604, l604, y604, z604⟩, st604⟩ := X603.virtualBack hx (y := (⟨"com/example/trim_chain/trimchain/engine/Partition", "element", "(I)I"⟩ : MethodName)) (z := (⟨"com/example/trim_chain/trimchain/engine/Partition", "element", "(I)I"⟩ : MethodName)) hown (mvT hZ (hw _ (List.mem_of_getElem? (i := 27) rfl))) (mvT hZ (hw _ (List.mem_of_getElem? (i := 28) rfl))) (notFace_of_selects (args := #[]) (mvT hZ (hw _ (List.mem_of_getElem? (i := 30) rfl)))) (mvT hZ (hw _ (List.mem_of_getElem? (i := 30) rfl))) (mvT hZ (hw _ (List.mem_of_getElem? (i := 29) rfl))) (by decide) (backOf (W := 0) (own_elM l Z a0 hw [] b570 (2 : Int32) ae ke els107 h601 n0 Z601 f601_2 f601_3 (by decide)) hZ (hw _ (List.mem_of_getElem? (i := 31) rfl)) (hw _ (List.mem_of_getElem? (i := 4) rfl)) (by decide) (by decide)) q604a q604c (g := (mkF m 234 #[.val (.int q0), .val (.int q1), .val (.int q2), .val (.int q3), .val (.int q4), .val (.int n), .val (.int x0), .val (.int x1), .val (.int x2), .val (.int x3), .val (.ref b568), .val (.ref b570), .val (.int kk215), .val (.int (own_g els107 (0 : Int32))), .val (.int (own_g els107 (1 : Int32))), .unset, .unset, .unset, .unset, .unset] [(.int (2 : Int32)), (.ref b570)])) rfl (by rw [hml]; rfl) (Steps.refl _) (argsL := [(.int (2 : Int32))]) (rest := []) (lenOf own_pd2 rfl) rfl (by show 2 * 0 + _ ≤ _; exact Nat.le_of_eq rfl) (hb hby at_234) (fun _ _ => ⟨rfl, e603, (by decide : 9 + 0 ≤ _), (by decide : 48 + 0 ≤ _)⟩)
                  dsimp only [Pt.U, Pt.locs, Pt.cells, Pt.slots] at X604 l604 y604 z604 st604 hQ604
                  subst l604 y604 z604
                  obtain ⟨rfl, N604q, e604⟩ := hQ604
                  have N604 := Fr.app N603 N604q
                  refine own_go (fun _ k_ => st604.trans k_) ?_
                  show own_Goes p e below (T604.setTop (mkF m 237 #[.val (.int q0), .val (.int q1), .val (.int q2), .val (.int q3), .val (.int q4), .val (.int n), .val (.int x0), .val (.int x1), .val (.int x2), .val (.int x3), .val (.ref b568), .val (.ref b570), .val (.int kk215), .val (.int (own_g els107 (0 : Int32))), .val (.int (own_g els107 (1 : Int32))), .unset, .unset, .unset, .unset, .unset] [(.int (own_g els107 (2 : Int32)))])) (G_own_law Z q0 q1 q2 q3 q4 h0 n0 s)
                  refine own_go (fun _ k_ => XS.istore X604.here hx rfl (hb hby at_237) rfl (l' := #[.val (.int q0), .val (.int q1), .val (.int q2), .val (.int q3), .val (.int q4), .val (.int n), .val (.int x0), .val (.int x1), .val (.int x2), .val (.int x3), .val (.ref b568), .val (.ref b570), .val (.int kk215), .val (.int (own_g els107 (0 : Int32))), .val (.int (own_g els107 (1 : Int32))), .val (.int (own_g els107 (2 : Int32))), .unset, .unset, .unset, .unset]) rfl k_) ?_
                  show own_Goes p e below (T604.setTop (mkF m 239 #[.val (.int q0), .val (.int q1), .val (.int q2), .val (.int q3), .val (.int q4), .val (.int n), .val (.int x0), .val (.int x1), .val (.int x2), .val (.int x3), .val (.ref b568), .val (.ref b570), .val (.int kk215), .val (.int (own_g els107 (0 : Int32))), .val (.int (own_g els107 (1 : Int32))), .val (.int (own_g els107 (2 : Int32))), .unset, .unset, .unset, .unset] [])) (G_own_law Z q0 q1 q2 q3 q4 h0 n0 s)
                  refine own_go (fun _ k_ => XS.aload X604.here hx rfl (hb hby at_239) rfl rfl k_) ?_
                  show own_Goes p e below (T604.setTop (mkF m 241 #[.val (.int q0), .val (.int q1), .val (.int q2), .val (.int q3), .val (.int q4), .val (.int n), .val (.int x0), .val (.int x1), .val (.int x2), .val (.int x3), .val (.ref b568), .val (.ref b570), .val (.int kk215), .val (.int (own_g els107 (0 : Int32))), .val (.int (own_g els107 (1 : Int32))), .val (.int (own_g els107 (2 : Int32))), .unset, .unset, .unset, .unset] [(.ref b570)])) (G_own_law Z q0 q1 q2 q3 q4 h0 n0 s)
                  refine own_go (fun _ k_ => XS.iconst X604.here hx rfl (hb hby at_241) k_) ?_
                  show own_Goes p e below (T604.setTop (mkF m 242 #[.val (.int q0), .val (.int q1), .val (.int q2), .val (.int q3), .val (.int q4), .val (.int n), .val (.int x0), .val (.int x1), .val (.int x2), .val (.int x3), .val (.ref b568), .val (.ref b570), .val (.int kk215), .val (.int (own_g els107 (0 : Int32))), .val (.int (own_g els107 (1 : Int32))), .val (.int (own_g els107 (2 : Int32))), .unset, .unset, .unset, .unset] [(.int (3 : Int32)), (.ref b570)])) (G_own_law Z q0 q1 q2 q3 q4 h0 n0 s)
                  obtain ⟨cq605, kq605, q605a, q605b, q605c⟩ := isOf hZ e604 f601_1
                  obtain ⟨_, _, ⟨T605, L605, k605, n605⟩, -, X605, ⟨Lc605, hQ605, l605, y605, z605⟩, st605⟩ := X604.virtualBack hx (y := (⟨"com/example/trim_chain/trimchain/engine/Partition", "element", "(I)I"⟩ : MethodName)) (z := (⟨"com/example/trim_chain/trimchain/engine/Partition", "element", "(I)I"⟩ : MethodName)) hown (mvT hZ (hw _ (List.mem_of_getElem? (i := 27) rfl))) (mvT hZ (hw _ (List.mem_of_getElem? (i := 28) rfl))) (notFace_of_selects (args := #[]) (mvT hZ (hw _ (List.mem_of_getElem? (i := 30) rfl)))) (mvT hZ (hw _ (List.mem_of_getElem? (i := 30) rfl))) (mvT hZ (hw _ (List.mem_of_getElem? (i := 29) rfl))) (by decide) (backOf (W := 0) (own_elM l Z a0 hw [] b570 (3 : Int32) ae ke els107 h601 n0 Z601 f601_2 f601_3 (by decide)) hZ (hw _ (List.mem_of_getElem? (i := 31) rfl)) (hw _ (List.mem_of_getElem? (i := 4) rfl)) (by decide) (by decide)) q605a q605c (g := (mkF m 242 #[.val (.int q0), .val (.int q1), .val (.int q2), .val (.int q3), .val (.int q4), .val (.int n), .val (.int x0), .val (.int x1), .val (.int x2), .val (.int x3), .val (.ref b568), .val (.ref b570), .val (.int kk215), .val (.int (own_g els107 (0 : Int32))), .val (.int (own_g els107 (1 : Int32))), .val (.int (own_g els107 (2 : Int32))), .unset, .unset, .unset, .unset] [(.int (3 : Int32)), (.ref b570)])) rfl (by rw [hml]; rfl) (Steps.refl _) (argsL := [(.int (3 : Int32))]) (rest := []) (lenOf own_pd2 rfl) rfl (by show 2 * 0 + _ ≤ _; exact Nat.le_of_eq rfl) (hb hby at_242) (fun _ _ => ⟨rfl, e604, (by decide : 9 + 0 ≤ _), (by decide : 48 + 0 ≤ _)⟩)
                  dsimp only [Pt.U, Pt.locs, Pt.cells, Pt.slots] at X605 l605 y605 z605 st605 hQ605
                  subst l605 y605 z605
                  obtain ⟨rfl, N605q, e605⟩ := hQ605
                  have N605 := Fr.app N604 N605q
                  refine own_go (fun _ k_ => st605.trans k_) ?_
                  show own_Goes p e below (T605.setTop (mkF m 245 #[.val (.int q0), .val (.int q1), .val (.int q2), .val (.int q3), .val (.int q4), .val (.int n), .val (.int x0), .val (.int x1), .val (.int x2), .val (.int x3), .val (.ref b568), .val (.ref b570), .val (.int kk215), .val (.int (own_g els107 (0 : Int32))), .val (.int (own_g els107 (1 : Int32))), .val (.int (own_g els107 (2 : Int32))), .unset, .unset, .unset, .unset] [(.int (own_g els107 (3 : Int32)))])) (G_own_law Z q0 q1 q2 q3 q4 h0 n0 s)
                  refine own_go (fun _ k_ => XS.istore X605.here hx rfl (hb hby at_245) rfl (l' := #[.val (.int q0), .val (.int q1), .val (.int q2), .val (.int q3), .val (.int q4), .val (.int n), .val (.int x0), .val (.int x1), .val (.int x2), .val (.int x3), .val (.ref b568), .val (.ref b570), .val (.int kk215), .val (.int (own_g els107 (0 : Int32))), .val (.int (own_g els107 (1 : Int32))), .val (.int (own_g els107 (2 : Int32))), .val (.int (own_g els107 (3 : Int32))), .unset, .unset, .unset]) rfl k_) ?_
                  show own_Goes p e below (T605.setTop (mkF m 247 #[.val (.int q0), .val (.int q1), .val (.int q2), .val (.int q3), .val (.int q4), .val (.int n), .val (.int x0), .val (.int x1), .val (.int x2), .val (.int x3), .val (.ref b568), .val (.ref b570), .val (.int kk215), .val (.int (own_g els107 (0 : Int32))), .val (.int (own_g els107 (1 : Int32))), .val (.int (own_g els107 (2 : Int32))), .val (.int (own_g els107 (3 : Int32))), .unset, .unset, .unset] [])) (G_own_law Z q0 q1 q2 q3 q4 h0 n0 s)
                  refine own_go (fun _ k_ => XS.aload X605.here hx rfl (hb hby at_247) rfl rfl k_) ?_
                  show own_Goes p e below (T605.setTop (mkF m 249 #[.val (.int q0), .val (.int q1), .val (.int q2), .val (.int q3), .val (.int q4), .val (.int n), .val (.int x0), .val (.int x1), .val (.int x2), .val (.int x3), .val (.ref b568), .val (.ref b570), .val (.int kk215), .val (.int (own_g els107 (0 : Int32))), .val (.int (own_g els107 (1 : Int32))), .val (.int (own_g els107 (2 : Int32))), .val (.int (own_g els107 (3 : Int32))), .unset, .unset, .unset] [(.ref b570)])) (G_own_law Z q0 q1 q2 q3 q4 h0 n0 s)
                  refine own_go (fun _ k_ => XS.iconst X605.here hx rfl (hb hby at_249) k_) ?_
                  show own_Goes p e below (T605.setTop (mkF m 250 #[.val (.int q0), .val (.int q1), .val (.int q2), .val (.int q3), .val (.int q4), .val (.int n), .val (.int x0), .val (.int x1), .val (.int x2), .val (.int x3), .val (.ref b568), .val (.ref b570), .val (.int kk215), .val (.int (own_g els107 (0 : Int32))), .val (.int (own_g els107 (1 : Int32))), .val (.int (own_g els107 (2 : Int32))), .val (.int (own_g els107 (3 : Int32))), .unset, .unset, .unset] [(.int (4 : Int32)), (.ref b570)])) (G_own_law Z q0 q1 q2 q3 q4 h0 n0 s)
                  obtain ⟨cq606, kq606, q606a, q606b, q606c⟩ := isOf hZ e605 f601_1
                  obtain ⟨_, _, ⟨T606, L606, k606, n606⟩, -, X606, ⟨Lc606, hQ606, l606, y606, z606⟩, st606⟩ := X605.virtualBack hx (y := (⟨"com/example/trim_chain/trimchain/engine/Partition", "element", "(I)I"⟩ : MethodName)) (z := (⟨"com/example/trim_chain/trimchain/engine/Partition", "element", "(I)I"⟩ : MethodName)) hown (mvT hZ (hw _ (List.mem_of_getElem? (i := 27) rfl))) (mvT hZ (hw _ (List.mem_of_getElem? (i := 28) rfl))) (notFace_of_selects (args := #[]) (mvT hZ (hw _ (List.mem_of_getElem? (i := 30) rfl)))) (mvT hZ (hw _ (List.mem_of_getElem? (i := 30) rfl))) (mvT hZ (hw _ (List.mem_of_getElem? (i := 29) rfl))) (by decide) (backOf (W := 0) (own_elM l Z a0 hw [] b570 (4 : Int32) ae ke els107 h601 n0 Z601 f601_2 f601_3 (by decide)) hZ (hw _ (List.mem_of_getElem? (i := 31) rfl)) (hw _ (List.mem_of_getElem? (i := 4) rfl)) (by decide) (by decide)) q606a q606c (g := (mkF m 250 #[.val (.int q0), .val (.int q1), .val (.int q2), .val (.int q3), .val (.int q4), .val (.int n), .val (.int x0), .val (.int x1), .val (.int x2), .val (.int x3), .val (.ref b568), .val (.ref b570), .val (.int kk215), .val (.int (own_g els107 (0 : Int32))), .val (.int (own_g els107 (1 : Int32))), .val (.int (own_g els107 (2 : Int32))), .val (.int (own_g els107 (3 : Int32))), .unset, .unset, .unset] [(.int (4 : Int32)), (.ref b570)])) rfl (by rw [hml]; rfl) (Steps.refl _) (argsL := [(.int (4 : Int32))]) (rest := []) (lenOf own_pd2 rfl) rfl (by show 2 * 0 + _ ≤ _; exact Nat.le_of_eq rfl) (hb hby at_250) (fun _ _ => ⟨rfl, e605, (by decide : 9 + 0 ≤ _), (by decide : 48 + 0 ≤ _)⟩)
                  dsimp only [Pt.U, Pt.locs, Pt.cells, Pt.slots] at X606 l606 y606 z606 st606 hQ606
                  subst l606 y606 z606
                  obtain ⟨rfl, N606q, e606⟩ := hQ606
                  have N606 := Fr.app N605 N606q
                  refine own_go (fun _ k_ => st606.trans k_) ?_
                  show own_Goes p e below (T606.setTop (mkF m 253 #[.val (.int q0), .val (.int q1), .val (.int q2), .val (.int q3), .val (.int q4), .val (.int n), .val (.int x0), .val (.int x1), .val (.int x2), .val (.int x3), .val (.ref b568), .val (.ref b570), .val (.int kk215), .val (.int (own_g els107 (0 : Int32))), .val (.int (own_g els107 (1 : Int32))), .val (.int (own_g els107 (2 : Int32))), .val (.int (own_g els107 (3 : Int32))), .unset, .unset, .unset] [(.int (own_g els107 (4 : Int32)))])) (G_own_law Z q0 q1 q2 q3 q4 h0 n0 s)
                  refine own_go (fun _ k_ => XS.istore X606.here hx rfl (hb hby at_253) rfl (l' := #[.val (.int q0), .val (.int q1), .val (.int q2), .val (.int q3), .val (.int q4), .val (.int n), .val (.int x0), .val (.int x1), .val (.int x2), .val (.int x3), .val (.ref b568), .val (.ref b570), .val (.int kk215), .val (.int (own_g els107 (0 : Int32))), .val (.int (own_g els107 (1 : Int32))), .val (.int (own_g els107 (2 : Int32))), .val (.int (own_g els107 (3 : Int32))), .val (.int (own_g els107 (4 : Int32))), .unset, .unset]) rfl k_) ?_
                  show own_Goes p e below (T606.setTop (mkF m 255 #[.val (.int q0), .val (.int q1), .val (.int q2), .val (.int q3), .val (.int q4), .val (.int n), .val (.int x0), .val (.int x1), .val (.int x2), .val (.int x3), .val (.ref b568), .val (.ref b570), .val (.int kk215), .val (.int (own_g els107 (0 : Int32))), .val (.int (own_g els107 (1 : Int32))), .val (.int (own_g els107 (2 : Int32))), .val (.int (own_g els107 (3 : Int32))), .val (.int (own_g els107 (4 : Int32))), .unset, .unset] [])) (G_own_law Z q0 q1 q2 q3 q4 h0 n0 s)
                  refine own_go (fun _ k_ => XS.iload X606.here hx rfl (hb hby at_255) rfl k_) ?_
                  show own_Goes p e below (T606.setTop (mkF m 257 #[.val (.int q0), .val (.int q1), .val (.int q2), .val (.int q3), .val (.int q4), .val (.int n), .val (.int x0), .val (.int x1), .val (.int x2), .val (.int x3), .val (.ref b568), .val (.ref b570), .val (.int kk215), .val (.int (own_g els107 (0 : Int32))), .val (.int (own_g els107 (1 : Int32))), .val (.int (own_g els107 (2 : Int32))), .val (.int (own_g els107 (3 : Int32))), .val (.int (own_g els107 (4 : Int32))), .unset, .unset] [(.int (own_g els107 (0 : Int32)))])) (G_own_law Z q0 q1 q2 q3 q4 h0 n0 s)
                  obtain ⟨_, _, ⟨T607, L607, k607, n607⟩, -, X607, ⟨Lc607, hQ607, l607, y607, z607⟩, st607⟩ := Jvm.LawKit.callS X606 hx (y := (⟨"com/example/trim_chain/trimchain/engine/PartitionMarkPinLaw", "bit", "(I)I"⟩ : MethodName)) hown (mvT hZ (hw _ (List.mem_of_getElem? (i := 32) rfl))) (mvT hZ (hw _ (List.mem_of_getElem? (i := 33) rfl))) (mvT hZ (hw _ (List.mem_of_getElem? (i := 34) rfl))) (mvT hZ (hw _ (List.mem_of_getElem? (i := 35) rfl))) (by decide) (backOf (W := 0) (own_bitM l Z a0 hw [] (own_g els107 (0 : Int32)) h601 n0 Z601 ) hZ (hw _ (List.mem_of_getElem? (i := 35) rfl)) (hw _ (List.mem_of_getElem? (i := 34) rfl)) (by decide) (by decide)) (g := (mkF m 257 #[.val (.int q0), .val (.int q1), .val (.int q2), .val (.int q3), .val (.int q4), .val (.int n), .val (.int x0), .val (.int x1), .val (.int x2), .val (.int x3), .val (.ref b568), .val (.ref b570), .val (.int kk215), .val (.int (own_g els107 (0 : Int32))), .val (.int (own_g els107 (1 : Int32))), .val (.int (own_g els107 (2 : Int32))), .val (.int (own_g els107 (3 : Int32))), .val (.int (own_g els107 (4 : Int32))), .unset, .unset] [(.int (own_g els107 (0 : Int32)))])) rfl (by rw [hml]; rfl) (argsL := [(.int (own_g els107 (0 : Int32)))]) (rest := []) (lenOf own_pd2 rfl) rfl (by show 2 * 0 + _ ≤ _; exact Nat.le_of_eq rfl) (hb hby at_257) (fun _ _ => ⟨rfl, e606, (by decide : 9 + 0 ≤ _), (by decide : 48 + 0 ≤ _)⟩)
                  dsimp only [Pt.U, Pt.locs, Pt.cells, Pt.slots] at X607 l607 y607 z607 st607 hQ607
                  subst l607 y607 z607
                  obtain ⟨rfl, N607q, e607⟩ := hQ607
                  have N607 := Fr.app N606 N607q
                  refine own_go st607 ?_
                  show own_Goes p e below (T607.setTop (mkF m 260 #[.val (.int q0), .val (.int q1), .val (.int q2), .val (.int q3), .val (.int q4), .val (.int n), .val (.int x0), .val (.int x1), .val (.int x2), .val (.int x3), .val (.ref b568), .val (.ref b570), .val (.int kk215), .val (.int (own_g els107 (0 : Int32))), .val (.int (own_g els107 (1 : Int32))), .val (.int (own_g els107 (2 : Int32))), .val (.int (own_g els107 (3 : Int32))), .val (.int (own_g els107 (4 : Int32))), .unset, .unset] [(.int (own_bit (own_g els107 (0 : Int32))))])) (G_own_law Z q0 q1 q2 q3 q4 h0 n0 s)
                  refine own_go (fun _ k_ => XS.iload X607.here hx rfl (hb hby at_260) rfl k_) ?_
                  show own_Goes p e below (T607.setTop (mkF m 262 #[.val (.int q0), .val (.int q1), .val (.int q2), .val (.int q3), .val (.int q4), .val (.int n), .val (.int x0), .val (.int x1), .val (.int x2), .val (.int x3), .val (.ref b568), .val (.ref b570), .val (.int kk215), .val (.int (own_g els107 (0 : Int32))), .val (.int (own_g els107 (1 : Int32))), .val (.int (own_g els107 (2 : Int32))), .val (.int (own_g els107 (3 : Int32))), .val (.int (own_g els107 (4 : Int32))), .unset, .unset] [(.int (own_g els107 (1 : Int32))), (.int (own_bit (own_g els107 (0 : Int32))))])) (G_own_law Z q0 q1 q2 q3 q4 h0 n0 s)
                  obtain ⟨_, _, ⟨T608, L608, k608, n608⟩, -, X608, ⟨Lc608, hQ608, l608, y608, z608⟩, st608⟩ := Jvm.LawKit.callS X607 hx (y := (⟨"com/example/trim_chain/trimchain/engine/PartitionMarkPinLaw", "bit", "(I)I"⟩ : MethodName)) hown (mvT hZ (hw _ (List.mem_of_getElem? (i := 32) rfl))) (mvT hZ (hw _ (List.mem_of_getElem? (i := 33) rfl))) (mvT hZ (hw _ (List.mem_of_getElem? (i := 34) rfl))) (mvT hZ (hw _ (List.mem_of_getElem? (i := 35) rfl))) (by decide) (backOf (W := 1) (own_bitM l Z a0 hw [] (own_g els107 (1 : Int32)) h601 n0 Z601 ) hZ (hw _ (List.mem_of_getElem? (i := 35) rfl)) (hw _ (List.mem_of_getElem? (i := 34) rfl)) (by decide) (by decide)) (g := (mkF m 262 #[.val (.int q0), .val (.int q1), .val (.int q2), .val (.int q3), .val (.int q4), .val (.int n), .val (.int x0), .val (.int x1), .val (.int x2), .val (.int x3), .val (.ref b568), .val (.ref b570), .val (.int kk215), .val (.int (own_g els107 (0 : Int32))), .val (.int (own_g els107 (1 : Int32))), .val (.int (own_g els107 (2 : Int32))), .val (.int (own_g els107 (3 : Int32))), .val (.int (own_g els107 (4 : Int32))), .unset, .unset] [(.int (own_g els107 (1 : Int32))), (.int (own_bit (own_g els107 (0 : Int32))))])) rfl (by rw [hml]; rfl) (argsL := [(.int (own_g els107 (1 : Int32)))]) (rest := [(.int (own_bit (own_g els107 (0 : Int32))))]) (lenOf own_pd2 rfl) rfl (by show 2 * 0 + _ ≤ _; exact Nat.le_of_eq rfl) (hb hby at_262) (fun _ _ => ⟨rfl, e607, (by decide : 9 + 0 ≤ _), (by decide : 48 + 0 ≤ _)⟩)
                  dsimp only [Pt.U, Pt.locs, Pt.cells, Pt.slots] at X608 l608 y608 z608 st608 hQ608
                  subst l608 y608 z608
                  obtain ⟨rfl, N608q, e608⟩ := hQ608
                  have N608 := Fr.app N607 N608q
                  refine own_go st608 ?_
                  show own_Goes p e below (T608.setTop (mkF m 265 #[.val (.int q0), .val (.int q1), .val (.int q2), .val (.int q3), .val (.int q4), .val (.int n), .val (.int x0), .val (.int x1), .val (.int x2), .val (.int x3), .val (.ref b568), .val (.ref b570), .val (.int kk215), .val (.int (own_g els107 (0 : Int32))), .val (.int (own_g els107 (1 : Int32))), .val (.int (own_g els107 (2 : Int32))), .val (.int (own_g els107 (3 : Int32))), .val (.int (own_g els107 (4 : Int32))), .unset, .unset] [(.int (own_bit (own_g els107 (1 : Int32)))), (.int (own_bit (own_g els107 (0 : Int32))))])) (G_own_law Z q0 q1 q2 q3 q4 h0 n0 s)
                  refine own_go (fun _ k_ => XS.ior X608.here hx rfl (hb hby at_265) rfl k_) ?_
                  show own_Goes p e below (T608.setTop (mkF m 266 #[.val (.int q0), .val (.int q1), .val (.int q2), .val (.int q3), .val (.int q4), .val (.int n), .val (.int x0), .val (.int x1), .val (.int x2), .val (.int x3), .val (.ref b568), .val (.ref b570), .val (.int kk215), .val (.int (own_g els107 (0 : Int32))), .val (.int (own_g els107 (1 : Int32))), .val (.int (own_g els107 (2 : Int32))), .val (.int (own_g els107 (3 : Int32))), .val (.int (own_g els107 (4 : Int32))), .unset, .unset] [(.int ((own_bit (own_g els107 (0 : Int32))) ||| (own_bit (own_g els107 (1 : Int32)))))])) (G_own_law Z q0 q1 q2 q3 q4 h0 n0 s)
                  refine own_go (fun _ k_ => XS.iload X608.here hx rfl (hb hby at_266) rfl k_) ?_
                  show own_Goes p e below (T608.setTop (mkF m 268 #[.val (.int q0), .val (.int q1), .val (.int q2), .val (.int q3), .val (.int q4), .val (.int n), .val (.int x0), .val (.int x1), .val (.int x2), .val (.int x3), .val (.ref b568), .val (.ref b570), .val (.int kk215), .val (.int (own_g els107 (0 : Int32))), .val (.int (own_g els107 (1 : Int32))), .val (.int (own_g els107 (2 : Int32))), .val (.int (own_g els107 (3 : Int32))), .val (.int (own_g els107 (4 : Int32))), .unset, .unset] [(.int (own_g els107 (2 : Int32))), (.int ((own_bit (own_g els107 (0 : Int32))) ||| (own_bit (own_g els107 (1 : Int32)))))])) (G_own_law Z q0 q1 q2 q3 q4 h0 n0 s)
                  obtain ⟨_, _, ⟨T609, L609, k609, n609⟩, -, X609, ⟨Lc609, hQ609, l609, y609, z609⟩, st609⟩ := Jvm.LawKit.callS X608 hx (y := (⟨"com/example/trim_chain/trimchain/engine/PartitionMarkPinLaw", "bit", "(I)I"⟩ : MethodName)) hown (mvT hZ (hw _ (List.mem_of_getElem? (i := 32) rfl))) (mvT hZ (hw _ (List.mem_of_getElem? (i := 33) rfl))) (mvT hZ (hw _ (List.mem_of_getElem? (i := 34) rfl))) (mvT hZ (hw _ (List.mem_of_getElem? (i := 35) rfl))) (by decide) (backOf (W := 1) (own_bitM l Z a0 hw [] (own_g els107 (2 : Int32)) h601 n0 Z601 ) hZ (hw _ (List.mem_of_getElem? (i := 35) rfl)) (hw _ (List.mem_of_getElem? (i := 34) rfl)) (by decide) (by decide)) (g := (mkF m 268 #[.val (.int q0), .val (.int q1), .val (.int q2), .val (.int q3), .val (.int q4), .val (.int n), .val (.int x0), .val (.int x1), .val (.int x2), .val (.int x3), .val (.ref b568), .val (.ref b570), .val (.int kk215), .val (.int (own_g els107 (0 : Int32))), .val (.int (own_g els107 (1 : Int32))), .val (.int (own_g els107 (2 : Int32))), .val (.int (own_g els107 (3 : Int32))), .val (.int (own_g els107 (4 : Int32))), .unset, .unset] [(.int (own_g els107 (2 : Int32))), (.int ((own_bit (own_g els107 (0 : Int32))) ||| (own_bit (own_g els107 (1 : Int32)))))])) rfl (by rw [hml]; rfl) (argsL := [(.int (own_g els107 (2 : Int32)))]) (rest := [(.int ((own_bit (own_g els107 (0 : Int32))) ||| (own_bit (own_g els107 (1 : Int32)))))]) (lenOf own_pd2 rfl) rfl (by show 2 * 0 + _ ≤ _; exact Nat.le_of_eq rfl) (hb hby at_268) (fun _ _ => ⟨rfl, e608, (by decide : 9 + 0 ≤ _), (by decide : 48 + 0 ≤ _)⟩)
                  dsimp only [Pt.U, Pt.locs, Pt.cells, Pt.slots] at X609 l609 y609 z609 st609 hQ609
                  subst l609 y609 z609
                  obtain ⟨rfl, N609q, e609⟩ := hQ609
                  have N609 := Fr.app N608 N609q
                  refine own_go st609 ?_
                  show own_Goes p e below (T609.setTop (mkF m 271 #[.val (.int q0), .val (.int q1), .val (.int q2), .val (.int q3), .val (.int q4), .val (.int n), .val (.int x0), .val (.int x1), .val (.int x2), .val (.int x3), .val (.ref b568), .val (.ref b570), .val (.int kk215), .val (.int (own_g els107 (0 : Int32))), .val (.int (own_g els107 (1 : Int32))), .val (.int (own_g els107 (2 : Int32))), .val (.int (own_g els107 (3 : Int32))), .val (.int (own_g els107 (4 : Int32))), .unset, .unset] [(.int (own_bit (own_g els107 (2 : Int32)))), (.int ((own_bit (own_g els107 (0 : Int32))) ||| (own_bit (own_g els107 (1 : Int32)))))])) (G_own_law Z q0 q1 q2 q3 q4 h0 n0 s)
                  refine own_go (fun _ k_ => XS.ior X609.here hx rfl (hb hby at_271) rfl k_) ?_
                  show own_Goes p e below (T609.setTop (mkF m 272 #[.val (.int q0), .val (.int q1), .val (.int q2), .val (.int q3), .val (.int q4), .val (.int n), .val (.int x0), .val (.int x1), .val (.int x2), .val (.int x3), .val (.ref b568), .val (.ref b570), .val (.int kk215), .val (.int (own_g els107 (0 : Int32))), .val (.int (own_g els107 (1 : Int32))), .val (.int (own_g els107 (2 : Int32))), .val (.int (own_g els107 (3 : Int32))), .val (.int (own_g els107 (4 : Int32))), .unset, .unset] [(.int (((own_bit (own_g els107 (0 : Int32))) ||| (own_bit (own_g els107 (1 : Int32)))) ||| (own_bit (own_g els107 (2 : Int32)))))])) (G_own_law Z q0 q1 q2 q3 q4 h0 n0 s)
                  refine own_go (fun _ k_ => XS.iload X609.here hx rfl (hb hby at_272) rfl k_) ?_
                  show own_Goes p e below (T609.setTop (mkF m 274 #[.val (.int q0), .val (.int q1), .val (.int q2), .val (.int q3), .val (.int q4), .val (.int n), .val (.int x0), .val (.int x1), .val (.int x2), .val (.int x3), .val (.ref b568), .val (.ref b570), .val (.int kk215), .val (.int (own_g els107 (0 : Int32))), .val (.int (own_g els107 (1 : Int32))), .val (.int (own_g els107 (2 : Int32))), .val (.int (own_g els107 (3 : Int32))), .val (.int (own_g els107 (4 : Int32))), .unset, .unset] [(.int (own_g els107 (3 : Int32))), (.int (((own_bit (own_g els107 (0 : Int32))) ||| (own_bit (own_g els107 (1 : Int32)))) ||| (own_bit (own_g els107 (2 : Int32)))))])) (G_own_law Z q0 q1 q2 q3 q4 h0 n0 s)
                  obtain ⟨_, _, ⟨T610, L610, k610, n610⟩, -, X610, ⟨Lc610, hQ610, l610, y610, z610⟩, st610⟩ := Jvm.LawKit.callS X609 hx (y := (⟨"com/example/trim_chain/trimchain/engine/PartitionMarkPinLaw", "bit", "(I)I"⟩ : MethodName)) hown (mvT hZ (hw _ (List.mem_of_getElem? (i := 32) rfl))) (mvT hZ (hw _ (List.mem_of_getElem? (i := 33) rfl))) (mvT hZ (hw _ (List.mem_of_getElem? (i := 34) rfl))) (mvT hZ (hw _ (List.mem_of_getElem? (i := 35) rfl))) (by decide) (backOf (W := 1) (own_bitM l Z a0 hw [] (own_g els107 (3 : Int32)) h601 n0 Z601 ) hZ (hw _ (List.mem_of_getElem? (i := 35) rfl)) (hw _ (List.mem_of_getElem? (i := 34) rfl)) (by decide) (by decide)) (g := (mkF m 274 #[.val (.int q0), .val (.int q1), .val (.int q2), .val (.int q3), .val (.int q4), .val (.int n), .val (.int x0), .val (.int x1), .val (.int x2), .val (.int x3), .val (.ref b568), .val (.ref b570), .val (.int kk215), .val (.int (own_g els107 (0 : Int32))), .val (.int (own_g els107 (1 : Int32))), .val (.int (own_g els107 (2 : Int32))), .val (.int (own_g els107 (3 : Int32))), .val (.int (own_g els107 (4 : Int32))), .unset, .unset] [(.int (own_g els107 (3 : Int32))), (.int (((own_bit (own_g els107 (0 : Int32))) ||| (own_bit (own_g els107 (1 : Int32)))) ||| (own_bit (own_g els107 (2 : Int32)))))])) rfl (by rw [hml]; rfl) (argsL := [(.int (own_g els107 (3 : Int32)))]) (rest := [(.int (((own_bit (own_g els107 (0 : Int32))) ||| (own_bit (own_g els107 (1 : Int32)))) ||| (own_bit (own_g els107 (2 : Int32)))))]) (lenOf own_pd2 rfl) rfl (by show 2 * 0 + _ ≤ _; exact Nat.le_of_eq rfl) (hb hby at_274) (fun _ _ => ⟨rfl, e609, (by decide : 9 + 0 ≤ _), (by decide : 48 + 0 ≤ _)⟩)
                  dsimp only [Pt.U, Pt.locs, Pt.cells, Pt.slots] at X610 l610 y610 z610 st610 hQ610
                  subst l610 y610 z610
                  obtain ⟨rfl, N610q, e610⟩ := hQ610
                  have N610 := Fr.app N609 N610q
                  refine own_go st610 ?_
                  show own_Goes p e below (T610.setTop (mkF m 277 #[.val (.int q0), .val (.int q1), .val (.int q2), .val (.int q3), .val (.int q4), .val (.int n), .val (.int x0), .val (.int x1), .val (.int x2), .val (.int x3), .val (.ref b568), .val (.ref b570), .val (.int kk215), .val (.int (own_g els107 (0 : Int32))), .val (.int (own_g els107 (1 : Int32))), .val (.int (own_g els107 (2 : Int32))), .val (.int (own_g els107 (3 : Int32))), .val (.int (own_g els107 (4 : Int32))), .unset, .unset] [(.int (own_bit (own_g els107 (3 : Int32)))), (.int (((own_bit (own_g els107 (0 : Int32))) ||| (own_bit (own_g els107 (1 : Int32)))) ||| (own_bit (own_g els107 (2 : Int32)))))])) (G_own_law Z q0 q1 q2 q3 q4 h0 n0 s)
                  refine own_go (fun _ k_ => XS.ior X610.here hx rfl (hb hby at_277) rfl k_) ?_
                  show own_Goes p e below (T610.setTop (mkF m 278 #[.val (.int q0), .val (.int q1), .val (.int q2), .val (.int q3), .val (.int q4), .val (.int n), .val (.int x0), .val (.int x1), .val (.int x2), .val (.int x3), .val (.ref b568), .val (.ref b570), .val (.int kk215), .val (.int (own_g els107 (0 : Int32))), .val (.int (own_g els107 (1 : Int32))), .val (.int (own_g els107 (2 : Int32))), .val (.int (own_g els107 (3 : Int32))), .val (.int (own_g els107 (4 : Int32))), .unset, .unset] [(.int ((((own_bit (own_g els107 (0 : Int32))) ||| (own_bit (own_g els107 (1 : Int32)))) ||| (own_bit (own_g els107 (2 : Int32)))) ||| (own_bit (own_g els107 (3 : Int32)))))])) (G_own_law Z q0 q1 q2 q3 q4 h0 n0 s)
                  refine own_go (fun _ k_ => XS.iload X610.here hx rfl (hb hby at_278) rfl k_) ?_
                  show own_Goes p e below (T610.setTop (mkF m 280 #[.val (.int q0), .val (.int q1), .val (.int q2), .val (.int q3), .val (.int q4), .val (.int n), .val (.int x0), .val (.int x1), .val (.int x2), .val (.int x3), .val (.ref b568), .val (.ref b570), .val (.int kk215), .val (.int (own_g els107 (0 : Int32))), .val (.int (own_g els107 (1 : Int32))), .val (.int (own_g els107 (2 : Int32))), .val (.int (own_g els107 (3 : Int32))), .val (.int (own_g els107 (4 : Int32))), .unset, .unset] [(.int (own_g els107 (4 : Int32))), (.int ((((own_bit (own_g els107 (0 : Int32))) ||| (own_bit (own_g els107 (1 : Int32)))) ||| (own_bit (own_g els107 (2 : Int32)))) ||| (own_bit (own_g els107 (3 : Int32)))))])) (G_own_law Z q0 q1 q2 q3 q4 h0 n0 s)
                  obtain ⟨_, _, ⟨T611, L611, k611, n611⟩, -, X611, ⟨Lc611, hQ611, l611, y611, z611⟩, st611⟩ := Jvm.LawKit.callS X610 hx (y := (⟨"com/example/trim_chain/trimchain/engine/PartitionMarkPinLaw", "bit", "(I)I"⟩ : MethodName)) hown (mvT hZ (hw _ (List.mem_of_getElem? (i := 32) rfl))) (mvT hZ (hw _ (List.mem_of_getElem? (i := 33) rfl))) (mvT hZ (hw _ (List.mem_of_getElem? (i := 34) rfl))) (mvT hZ (hw _ (List.mem_of_getElem? (i := 35) rfl))) (by decide) (backOf (W := 1) (own_bitM l Z a0 hw [] (own_g els107 (4 : Int32)) h601 n0 Z601 ) hZ (hw _ (List.mem_of_getElem? (i := 35) rfl)) (hw _ (List.mem_of_getElem? (i := 34) rfl)) (by decide) (by decide)) (g := (mkF m 280 #[.val (.int q0), .val (.int q1), .val (.int q2), .val (.int q3), .val (.int q4), .val (.int n), .val (.int x0), .val (.int x1), .val (.int x2), .val (.int x3), .val (.ref b568), .val (.ref b570), .val (.int kk215), .val (.int (own_g els107 (0 : Int32))), .val (.int (own_g els107 (1 : Int32))), .val (.int (own_g els107 (2 : Int32))), .val (.int (own_g els107 (3 : Int32))), .val (.int (own_g els107 (4 : Int32))), .unset, .unset] [(.int (own_g els107 (4 : Int32))), (.int ((((own_bit (own_g els107 (0 : Int32))) ||| (own_bit (own_g els107 (1 : Int32)))) ||| (own_bit (own_g els107 (2 : Int32)))) ||| (own_bit (own_g els107 (3 : Int32)))))])) rfl (by rw [hml]; rfl) (argsL := [(.int (own_g els107 (4 : Int32)))]) (rest := [(.int ((((own_bit (own_g els107 (0 : Int32))) ||| (own_bit (own_g els107 (1 : Int32)))) ||| (own_bit (own_g els107 (2 : Int32)))) ||| (own_bit (own_g els107 (3 : Int32)))))]) (lenOf own_pd2 rfl) rfl (by show 2 * 0 + _ ≤ _; exact Nat.le_of_eq rfl) (hb hby at_280) (fun _ _ => ⟨rfl, e610, (by decide : 9 + 0 ≤ _), (by decide : 48 + 0 ≤ _)⟩)
                  dsimp only [Pt.U, Pt.locs, Pt.cells, Pt.slots] at X611 l611 y611 z611 st611 hQ611
                  subst l611 y611 z611
                  obtain ⟨rfl, N611q, e611⟩ := hQ611
                  have N611 := Fr.app N610 N611q
                  refine own_go st611 ?_
                  show own_Goes p e below (T611.setTop (mkF m 283 #[.val (.int q0), .val (.int q1), .val (.int q2), .val (.int q3), .val (.int q4), .val (.int n), .val (.int x0), .val (.int x1), .val (.int x2), .val (.int x3), .val (.ref b568), .val (.ref b570), .val (.int kk215), .val (.int (own_g els107 (0 : Int32))), .val (.int (own_g els107 (1 : Int32))), .val (.int (own_g els107 (2 : Int32))), .val (.int (own_g els107 (3 : Int32))), .val (.int (own_g els107 (4 : Int32))), .unset, .unset] [(.int (own_bit (own_g els107 (4 : Int32)))), (.int ((((own_bit (own_g els107 (0 : Int32))) ||| (own_bit (own_g els107 (1 : Int32)))) ||| (own_bit (own_g els107 (2 : Int32)))) ||| (own_bit (own_g els107 (3 : Int32)))))])) (G_own_law Z q0 q1 q2 q3 q4 h0 n0 s)
                  refine own_go (fun _ k_ => XS.ior X611.here hx rfl (hb hby at_283) rfl k_) ?_
                  show own_Goes p e below (T611.setTop (mkF m 284 #[.val (.int q0), .val (.int q1), .val (.int q2), .val (.int q3), .val (.int q4), .val (.int n), .val (.int x0), .val (.int x1), .val (.int x2), .val (.int x3), .val (.ref b568), .val (.ref b570), .val (.int kk215), .val (.int (own_g els107 (0 : Int32))), .val (.int (own_g els107 (1 : Int32))), .val (.int (own_g els107 (2 : Int32))), .val (.int (own_g els107 (3 : Int32))), .val (.int (own_g els107 (4 : Int32))), .unset, .unset] [(.int (((((own_bit (own_g els107 (0 : Int32))) ||| (own_bit (own_g els107 (1 : Int32)))) ||| (own_bit (own_g els107 (2 : Int32)))) ||| (own_bit (own_g els107 (3 : Int32)))) ||| (own_bit (own_g els107 (4 : Int32)))))])) (G_own_law Z q0 q1 q2 q3 q4 h0 n0 s)
                  refine own_go (fun _ k_ => XS.bipush X611.here hx rfl (hb hby at_284) k_) ?_
                  show own_Goes p e below (T611.setTop (mkF m 286 #[.val (.int q0), .val (.int q1), .val (.int q2), .val (.int q3), .val (.int q4), .val (.int n), .val (.int x0), .val (.int x1), .val (.int x2), .val (.int x3), .val (.ref b568), .val (.ref b570), .val (.int kk215), .val (.int (own_g els107 (0 : Int32))), .val (.int (own_g els107 (1 : Int32))), .val (.int (own_g els107 (2 : Int32))), .val (.int (own_g els107 (3 : Int32))), .val (.int (own_g els107 (4 : Int32))), .unset, .unset] [(.int (31 : Int32)), (.int (((((own_bit (own_g els107 (0 : Int32))) ||| (own_bit (own_g els107 (1 : Int32)))) ||| (own_bit (own_g els107 (2 : Int32)))) ||| (own_bit (own_g els107 (3 : Int32)))) ||| (own_bit (own_g els107 (4 : Int32)))))])) (G_own_law Z q0 q1 q2 q3 q4 h0 n0 s)
                  refine own_go (fun _ k_ => XS.icmpNo X611.here hx rfl (hb hby at_286) rfl (XT.ii_ne_f hperm) k_) ?_
                  show own_Goes p e below (T611.setTop (mkF m 289 #[.val (.int q0), .val (.int q1), .val (.int q2), .val (.int q3), .val (.int q4), .val (.int n), .val (.int x0), .val (.int x1), .val (.int x2), .val (.int x3), .val (.ref b568), .val (.ref b570), .val (.int kk215), .val (.int (own_g els107 (0 : Int32))), .val (.int (own_g els107 (1 : Int32))), .val (.int (own_g els107 (2 : Int32))), .val (.int (own_g els107 (3 : Int32))), .val (.int (own_g els107 (4 : Int32))), .unset, .unset] [])) (G_own_law Z q0 q1 q2 q3 q4 h0 n0 s)
                  refine own_go (fun _ k_ => XS.iconst X611.here hx rfl (hb hby at_289) k_) ?_
                  show own_Goes p e below (T611.setTop (mkF m 290 #[.val (.int q0), .val (.int q1), .val (.int q2), .val (.int q3), .val (.int q4), .val (.int n), .val (.int x0), .val (.int x1), .val (.int x2), .val (.int x3), .val (.ref b568), .val (.ref b570), .val (.int kk215), .val (.int (own_g els107 (0 : Int32))), .val (.int (own_g els107 (1 : Int32))), .val (.int (own_g els107 (2 : Int32))), .val (.int (own_g els107 (3 : Int32))), .val (.int (own_g els107 (4 : Int32))), .unset, .unset] [(.int (1 : Int32))])) (G_own_law Z q0 q1 q2 q3 q4 h0 n0 s)
                  refine own_go (fun _ k_ => XS.goto X611.here hx rfl (pc0 := 290) (pc' := 294) rfl (hb hby at_290) (by decide) (by decide) k_) ?_
                  show own_Goes p e below (T611.setTop (mkF m 294 #[.val (.int q0), .val (.int q1), .val (.int q2), .val (.int q3), .val (.int q4), .val (.int n), .val (.int x0), .val (.int x1), .val (.int x2), .val (.int x3), .val (.ref b568), .val (.ref b570), .val (.int kk215), .val (.int (own_g els107 (0 : Int32))), .val (.int (own_g els107 (1 : Int32))), .val (.int (own_g els107 (2 : Int32))), .val (.int (own_g els107 (3 : Int32))), .val (.int (own_g els107 (4 : Int32))), .unset, .unset] [(.int (1 : Int32))])) (G_own_law Z q0 q1 q2 q3 q4 h0 n0 s)
                  refine own_go (fun _ k_ => XS.istore X611.here hx rfl (hb hby at_294) rfl (l' := #[.val (.int q0), .val (.int q1), .val (.int q2), .val (.int q3), .val (.int q4), .val (.int n), .val (.int x0), .val (.int x1), .val (.int x2), .val (.int x3), .val (.ref b568), .val (.ref b570), .val (.int kk215), .val (.int (own_g els107 (0 : Int32))), .val (.int (own_g els107 (1 : Int32))), .val (.int (own_g els107 (2 : Int32))), .val (.int (own_g els107 (3 : Int32))), .val (.int (own_g els107 (4 : Int32))), .val (.int (1 : Int32)), .unset]) rfl k_) ?_
                  show own_Goes p e below (T611.setTop (mkF m 296 #[.val (.int q0), .val (.int q1), .val (.int q2), .val (.int q3), .val (.int q4), .val (.int n), .val (.int x0), .val (.int x1), .val (.int x2), .val (.int x3), .val (.ref b568), .val (.ref b570), .val (.int kk215), .val (.int (own_g els107 (0 : Int32))), .val (.int (own_g els107 (1 : Int32))), .val (.int (own_g els107 (2 : Int32))), .val (.int (own_g els107 (3 : Int32))), .val (.int (own_g els107 (4 : Int32))), .val (.int (1 : Int32)), .unset] [])) (G_own_law Z q0 q1 q2 q3 q4 h0 n0 s)
                  refine own_join (P := fun uu : Unit => True) (F := fun uu => T611.setTop (mkF m 310 #[.val (.int q0), .val (.int q1), .val (.int q2), .val (.int q3), .val (.int q4), .val (.int n), .val (.int x0), .val (.int x1), .val (.int x2), .val (.int x3), .val (.ref b568), .val (.ref b570), .val (.int kk215), .val (.int (own_g els107 (0 : Int32))), .val (.int (own_g els107 (1 : Int32))), .val (.int (own_g els107 (2 : Int32))), .val (.int (own_g els107 (3 : Int32))), .val (.int (own_g els107 (4 : Int32))), .val (.int (1 : Int32)), .unset] [])) ?_ ?_
                  · intro uu _hu
                    show own_Goes p e below (T611.setTop (mkF m 310 #[.val (.int q0), .val (.int q1), .val (.int q2), .val (.int q3), .val (.int q4), .val (.int n), .val (.int x0), .val (.int x1), .val (.int x2), .val (.int x3), .val (.ref b568), .val (.ref b570), .val (.int kk215), .val (.int (own_g els107 (0 : Int32))), .val (.int (own_g els107 (1 : Int32))), .val (.int (own_g els107 (2 : Int32))), .val (.int (own_g els107 (3 : Int32))), .val (.int (own_g els107 (4 : Int32))), .val (.int (1 : Int32)), .unset] [])) (G_own_law Z q0 q1 q2 q3 q4 h0 n0 s)
                    refine own_join (P := fun uu : Unit => True) (F := fun uu => T611.setTop (mkF m 325 #[.val (.int q0), .val (.int q1), .val (.int q2), .val (.int q3), .val (.int q4), .val (.int n), .val (.int x0), .val (.int x1), .val (.int x2), .val (.int x3), .val (.ref b568), .val (.ref b570), .val (.int kk215), .val (.int (own_g els107 (0 : Int32))), .val (.int (own_g els107 (1 : Int32))), .val (.int (own_g els107 (2 : Int32))), .val (.int (own_g els107 (3 : Int32))), .val (.int (own_g els107 (4 : Int32))), .val (.int (1 : Int32)), .unset] [])) ?_ ?_
                    · intro uu _hu
                      show own_Goes p e below (T611.setTop (mkF m 325 #[.val (.int q0), .val (.int q1), .val (.int q2), .val (.int q3), .val (.int q4), .val (.int n), .val (.int x0), .val (.int x1), .val (.int x2), .val (.int x3), .val (.ref b568), .val (.ref b570), .val (.int kk215), .val (.int (own_g els107 (0 : Int32))), .val (.int (own_g els107 (1 : Int32))), .val (.int (own_g els107 (2 : Int32))), .val (.int (own_g els107 (3 : Int32))), .val (.int (own_g els107 (4 : Int32))), .val (.int (1 : Int32)), .unset] [])) (G_own_law Z q0 q1 q2 q3 q4 h0 n0 s)
                      refine own_join (P := fun uu : Unit => True) (F := fun uu => T611.setTop (mkF m 340 #[.val (.int q0), .val (.int q1), .val (.int q2), .val (.int q3), .val (.int q4), .val (.int n), .val (.int x0), .val (.int x1), .val (.int x2), .val (.int x3), .val (.ref b568), .val (.ref b570), .val (.int kk215), .val (.int (own_g els107 (0 : Int32))), .val (.int (own_g els107 (1 : Int32))), .val (.int (own_g els107 (2 : Int32))), .val (.int (own_g els107 (3 : Int32))), .val (.int (own_g els107 (4 : Int32))), .val (.int (1 : Int32)), .unset] [])) ?_ ?_
                      · intro uu _hu
                        show own_Goes p e below (T611.setTop (mkF m 340 #[.val (.int q0), .val (.int q1), .val (.int q2), .val (.int q3), .val (.int q4), .val (.int n), .val (.int x0), .val (.int x1), .val (.int x2), .val (.int x3), .val (.ref b568), .val (.ref b570), .val (.int kk215), .val (.int (own_g els107 (0 : Int32))), .val (.int (own_g els107 (1 : Int32))), .val (.int (own_g els107 (2 : Int32))), .val (.int (own_g els107 (3 : Int32))), .val (.int (own_g els107 (4 : Int32))), .val (.int (1 : Int32)), .unset] [])) (G_own_law Z q0 q1 q2 q3 q4 h0 n0 s)
                        refine own_go (fun _ k_ => XS.iload X611.here hx rfl (hb hby at_340) rfl k_) ?_
                        show own_Goes p e below (T611.setTop (mkF m 342 #[.val (.int q0), .val (.int q1), .val (.int q2), .val (.int q3), .val (.int q4), .val (.int n), .val (.int x0), .val (.int x1), .val (.int x2), .val (.int x3), .val (.ref b568), .val (.ref b570), .val (.int kk215), .val (.int (own_g els107 (0 : Int32))), .val (.int (own_g els107 (1 : Int32))), .val (.int (own_g els107 (2 : Int32))), .val (.int (own_g els107 (3 : Int32))), .val (.int (own_g els107 (4 : Int32))), .val (.int (1 : Int32)), .unset] [(.int kk215)])) (G_own_law Z q0 q1 q2 q3 q4 h0 n0 s)
                        refine own_go (fun _ k_ => XS.iconst X611.here hx rfl (hb hby at_342) k_) ?_
                        show own_Goes p e below (T611.setTop (mkF m 343 #[.val (.int q0), .val (.int q1), .val (.int q2), .val (.int q3), .val (.int q4), .val (.int n), .val (.int x0), .val (.int x1), .val (.int x2), .val (.int x3), .val (.ref b568), .val (.ref b570), .val (.int kk215), .val (.int (own_g els107 (0 : Int32))), .val (.int (own_g els107 (1 : Int32))), .val (.int (own_g els107 (2 : Int32))), .val (.int (own_g els107 (3 : Int32))), .val (.int (own_g els107 (4 : Int32))), .val (.int (1 : Int32)), .unset] [(.int (3 : Int32)), (.int kk215)])) (G_own_law Z q0 q1 q2 q3 q4 h0 n0 s)
                        by_cases hc343_615 : (3 : Int32) < kk215
                        · refine own_go (fun _ k_ => XS.icmpNo X611.here hx rfl (hb hby at_343) rfl (XT.ii_le_f hc343_615) k_) ?_
                          show own_Goes p e below (T611.setTop (mkF m 346 #[.val (.int q0), .val (.int q1), .val (.int q2), .val (.int q3), .val (.int q4), .val (.int n), .val (.int x0), .val (.int x1), .val (.int x2), .val (.int x3), .val (.ref b568), .val (.ref b570), .val (.int kk215), .val (.int (own_g els107 (0 : Int32))), .val (.int (own_g els107 (1 : Int32))), .val (.int (own_g els107 (2 : Int32))), .val (.int (own_g els107 (3 : Int32))), .val (.int (own_g els107 (4 : Int32))), .val (.int (1 : Int32)), .unset] [])) (G_own_law Z q0 q1 q2 q3 q4 h0 n0 s)
                          refine own_go (fun _ k_ => XS.iload X611.here hx rfl (hb hby at_346) rfl k_) ?_
                          show own_Goes p e below (T611.setTop (mkF m 348 #[.val (.int q0), .val (.int q1), .val (.int q2), .val (.int q3), .val (.int q4), .val (.int n), .val (.int x0), .val (.int x1), .val (.int x2), .val (.int x3), .val (.ref b568), .val (.ref b570), .val (.int kk215), .val (.int (own_g els107 (0 : Int32))), .val (.int (own_g els107 (1 : Int32))), .val (.int (own_g els107 (2 : Int32))), .val (.int (own_g els107 (3 : Int32))), .val (.int (own_g els107 (4 : Int32))), .val (.int (1 : Int32)), .unset] [(.int (own_g els107 (3 : Int32)))])) (G_own_law Z q0 q1 q2 q3 q4 h0 n0 s)
                          refine own_go (fun _ k_ => XS.aload X611.here hx rfl (hb hby at_348) rfl rfl k_) ?_
                          show own_Goes p e below (T611.setTop (mkF m 350 #[.val (.int q0), .val (.int q1), .val (.int q2), .val (.int q3), .val (.int q4), .val (.int n), .val (.int x0), .val (.int x1), .val (.int x2), .val (.int x3), .val (.ref b568), .val (.ref b570), .val (.int kk215), .val (.int (own_g els107 (0 : Int32))), .val (.int (own_g els107 (1 : Int32))), .val (.int (own_g els107 (2 : Int32))), .val (.int (own_g els107 (3 : Int32))), .val (.int (own_g els107 (4 : Int32))), .val (.int (1 : Int32)), .unset] [(.ref b568), (.int (own_g els107 (3 : Int32)))])) (G_own_law Z q0 q1 q2 q3 q4 h0 n0 s)
                          refine own_go (fun _ k_ => XS.iconst X611.here hx rfl (hb hby at_350) k_) ?_
                          show own_Goes p e below (T611.setTop (mkF m 351 #[.val (.int q0), .val (.int q1), .val (.int q2), .val (.int q3), .val (.int q4), .val (.int n), .val (.int x0), .val (.int x1), .val (.int x2), .val (.int x3), .val (.ref b568), .val (.ref b570), .val (.int kk215), .val (.int (own_g els107 (0 : Int32))), .val (.int (own_g els107 (1 : Int32))), .val (.int (own_g els107 (2 : Int32))), .val (.int (own_g els107 (3 : Int32))), .val (.int (own_g els107 (4 : Int32))), .val (.int (1 : Int32)), .unset] [(.int (3 : Int32)), (.ref b568), (.int (own_g els107 (3 : Int32)))])) (G_own_law Z q0 q1 q2 q3 q4 h0 n0 s)
                          obtain ⟨c616, Ar616, q616, s616, z616, H616, G616⟩ := id f601_0
                          have hin616 := inb_of s616 (j := (3 : Int32)) (by decide)
                          have hat616 := H616.at hin616 (v := (.int (own_g wl215 (3 : Int32)))) (own_gd _ _)
                          refine own_go (fun _ k_ => X611.iaload hx (j := (3 : Int32)) (v := (.int (own_g wl215 (3 : Int32)))) (by rw [e611]; exact Ar616.1) (State.isArrayOf_alike hZ.alike Ar616.2.1) Ar616.2.2 hin616 hat616 (g := (mkF m 351 #[.val (.int q0), .val (.int q1), .val (.int q2), .val (.int q3), .val (.int q4), .val (.int n), .val (.int x0), .val (.int x1), .val (.int x2), .val (.int x3), .val (.ref b568), .val (.ref b570), .val (.int kk215), .val (.int (own_g els107 (0 : Int32))), .val (.int (own_g els107 (1 : Int32))), .val (.int (own_g els107 (2 : Int32))), .val (.int (own_g els107 (3 : Int32))), .val (.int (own_g els107 (4 : Int32))), .val (.int (1 : Int32)), .unset] [(.int (3 : Int32)), (.ref b568), (.int (own_g els107 (3 : Int32)))])) rfl rfl (hb hby at_351) _ k_) ?_
                          show own_Goes p e below (T611.setTop (mkF m 352 #[.val (.int q0), .val (.int q1), .val (.int q2), .val (.int q3), .val (.int q4), .val (.int n), .val (.int x0), .val (.int x1), .val (.int x2), .val (.int x3), .val (.ref b568), .val (.ref b570), .val (.int kk215), .val (.int (own_g els107 (0 : Int32))), .val (.int (own_g els107 (1 : Int32))), .val (.int (own_g els107 (2 : Int32))), .val (.int (own_g els107 (3 : Int32))), .val (.int (own_g els107 (4 : Int32))), .val (.int (1 : Int32)), .unset] [(.int (own_g wl215 (3 : Int32))), (.int (own_g els107 (3 : Int32)))])) (G_own_law Z q0 q1 q2 q3 q4 h0 n0 s)
                          refine own_go (fun _ k_ => XS.icmpNo X611.here hx rfl (hb hby at_352) rfl (XT.ii_ne_f (hfr.2.2.2 hc343_615)) k_) ?_
                          show own_Goes p e below (T611.setTop (mkF m 355 #[.val (.int q0), .val (.int q1), .val (.int q2), .val (.int q3), .val (.int q4), .val (.int n), .val (.int x0), .val (.int x1), .val (.int x2), .val (.int x3), .val (.ref b568), .val (.ref b570), .val (.int kk215), .val (.int (own_g els107 (0 : Int32))), .val (.int (own_g els107 (1 : Int32))), .val (.int (own_g els107 (2 : Int32))), .val (.int (own_g els107 (3 : Int32))), .val (.int (own_g els107 (4 : Int32))), .val (.int (1 : Int32)), .unset] [])) (G_own_law Z q0 q1 q2 q3 q4 h0 n0 s)
                          refine own_go (fun _ k_ => XS.iconst X611.here hx rfl (hb hby at_355) k_) ?_
                          show own_Goes p e below (T611.setTop (mkF m 356 #[.val (.int q0), .val (.int q1), .val (.int q2), .val (.int q3), .val (.int q4), .val (.int n), .val (.int x0), .val (.int x1), .val (.int x2), .val (.int x3), .val (.ref b568), .val (.ref b570), .val (.int kk215), .val (.int (own_g els107 (0 : Int32))), .val (.int (own_g els107 (1 : Int32))), .val (.int (own_g els107 (2 : Int32))), .val (.int (own_g els107 (3 : Int32))), .val (.int (own_g els107 (4 : Int32))), .val (.int (1 : Int32)), .unset] [(.int (1 : Int32))])) (G_own_law Z q0 q1 q2 q3 q4 h0 n0 s)
                          refine own_go (fun _ k_ => XS.goto X611.here hx rfl (pc0 := 356) (pc' := 360) rfl (hb hby at_356) (by decide) (by decide) k_) ?_
                          show own_Goes p e below (T611.setTop (mkF m 360 #[.val (.int q0), .val (.int q1), .val (.int q2), .val (.int q3), .val (.int q4), .val (.int n), .val (.int x0), .val (.int x1), .val (.int x2), .val (.int x3), .val (.ref b568), .val (.ref b570), .val (.int kk215), .val (.int (own_g els107 (0 : Int32))), .val (.int (own_g els107 (1 : Int32))), .val (.int (own_g els107 (2 : Int32))), .val (.int (own_g els107 (3 : Int32))), .val (.int (own_g els107 (4 : Int32))), .val (.int (1 : Int32)), .unset] [(.int (1 : Int32))])) (G_own_law Z q0 q1 q2 q3 q4 h0 n0 s)
                          refine own_go (fun _ k_ => XS.istore X611.here hx rfl (hb hby at_360) rfl (l' := #[.val (.int q0), .val (.int q1), .val (.int q2), .val (.int q3), .val (.int q4), .val (.int n), .val (.int x0), .val (.int x1), .val (.int x2), .val (.int x3), .val (.ref b568), .val (.ref b570), .val (.int kk215), .val (.int (own_g els107 (0 : Int32))), .val (.int (own_g els107 (1 : Int32))), .val (.int (own_g els107 (2 : Int32))), .val (.int (own_g els107 (3 : Int32))), .val (.int (own_g els107 (4 : Int32))), .val (.int (1 : Int32)), .val (.int (1 : Int32))]) rfl k_) ?_
                          show own_Goes p e below (T611.setTop (mkF m 362 #[.val (.int q0), .val (.int q1), .val (.int q2), .val (.int q3), .val (.int q4), .val (.int n), .val (.int x0), .val (.int x1), .val (.int x2), .val (.int x3), .val (.ref b568), .val (.ref b570), .val (.int kk215), .val (.int (own_g els107 (0 : Int32))), .val (.int (own_g els107 (1 : Int32))), .val (.int (own_g els107 (2 : Int32))), .val (.int (own_g els107 (3 : Int32))), .val (.int (own_g els107 (4 : Int32))), .val (.int (1 : Int32)), .val (.int (1 : Int32))] [])) (G_own_law Z q0 q1 q2 q3 q4 h0 n0 s)
                          refine own_go (fun _ k_ => XS.iload X611.here hx rfl (hb hby at_362) rfl k_) ?_
                          show own_Goes p e below (T611.setTop (mkF m 364 #[.val (.int q0), .val (.int q1), .val (.int q2), .val (.int q3), .val (.int q4), .val (.int n), .val (.int x0), .val (.int x1), .val (.int x2), .val (.int x3), .val (.ref b568), .val (.ref b570), .val (.int kk215), .val (.int (own_g els107 (0 : Int32))), .val (.int (own_g els107 (1 : Int32))), .val (.int (own_g els107 (2 : Int32))), .val (.int (own_g els107 (3 : Int32))), .val (.int (own_g els107 (4 : Int32))), .val (.int (1 : Int32)), .val (.int (1 : Int32))] [(.int (1 : Int32))])) (G_own_law Z q0 q1 q2 q3 q4 h0 n0 s)
                          refine own_go (fun _ k_ => XS.ifNo X611.here hx rfl (hb hby at_364) rfl (XT.i0_eq_f (by decide)) k_) ?_
                          show own_Goes p e below (T611.setTop (mkF m 367 #[.val (.int q0), .val (.int q1), .val (.int q2), .val (.int q3), .val (.int q4), .val (.int n), .val (.int x0), .val (.int x1), .val (.int x2), .val (.int x3), .val (.ref b568), .val (.ref b570), .val (.int kk215), .val (.int (own_g els107 (0 : Int32))), .val (.int (own_g els107 (1 : Int32))), .val (.int (own_g els107 (2 : Int32))), .val (.int (own_g els107 (3 : Int32))), .val (.int (own_g els107 (4 : Int32))), .val (.int (1 : Int32)), .val (.int (1 : Int32))] [])) (G_own_law Z q0 q1 q2 q3 q4 h0 n0 s)
                          refine own_go (fun _ k_ => XS.iload X611.here hx rfl (hb hby at_367) rfl k_) ?_
                          show own_Goes p e below (T611.setTop (mkF m 369 #[.val (.int q0), .val (.int q1), .val (.int q2), .val (.int q3), .val (.int q4), .val (.int n), .val (.int x0), .val (.int x1), .val (.int x2), .val (.int x3), .val (.ref b568), .val (.ref b570), .val (.int kk215), .val (.int (own_g els107 (0 : Int32))), .val (.int (own_g els107 (1 : Int32))), .val (.int (own_g els107 (2 : Int32))), .val (.int (own_g els107 (3 : Int32))), .val (.int (own_g els107 (4 : Int32))), .val (.int (1 : Int32)), .val (.int (1 : Int32))] [(.int (1 : Int32))])) (G_own_law Z q0 q1 q2 q3 q4 h0 n0 s)
                          refine own_go (fun _ k_ => XS.ifNo X611.here hx rfl (hb hby at_369) rfl (XT.i0_eq_f (by decide)) k_) ?_
                          show own_Goes p e below (T611.setTop (mkF m 372 #[.val (.int q0), .val (.int q1), .val (.int q2), .val (.int q3), .val (.int q4), .val (.int n), .val (.int x0), .val (.int x1), .val (.int x2), .val (.int x3), .val (.ref b568), .val (.ref b570), .val (.int kk215), .val (.int (own_g els107 (0 : Int32))), .val (.int (own_g els107 (1 : Int32))), .val (.int (own_g els107 (2 : Int32))), .val (.int (own_g els107 (3 : Int32))), .val (.int (own_g els107 (4 : Int32))), .val (.int (1 : Int32)), .val (.int (1 : Int32))] [])) (G_own_law Z q0 q1 q2 q3 q4 h0 n0 s)
                          refine own_go (fun _ k_ => XS.iconst X611.here hx rfl (hb hby at_372) k_) ?_
                          show own_Goes p e below (T611.setTop (mkF m 373 #[.val (.int q0), .val (.int q1), .val (.int q2), .val (.int q3), .val (.int q4), .val (.int n), .val (.int x0), .val (.int x1), .val (.int x2), .val (.int x3), .val (.ref b568), .val (.ref b570), .val (.int kk215), .val (.int (own_g els107 (0 : Int32))), .val (.int (own_g els107 (1 : Int32))), .val (.int (own_g els107 (2 : Int32))), .val (.int (own_g els107 (3 : Int32))), .val (.int (own_g els107 (4 : Int32))), .val (.int (1 : Int32)), .val (.int (1 : Int32))] [(.int (1 : Int32))])) (G_own_law Z q0 q1 q2 q3 q4 h0 n0 s)
                          refine own_go (fun _ k_ => XS.goto X611.here hx rfl (pc0 := 373) (pc' := 377) rfl (hb hby at_373) (by decide) (by decide) k_) ?_
                          show own_Goes p e below (T611.setTop (mkF m 377 #[.val (.int q0), .val (.int q1), .val (.int q2), .val (.int q3), .val (.int q4), .val (.int n), .val (.int x0), .val (.int x1), .val (.int x2), .val (.int x3), .val (.ref b568), .val (.ref b570), .val (.int kk215), .val (.int (own_g els107 (0 : Int32))), .val (.int (own_g els107 (1 : Int32))), .val (.int (own_g els107 (2 : Int32))), .val (.int (own_g els107 (3 : Int32))), .val (.int (own_g els107 (4 : Int32))), .val (.int (1 : Int32)), .val (.int (1 : Int32))] [(.int (1 : Int32))])) (G_own_law Z q0 q1 q2 q3 q4 h0 n0 s)
                          obtain ⟨fs, hr, hrun, hended, hW, hsame⟩ := X611.leave (v := some (.int (1 : Int32))) (fun h => by rw [Bd.returns] at h; cases h) Bd.notSynchronized
                          refine ⟨_, _, retN X611 hx (t := .boolean) Bd.returns (by simp) (hb hby at_377) hr, hrun, hended, _, _, rfl, ?_, ⟨_, rfl⟩, hW, hsame.mono (by decide) (by decide)⟩
                          show Q_own_law Z q0 q1 q2 q3 q4 h0 n0 _ T611.heap _
                          rw [e611]
                          exact ⟨rfl, N611⟩
                        · refine own_go (fun _ k_ => XS.icmpYes X611.here hx rfl (pc0 := 343) (pc' := 355) rfl (hb hby at_343) rfl (XT.ii_le_t hc343_615) (by decide) (by decide) k_) ?_
                          show own_Goes p e below (T611.setTop (mkF m 355 #[.val (.int q0), .val (.int q1), .val (.int q2), .val (.int q3), .val (.int q4), .val (.int n), .val (.int x0), .val (.int x1), .val (.int x2), .val (.int x3), .val (.ref b568), .val (.ref b570), .val (.int kk215), .val (.int (own_g els107 (0 : Int32))), .val (.int (own_g els107 (1 : Int32))), .val (.int (own_g els107 (2 : Int32))), .val (.int (own_g els107 (3 : Int32))), .val (.int (own_g els107 (4 : Int32))), .val (.int (1 : Int32)), .unset] [])) (G_own_law Z q0 q1 q2 q3 q4 h0 n0 s)
                          refine own_go (fun _ k_ => XS.iconst X611.here hx rfl (hb hby at_355) k_) ?_
                          show own_Goes p e below (T611.setTop (mkF m 356 #[.val (.int q0), .val (.int q1), .val (.int q2), .val (.int q3), .val (.int q4), .val (.int n), .val (.int x0), .val (.int x1), .val (.int x2), .val (.int x3), .val (.ref b568), .val (.ref b570), .val (.int kk215), .val (.int (own_g els107 (0 : Int32))), .val (.int (own_g els107 (1 : Int32))), .val (.int (own_g els107 (2 : Int32))), .val (.int (own_g els107 (3 : Int32))), .val (.int (own_g els107 (4 : Int32))), .val (.int (1 : Int32)), .unset] [(.int (1 : Int32))])) (G_own_law Z q0 q1 q2 q3 q4 h0 n0 s)
                          refine own_go (fun _ k_ => XS.goto X611.here hx rfl (pc0 := 356) (pc' := 360) rfl (hb hby at_356) (by decide) (by decide) k_) ?_
                          show own_Goes p e below (T611.setTop (mkF m 360 #[.val (.int q0), .val (.int q1), .val (.int q2), .val (.int q3), .val (.int q4), .val (.int n), .val (.int x0), .val (.int x1), .val (.int x2), .val (.int x3), .val (.ref b568), .val (.ref b570), .val (.int kk215), .val (.int (own_g els107 (0 : Int32))), .val (.int (own_g els107 (1 : Int32))), .val (.int (own_g els107 (2 : Int32))), .val (.int (own_g els107 (3 : Int32))), .val (.int (own_g els107 (4 : Int32))), .val (.int (1 : Int32)), .unset] [(.int (1 : Int32))])) (G_own_law Z q0 q1 q2 q3 q4 h0 n0 s)
                          refine own_go (fun _ k_ => XS.istore X611.here hx rfl (hb hby at_360) rfl (l' := #[.val (.int q0), .val (.int q1), .val (.int q2), .val (.int q3), .val (.int q4), .val (.int n), .val (.int x0), .val (.int x1), .val (.int x2), .val (.int x3), .val (.ref b568), .val (.ref b570), .val (.int kk215), .val (.int (own_g els107 (0 : Int32))), .val (.int (own_g els107 (1 : Int32))), .val (.int (own_g els107 (2 : Int32))), .val (.int (own_g els107 (3 : Int32))), .val (.int (own_g els107 (4 : Int32))), .val (.int (1 : Int32)), .val (.int (1 : Int32))]) rfl k_) ?_
                          show own_Goes p e below (T611.setTop (mkF m 362 #[.val (.int q0), .val (.int q1), .val (.int q2), .val (.int q3), .val (.int q4), .val (.int n), .val (.int x0), .val (.int x1), .val (.int x2), .val (.int x3), .val (.ref b568), .val (.ref b570), .val (.int kk215), .val (.int (own_g els107 (0 : Int32))), .val (.int (own_g els107 (1 : Int32))), .val (.int (own_g els107 (2 : Int32))), .val (.int (own_g els107 (3 : Int32))), .val (.int (own_g els107 (4 : Int32))), .val (.int (1 : Int32)), .val (.int (1 : Int32))] [])) (G_own_law Z q0 q1 q2 q3 q4 h0 n0 s)
                          refine own_go (fun _ k_ => XS.iload X611.here hx rfl (hb hby at_362) rfl k_) ?_
                          show own_Goes p e below (T611.setTop (mkF m 364 #[.val (.int q0), .val (.int q1), .val (.int q2), .val (.int q3), .val (.int q4), .val (.int n), .val (.int x0), .val (.int x1), .val (.int x2), .val (.int x3), .val (.ref b568), .val (.ref b570), .val (.int kk215), .val (.int (own_g els107 (0 : Int32))), .val (.int (own_g els107 (1 : Int32))), .val (.int (own_g els107 (2 : Int32))), .val (.int (own_g els107 (3 : Int32))), .val (.int (own_g els107 (4 : Int32))), .val (.int (1 : Int32)), .val (.int (1 : Int32))] [(.int (1 : Int32))])) (G_own_law Z q0 q1 q2 q3 q4 h0 n0 s)
                          refine own_go (fun _ k_ => XS.ifNo X611.here hx rfl (hb hby at_364) rfl (XT.i0_eq_f (by decide)) k_) ?_
                          show own_Goes p e below (T611.setTop (mkF m 367 #[.val (.int q0), .val (.int q1), .val (.int q2), .val (.int q3), .val (.int q4), .val (.int n), .val (.int x0), .val (.int x1), .val (.int x2), .val (.int x3), .val (.ref b568), .val (.ref b570), .val (.int kk215), .val (.int (own_g els107 (0 : Int32))), .val (.int (own_g els107 (1 : Int32))), .val (.int (own_g els107 (2 : Int32))), .val (.int (own_g els107 (3 : Int32))), .val (.int (own_g els107 (4 : Int32))), .val (.int (1 : Int32)), .val (.int (1 : Int32))] [])) (G_own_law Z q0 q1 q2 q3 q4 h0 n0 s)
                          refine own_go (fun _ k_ => XS.iload X611.here hx rfl (hb hby at_367) rfl k_) ?_
                          show own_Goes p e below (T611.setTop (mkF m 369 #[.val (.int q0), .val (.int q1), .val (.int q2), .val (.int q3), .val (.int q4), .val (.int n), .val (.int x0), .val (.int x1), .val (.int x2), .val (.int x3), .val (.ref b568), .val (.ref b570), .val (.int kk215), .val (.int (own_g els107 (0 : Int32))), .val (.int (own_g els107 (1 : Int32))), .val (.int (own_g els107 (2 : Int32))), .val (.int (own_g els107 (3 : Int32))), .val (.int (own_g els107 (4 : Int32))), .val (.int (1 : Int32)), .val (.int (1 : Int32))] [(.int (1 : Int32))])) (G_own_law Z q0 q1 q2 q3 q4 h0 n0 s)
                          refine own_go (fun _ k_ => XS.ifNo X611.here hx rfl (hb hby at_369) rfl (XT.i0_eq_f (by decide)) k_) ?_
                          show own_Goes p e below (T611.setTop (mkF m 372 #[.val (.int q0), .val (.int q1), .val (.int q2), .val (.int q3), .val (.int q4), .val (.int n), .val (.int x0), .val (.int x1), .val (.int x2), .val (.int x3), .val (.ref b568), .val (.ref b570), .val (.int kk215), .val (.int (own_g els107 (0 : Int32))), .val (.int (own_g els107 (1 : Int32))), .val (.int (own_g els107 (2 : Int32))), .val (.int (own_g els107 (3 : Int32))), .val (.int (own_g els107 (4 : Int32))), .val (.int (1 : Int32)), .val (.int (1 : Int32))] [])) (G_own_law Z q0 q1 q2 q3 q4 h0 n0 s)
                          refine own_go (fun _ k_ => XS.iconst X611.here hx rfl (hb hby at_372) k_) ?_
                          show own_Goes p e below (T611.setTop (mkF m 373 #[.val (.int q0), .val (.int q1), .val (.int q2), .val (.int q3), .val (.int q4), .val (.int n), .val (.int x0), .val (.int x1), .val (.int x2), .val (.int x3), .val (.ref b568), .val (.ref b570), .val (.int kk215), .val (.int (own_g els107 (0 : Int32))), .val (.int (own_g els107 (1 : Int32))), .val (.int (own_g els107 (2 : Int32))), .val (.int (own_g els107 (3 : Int32))), .val (.int (own_g els107 (4 : Int32))), .val (.int (1 : Int32)), .val (.int (1 : Int32))] [(.int (1 : Int32))])) (G_own_law Z q0 q1 q2 q3 q4 h0 n0 s)
                          refine own_go (fun _ k_ => XS.goto X611.here hx rfl (pc0 := 373) (pc' := 377) rfl (hb hby at_373) (by decide) (by decide) k_) ?_
                          show own_Goes p e below (T611.setTop (mkF m 377 #[.val (.int q0), .val (.int q1), .val (.int q2), .val (.int q3), .val (.int q4), .val (.int n), .val (.int x0), .val (.int x1), .val (.int x2), .val (.int x3), .val (.ref b568), .val (.ref b570), .val (.int kk215), .val (.int (own_g els107 (0 : Int32))), .val (.int (own_g els107 (1 : Int32))), .val (.int (own_g els107 (2 : Int32))), .val (.int (own_g els107 (3 : Int32))), .val (.int (own_g els107 (4 : Int32))), .val (.int (1 : Int32)), .val (.int (1 : Int32))] [(.int (1 : Int32))])) (G_own_law Z q0 q1 q2 q3 q4 h0 n0 s)
                          obtain ⟨fs, hr, hrun, hended, hW, hsame⟩ := X611.leave (v := some (.int (1 : Int32))) (fun h => by rw [Bd.returns] at h; cases h) Bd.notSynchronized
                          refine ⟨_, _, retN X611 hx (t := .boolean) Bd.returns (by simp) (hb hby at_377) hr, hrun, hended, _, _, rfl, ?_, ⟨_, rfl⟩, hW, hsame.mono (by decide) (by decide)⟩
                          show Q_own_law Z q0 q1 q2 q3 q4 h0 n0 _ T611.heap _
                          rw [e611]
                          exact ⟨rfl, N611⟩
                      · intro J340_614
                        refine own_go (fun _ k_ => XS.iload X611.here hx rfl (hb hby at_325) rfl k_) ?_
                        show own_Goes p e below (T611.setTop (mkF m 327 #[.val (.int q0), .val (.int q1), .val (.int q2), .val (.int q3), .val (.int q4), .val (.int n), .val (.int x0), .val (.int x1), .val (.int x2), .val (.int x3), .val (.ref b568), .val (.ref b570), .val (.int kk215), .val (.int (own_g els107 (0 : Int32))), .val (.int (own_g els107 (1 : Int32))), .val (.int (own_g els107 (2 : Int32))), .val (.int (own_g els107 (3 : Int32))), .val (.int (own_g els107 (4 : Int32))), .val (.int (1 : Int32)), .unset] [(.int kk215)])) (G_own_law Z q0 q1 q2 q3 q4 h0 n0 s)
                        refine own_go (fun _ k_ => XS.iconst X611.here hx rfl (hb hby at_327) k_) ?_
                        show own_Goes p e below (T611.setTop (mkF m 328 #[.val (.int q0), .val (.int q1), .val (.int q2), .val (.int q3), .val (.int q4), .val (.int n), .val (.int x0), .val (.int x1), .val (.int x2), .val (.int x3), .val (.ref b568), .val (.ref b570), .val (.int kk215), .val (.int (own_g els107 (0 : Int32))), .val (.int (own_g els107 (1 : Int32))), .val (.int (own_g els107 (2 : Int32))), .val (.int (own_g els107 (3 : Int32))), .val (.int (own_g els107 (4 : Int32))), .val (.int (1 : Int32)), .unset] [(.int (2 : Int32)), (.int kk215)])) (G_own_law Z q0 q1 q2 q3 q4 h0 n0 s)
                        by_cases hc328_617 : (2 : Int32) < kk215
                        · refine own_go (fun _ k_ => XS.icmpNo X611.here hx rfl (hb hby at_328) rfl (XT.ii_le_f hc328_617) k_) ?_
                          show own_Goes p e below (T611.setTop (mkF m 331 #[.val (.int q0), .val (.int q1), .val (.int q2), .val (.int q3), .val (.int q4), .val (.int n), .val (.int x0), .val (.int x1), .val (.int x2), .val (.int x3), .val (.ref b568), .val (.ref b570), .val (.int kk215), .val (.int (own_g els107 (0 : Int32))), .val (.int (own_g els107 (1 : Int32))), .val (.int (own_g els107 (2 : Int32))), .val (.int (own_g els107 (3 : Int32))), .val (.int (own_g els107 (4 : Int32))), .val (.int (1 : Int32)), .unset] [])) (G_own_law Z q0 q1 q2 q3 q4 h0 n0 s)
                          refine own_go (fun _ k_ => XS.iload X611.here hx rfl (hb hby at_331) rfl k_) ?_
                          show own_Goes p e below (T611.setTop (mkF m 333 #[.val (.int q0), .val (.int q1), .val (.int q2), .val (.int q3), .val (.int q4), .val (.int n), .val (.int x0), .val (.int x1), .val (.int x2), .val (.int x3), .val (.ref b568), .val (.ref b570), .val (.int kk215), .val (.int (own_g els107 (0 : Int32))), .val (.int (own_g els107 (1 : Int32))), .val (.int (own_g els107 (2 : Int32))), .val (.int (own_g els107 (3 : Int32))), .val (.int (own_g els107 (4 : Int32))), .val (.int (1 : Int32)), .unset] [(.int (own_g els107 (2 : Int32)))])) (G_own_law Z q0 q1 q2 q3 q4 h0 n0 s)
                          refine own_go (fun _ k_ => XS.aload X611.here hx rfl (hb hby at_333) rfl rfl k_) ?_
                          show own_Goes p e below (T611.setTop (mkF m 335 #[.val (.int q0), .val (.int q1), .val (.int q2), .val (.int q3), .val (.int q4), .val (.int n), .val (.int x0), .val (.int x1), .val (.int x2), .val (.int x3), .val (.ref b568), .val (.ref b570), .val (.int kk215), .val (.int (own_g els107 (0 : Int32))), .val (.int (own_g els107 (1 : Int32))), .val (.int (own_g els107 (2 : Int32))), .val (.int (own_g els107 (3 : Int32))), .val (.int (own_g els107 (4 : Int32))), .val (.int (1 : Int32)), .unset] [(.ref b568), (.int (own_g els107 (2 : Int32)))])) (G_own_law Z q0 q1 q2 q3 q4 h0 n0 s)
                          refine own_go (fun _ k_ => XS.iconst X611.here hx rfl (hb hby at_335) k_) ?_
                          show own_Goes p e below (T611.setTop (mkF m 336 #[.val (.int q0), .val (.int q1), .val (.int q2), .val (.int q3), .val (.int q4), .val (.int n), .val (.int x0), .val (.int x1), .val (.int x2), .val (.int x3), .val (.ref b568), .val (.ref b570), .val (.int kk215), .val (.int (own_g els107 (0 : Int32))), .val (.int (own_g els107 (1 : Int32))), .val (.int (own_g els107 (2 : Int32))), .val (.int (own_g els107 (3 : Int32))), .val (.int (own_g els107 (4 : Int32))), .val (.int (1 : Int32)), .unset] [(.int (2 : Int32)), (.ref b568), (.int (own_g els107 (2 : Int32)))])) (G_own_law Z q0 q1 q2 q3 q4 h0 n0 s)
                          obtain ⟨c618, Ar618, q618, s618, z618, H618, G618⟩ := id f601_0
                          have hin618 := inb_of s618 (j := (2 : Int32)) (by decide)
                          have hat618 := H618.at hin618 (v := (.int (own_g wl215 (2 : Int32)))) (own_gd _ _)
                          refine own_go (fun _ k_ => X611.iaload hx (j := (2 : Int32)) (v := (.int (own_g wl215 (2 : Int32)))) (by rw [e611]; exact Ar618.1) (State.isArrayOf_alike hZ.alike Ar618.2.1) Ar618.2.2 hin618 hat618 (g := (mkF m 336 #[.val (.int q0), .val (.int q1), .val (.int q2), .val (.int q3), .val (.int q4), .val (.int n), .val (.int x0), .val (.int x1), .val (.int x2), .val (.int x3), .val (.ref b568), .val (.ref b570), .val (.int kk215), .val (.int (own_g els107 (0 : Int32))), .val (.int (own_g els107 (1 : Int32))), .val (.int (own_g els107 (2 : Int32))), .val (.int (own_g els107 (3 : Int32))), .val (.int (own_g els107 (4 : Int32))), .val (.int (1 : Int32)), .unset] [(.int (2 : Int32)), (.ref b568), (.int (own_g els107 (2 : Int32)))])) rfl rfl (hb hby at_336) _ k_) ?_
                          show own_Goes p e below (T611.setTop (mkF m 337 #[.val (.int q0), .val (.int q1), .val (.int q2), .val (.int q3), .val (.int q4), .val (.int n), .val (.int x0), .val (.int x1), .val (.int x2), .val (.int x3), .val (.ref b568), .val (.ref b570), .val (.int kk215), .val (.int (own_g els107 (0 : Int32))), .val (.int (own_g els107 (1 : Int32))), .val (.int (own_g els107 (2 : Int32))), .val (.int (own_g els107 (3 : Int32))), .val (.int (own_g els107 (4 : Int32))), .val (.int (1 : Int32)), .unset] [(.int (own_g wl215 (2 : Int32))), (.int (own_g els107 (2 : Int32)))])) (G_own_law Z q0 q1 q2 q3 q4 h0 n0 s)
                          refine own_go (fun _ k_ => XS.icmpNo X611.here hx rfl (hb hby at_337) rfl (XT.ii_ne_f (hfr.2.2.1 hc328_617)) k_) ?_
                          show own_Goes p e below (T611.setTop (mkF m 340 #[.val (.int q0), .val (.int q1), .val (.int q2), .val (.int q3), .val (.int q4), .val (.int n), .val (.int x0), .val (.int x1), .val (.int x2), .val (.int x3), .val (.ref b568), .val (.ref b570), .val (.int kk215), .val (.int (own_g els107 (0 : Int32))), .val (.int (own_g els107 (1 : Int32))), .val (.int (own_g els107 (2 : Int32))), .val (.int (own_g els107 (3 : Int32))), .val (.int (own_g els107 (4 : Int32))), .val (.int (1 : Int32)), .unset] [])) (G_own_law Z q0 q1 q2 q3 q4 h0 n0 s)
                          exact J340_614 () trivial
                        · refine own_go (fun _ k_ => XS.icmpYes X611.here hx rfl (pc0 := 328) (pc' := 340) rfl (hb hby at_328) rfl (XT.ii_le_t hc328_617) (by decide) (by decide) k_) ?_
                          show own_Goes p e below (T611.setTop (mkF m 340 #[.val (.int q0), .val (.int q1), .val (.int q2), .val (.int q3), .val (.int q4), .val (.int n), .val (.int x0), .val (.int x1), .val (.int x2), .val (.int x3), .val (.ref b568), .val (.ref b570), .val (.int kk215), .val (.int (own_g els107 (0 : Int32))), .val (.int (own_g els107 (1 : Int32))), .val (.int (own_g els107 (2 : Int32))), .val (.int (own_g els107 (3 : Int32))), .val (.int (own_g els107 (4 : Int32))), .val (.int (1 : Int32)), .unset] [])) (G_own_law Z q0 q1 q2 q3 q4 h0 n0 s)
                          exact J340_614 () trivial
                    · intro J325_613
                      refine own_go (fun _ k_ => XS.iload X611.here hx rfl (hb hby at_310) rfl k_) ?_
                      show own_Goes p e below (T611.setTop (mkF m 312 #[.val (.int q0), .val (.int q1), .val (.int q2), .val (.int q3), .val (.int q4), .val (.int n), .val (.int x0), .val (.int x1), .val (.int x2), .val (.int x3), .val (.ref b568), .val (.ref b570), .val (.int kk215), .val (.int (own_g els107 (0 : Int32))), .val (.int (own_g els107 (1 : Int32))), .val (.int (own_g els107 (2 : Int32))), .val (.int (own_g els107 (3 : Int32))), .val (.int (own_g els107 (4 : Int32))), .val (.int (1 : Int32)), .unset] [(.int kk215)])) (G_own_law Z q0 q1 q2 q3 q4 h0 n0 s)
                      refine own_go (fun _ k_ => XS.iconst X611.here hx rfl (hb hby at_312) k_) ?_
                      show own_Goes p e below (T611.setTop (mkF m 313 #[.val (.int q0), .val (.int q1), .val (.int q2), .val (.int q3), .val (.int q4), .val (.int n), .val (.int x0), .val (.int x1), .val (.int x2), .val (.int x3), .val (.ref b568), .val (.ref b570), .val (.int kk215), .val (.int (own_g els107 (0 : Int32))), .val (.int (own_g els107 (1 : Int32))), .val (.int (own_g els107 (2 : Int32))), .val (.int (own_g els107 (3 : Int32))), .val (.int (own_g els107 (4 : Int32))), .val (.int (1 : Int32)), .unset] [(.int (1 : Int32)), (.int kk215)])) (G_own_law Z q0 q1 q2 q3 q4 h0 n0 s)
                      by_cases hc313_619 : (1 : Int32) < kk215
                      · refine own_go (fun _ k_ => XS.icmpNo X611.here hx rfl (hb hby at_313) rfl (XT.ii_le_f hc313_619) k_) ?_
                        show own_Goes p e below (T611.setTop (mkF m 316 #[.val (.int q0), .val (.int q1), .val (.int q2), .val (.int q3), .val (.int q4), .val (.int n), .val (.int x0), .val (.int x1), .val (.int x2), .val (.int x3), .val (.ref b568), .val (.ref b570), .val (.int kk215), .val (.int (own_g els107 (0 : Int32))), .val (.int (own_g els107 (1 : Int32))), .val (.int (own_g els107 (2 : Int32))), .val (.int (own_g els107 (3 : Int32))), .val (.int (own_g els107 (4 : Int32))), .val (.int (1 : Int32)), .unset] [])) (G_own_law Z q0 q1 q2 q3 q4 h0 n0 s)
                        refine own_go (fun _ k_ => XS.iload X611.here hx rfl (hb hby at_316) rfl k_) ?_
                        show own_Goes p e below (T611.setTop (mkF m 318 #[.val (.int q0), .val (.int q1), .val (.int q2), .val (.int q3), .val (.int q4), .val (.int n), .val (.int x0), .val (.int x1), .val (.int x2), .val (.int x3), .val (.ref b568), .val (.ref b570), .val (.int kk215), .val (.int (own_g els107 (0 : Int32))), .val (.int (own_g els107 (1 : Int32))), .val (.int (own_g els107 (2 : Int32))), .val (.int (own_g els107 (3 : Int32))), .val (.int (own_g els107 (4 : Int32))), .val (.int (1 : Int32)), .unset] [(.int (own_g els107 (1 : Int32)))])) (G_own_law Z q0 q1 q2 q3 q4 h0 n0 s)
                        refine own_go (fun _ k_ => XS.aload X611.here hx rfl (hb hby at_318) rfl rfl k_) ?_
                        show own_Goes p e below (T611.setTop (mkF m 320 #[.val (.int q0), .val (.int q1), .val (.int q2), .val (.int q3), .val (.int q4), .val (.int n), .val (.int x0), .val (.int x1), .val (.int x2), .val (.int x3), .val (.ref b568), .val (.ref b570), .val (.int kk215), .val (.int (own_g els107 (0 : Int32))), .val (.int (own_g els107 (1 : Int32))), .val (.int (own_g els107 (2 : Int32))), .val (.int (own_g els107 (3 : Int32))), .val (.int (own_g els107 (4 : Int32))), .val (.int (1 : Int32)), .unset] [(.ref b568), (.int (own_g els107 (1 : Int32)))])) (G_own_law Z q0 q1 q2 q3 q4 h0 n0 s)
                        refine own_go (fun _ k_ => XS.iconst X611.here hx rfl (hb hby at_320) k_) ?_
                        show own_Goes p e below (T611.setTop (mkF m 321 #[.val (.int q0), .val (.int q1), .val (.int q2), .val (.int q3), .val (.int q4), .val (.int n), .val (.int x0), .val (.int x1), .val (.int x2), .val (.int x3), .val (.ref b568), .val (.ref b570), .val (.int kk215), .val (.int (own_g els107 (0 : Int32))), .val (.int (own_g els107 (1 : Int32))), .val (.int (own_g els107 (2 : Int32))), .val (.int (own_g els107 (3 : Int32))), .val (.int (own_g els107 (4 : Int32))), .val (.int (1 : Int32)), .unset] [(.int (1 : Int32)), (.ref b568), (.int (own_g els107 (1 : Int32)))])) (G_own_law Z q0 q1 q2 q3 q4 h0 n0 s)
                        obtain ⟨c620, Ar620, q620, s620, z620, H620, G620⟩ := id f601_0
                        have hin620 := inb_of s620 (j := (1 : Int32)) (by decide)
                        have hat620 := H620.at hin620 (v := (.int (own_g wl215 (1 : Int32)))) (own_gd _ _)
                        refine own_go (fun _ k_ => X611.iaload hx (j := (1 : Int32)) (v := (.int (own_g wl215 (1 : Int32)))) (by rw [e611]; exact Ar620.1) (State.isArrayOf_alike hZ.alike Ar620.2.1) Ar620.2.2 hin620 hat620 (g := (mkF m 321 #[.val (.int q0), .val (.int q1), .val (.int q2), .val (.int q3), .val (.int q4), .val (.int n), .val (.int x0), .val (.int x1), .val (.int x2), .val (.int x3), .val (.ref b568), .val (.ref b570), .val (.int kk215), .val (.int (own_g els107 (0 : Int32))), .val (.int (own_g els107 (1 : Int32))), .val (.int (own_g els107 (2 : Int32))), .val (.int (own_g els107 (3 : Int32))), .val (.int (own_g els107 (4 : Int32))), .val (.int (1 : Int32)), .unset] [(.int (1 : Int32)), (.ref b568), (.int (own_g els107 (1 : Int32)))])) rfl rfl (hb hby at_321) _ k_) ?_
                        show own_Goes p e below (T611.setTop (mkF m 322 #[.val (.int q0), .val (.int q1), .val (.int q2), .val (.int q3), .val (.int q4), .val (.int n), .val (.int x0), .val (.int x1), .val (.int x2), .val (.int x3), .val (.ref b568), .val (.ref b570), .val (.int kk215), .val (.int (own_g els107 (0 : Int32))), .val (.int (own_g els107 (1 : Int32))), .val (.int (own_g els107 (2 : Int32))), .val (.int (own_g els107 (3 : Int32))), .val (.int (own_g els107 (4 : Int32))), .val (.int (1 : Int32)), .unset] [(.int (own_g wl215 (1 : Int32))), (.int (own_g els107 (1 : Int32)))])) (G_own_law Z q0 q1 q2 q3 q4 h0 n0 s)
                        refine own_go (fun _ k_ => XS.icmpNo X611.here hx rfl (hb hby at_322) rfl (XT.ii_ne_f (hfr.2.1 hc313_619)) k_) ?_
                        show own_Goes p e below (T611.setTop (mkF m 325 #[.val (.int q0), .val (.int q1), .val (.int q2), .val (.int q3), .val (.int q4), .val (.int n), .val (.int x0), .val (.int x1), .val (.int x2), .val (.int x3), .val (.ref b568), .val (.ref b570), .val (.int kk215), .val (.int (own_g els107 (0 : Int32))), .val (.int (own_g els107 (1 : Int32))), .val (.int (own_g els107 (2 : Int32))), .val (.int (own_g els107 (3 : Int32))), .val (.int (own_g els107 (4 : Int32))), .val (.int (1 : Int32)), .unset] [])) (G_own_law Z q0 q1 q2 q3 q4 h0 n0 s)
                        exact J325_613 () trivial
                      · refine own_go (fun _ k_ => XS.icmpYes X611.here hx rfl (pc0 := 313) (pc' := 325) rfl (hb hby at_313) rfl (XT.ii_le_t hc313_619) (by decide) (by decide) k_) ?_
                        show own_Goes p e below (T611.setTop (mkF m 325 #[.val (.int q0), .val (.int q1), .val (.int q2), .val (.int q3), .val (.int q4), .val (.int n), .val (.int x0), .val (.int x1), .val (.int x2), .val (.int x3), .val (.ref b568), .val (.ref b570), .val (.int kk215), .val (.int (own_g els107 (0 : Int32))), .val (.int (own_g els107 (1 : Int32))), .val (.int (own_g els107 (2 : Int32))), .val (.int (own_g els107 (3 : Int32))), .val (.int (own_g els107 (4 : Int32))), .val (.int (1 : Int32)), .unset] [])) (G_own_law Z q0 q1 q2 q3 q4 h0 n0 s)
                        exact J325_613 () trivial
                  · intro J310_612
                    refine own_go (fun _ k_ => XS.iload X611.here hx rfl (hb hby at_296) rfl k_) ?_
                    show own_Goes p e below (T611.setTop (mkF m 298 #[.val (.int q0), .val (.int q1), .val (.int q2), .val (.int q3), .val (.int q4), .val (.int n), .val (.int x0), .val (.int x1), .val (.int x2), .val (.int x3), .val (.ref b568), .val (.ref b570), .val (.int kk215), .val (.int (own_g els107 (0 : Int32))), .val (.int (own_g els107 (1 : Int32))), .val (.int (own_g els107 (2 : Int32))), .val (.int (own_g els107 (3 : Int32))), .val (.int (own_g els107 (4 : Int32))), .val (.int (1 : Int32)), .unset] [(.int kk215)])) (G_own_law Z q0 q1 q2 q3 q4 h0 n0 s)
                    by_cases hc298_621 : (0 : Int32) < kk215
                    · refine own_go (fun _ k_ => XS.ifNo X611.here hx rfl (hb hby at_298) rfl (XT.i0_le_f hc298_621) k_) ?_
                      show own_Goes p e below (T611.setTop (mkF m 301 #[.val (.int q0), .val (.int q1), .val (.int q2), .val (.int q3), .val (.int q4), .val (.int n), .val (.int x0), .val (.int x1), .val (.int x2), .val (.int x3), .val (.ref b568), .val (.ref b570), .val (.int kk215), .val (.int (own_g els107 (0 : Int32))), .val (.int (own_g els107 (1 : Int32))), .val (.int (own_g els107 (2 : Int32))), .val (.int (own_g els107 (3 : Int32))), .val (.int (own_g els107 (4 : Int32))), .val (.int (1 : Int32)), .unset] [])) (G_own_law Z q0 q1 q2 q3 q4 h0 n0 s)
                      refine own_go (fun _ k_ => XS.iload X611.here hx rfl (hb hby at_301) rfl k_) ?_
                      show own_Goes p e below (T611.setTop (mkF m 303 #[.val (.int q0), .val (.int q1), .val (.int q2), .val (.int q3), .val (.int q4), .val (.int n), .val (.int x0), .val (.int x1), .val (.int x2), .val (.int x3), .val (.ref b568), .val (.ref b570), .val (.int kk215), .val (.int (own_g els107 (0 : Int32))), .val (.int (own_g els107 (1 : Int32))), .val (.int (own_g els107 (2 : Int32))), .val (.int (own_g els107 (3 : Int32))), .val (.int (own_g els107 (4 : Int32))), .val (.int (1 : Int32)), .unset] [(.int (own_g els107 (0 : Int32)))])) (G_own_law Z q0 q1 q2 q3 q4 h0 n0 s)
                      refine own_go (fun _ k_ => XS.aload X611.here hx rfl (hb hby at_303) rfl rfl k_) ?_
                      show own_Goes p e below (T611.setTop (mkF m 305 #[.val (.int q0), .val (.int q1), .val (.int q2), .val (.int q3), .val (.int q4), .val (.int n), .val (.int x0), .val (.int x1), .val (.int x2), .val (.int x3), .val (.ref b568), .val (.ref b570), .val (.int kk215), .val (.int (own_g els107 (0 : Int32))), .val (.int (own_g els107 (1 : Int32))), .val (.int (own_g els107 (2 : Int32))), .val (.int (own_g els107 (3 : Int32))), .val (.int (own_g els107 (4 : Int32))), .val (.int (1 : Int32)), .unset] [(.ref b568), (.int (own_g els107 (0 : Int32)))])) (G_own_law Z q0 q1 q2 q3 q4 h0 n0 s)
                      refine own_go (fun _ k_ => XS.iconst X611.here hx rfl (hb hby at_305) k_) ?_
                      show own_Goes p e below (T611.setTop (mkF m 306 #[.val (.int q0), .val (.int q1), .val (.int q2), .val (.int q3), .val (.int q4), .val (.int n), .val (.int x0), .val (.int x1), .val (.int x2), .val (.int x3), .val (.ref b568), .val (.ref b570), .val (.int kk215), .val (.int (own_g els107 (0 : Int32))), .val (.int (own_g els107 (1 : Int32))), .val (.int (own_g els107 (2 : Int32))), .val (.int (own_g els107 (3 : Int32))), .val (.int (own_g els107 (4 : Int32))), .val (.int (1 : Int32)), .unset] [(.int (0 : Int32)), (.ref b568), (.int (own_g els107 (0 : Int32)))])) (G_own_law Z q0 q1 q2 q3 q4 h0 n0 s)
                      obtain ⟨c622, Ar622, q622, s622, z622, H622, G622⟩ := id f601_0
                      have hin622 := inb_of s622 (j := (0 : Int32)) (by decide)
                      have hat622 := H622.at hin622 (v := (.int (own_g wl215 (0 : Int32)))) (own_gd _ _)
                      refine own_go (fun _ k_ => X611.iaload hx (j := (0 : Int32)) (v := (.int (own_g wl215 (0 : Int32)))) (by rw [e611]; exact Ar622.1) (State.isArrayOf_alike hZ.alike Ar622.2.1) Ar622.2.2 hin622 hat622 (g := (mkF m 306 #[.val (.int q0), .val (.int q1), .val (.int q2), .val (.int q3), .val (.int q4), .val (.int n), .val (.int x0), .val (.int x1), .val (.int x2), .val (.int x3), .val (.ref b568), .val (.ref b570), .val (.int kk215), .val (.int (own_g els107 (0 : Int32))), .val (.int (own_g els107 (1 : Int32))), .val (.int (own_g els107 (2 : Int32))), .val (.int (own_g els107 (3 : Int32))), .val (.int (own_g els107 (4 : Int32))), .val (.int (1 : Int32)), .unset] [(.int (0 : Int32)), (.ref b568), (.int (own_g els107 (0 : Int32)))])) rfl rfl (hb hby at_306) _ k_) ?_
                      show own_Goes p e below (T611.setTop (mkF m 307 #[.val (.int q0), .val (.int q1), .val (.int q2), .val (.int q3), .val (.int q4), .val (.int n), .val (.int x0), .val (.int x1), .val (.int x2), .val (.int x3), .val (.ref b568), .val (.ref b570), .val (.int kk215), .val (.int (own_g els107 (0 : Int32))), .val (.int (own_g els107 (1 : Int32))), .val (.int (own_g els107 (2 : Int32))), .val (.int (own_g els107 (3 : Int32))), .val (.int (own_g els107 (4 : Int32))), .val (.int (1 : Int32)), .unset] [(.int (own_g wl215 (0 : Int32))), (.int (own_g els107 (0 : Int32)))])) (G_own_law Z q0 q1 q2 q3 q4 h0 n0 s)
                      refine own_go (fun _ k_ => XS.icmpNo X611.here hx rfl (hb hby at_307) rfl (XT.ii_ne_f (hfr.1 hc298_621)) k_) ?_
                      show own_Goes p e below (T611.setTop (mkF m 310 #[.val (.int q0), .val (.int q1), .val (.int q2), .val (.int q3), .val (.int q4), .val (.int n), .val (.int x0), .val (.int x1), .val (.int x2), .val (.int x3), .val (.ref b568), .val (.ref b570), .val (.int kk215), .val (.int (own_g els107 (0 : Int32))), .val (.int (own_g els107 (1 : Int32))), .val (.int (own_g els107 (2 : Int32))), .val (.int (own_g els107 (3 : Int32))), .val (.int (own_g els107 (4 : Int32))), .val (.int (1 : Int32)), .unset] [])) (G_own_law Z q0 q1 q2 q3 q4 h0 n0 s)
                      exact J310_612 () trivial
                    · refine own_go (fun _ k_ => XS.ifYes X611.here hx rfl (pc0 := 298) (pc' := 310) rfl (hb hby at_298) rfl (XT.i0_le_t hc298_621) (by decide) (by decide) k_) ?_
                      show own_Goes p e below (T611.setTop (mkF m 310 #[.val (.int q0), .val (.int q1), .val (.int q2), .val (.int q3), .val (.int q4), .val (.int n), .val (.int x0), .val (.int x1), .val (.int x2), .val (.int x3), .val (.ref b568), .val (.ref b570), .val (.int kk215), .val (.int (own_g els107 (0 : Int32))), .val (.int (own_g els107 (1 : Int32))), .val (.int (own_g els107 (2 : Int32))), .val (.int (own_g els107 (3 : Int32))), .val (.int (own_g els107 (4 : Int32))), .val (.int (1 : Int32)), .unset] [])) (G_own_law Z q0 q1 q2 q3 q4 h0 n0 s)
                      exact J310_612 () trivial
                refine own_go (fun _ k_ => XS.iload X600.here hx rfl (hb hby at_178) rfl k_) ?_
                show own_Goes p e below (T600.setTop (mkF m 180 #[.val (.int q0), .val (.int q1), .val (.int q2), .val (.int q3), .val (.int q4), .val (.int n), .val (.int x0), .val (.int x1), .val (.int x2), .val (.int x3), .val (.ref b568), .val (.ref b570), .val (.int kk178), .unset, .unset, .unset, .unset, .unset, .unset, .unset] [(.int n)])) (G_own_law Z q0 q1 q2 q3 q4 h0 n0 s)
                refine own_go (fun _ k_ => XS.iconst X600.here hx rfl (hb hby at_180) k_) ?_
                show own_Goes p e below (T600.setTop (mkF m 181 #[.val (.int q0), .val (.int q1), .val (.int q2), .val (.int q3), .val (.int q4), .val (.int n), .val (.int x0), .val (.int x1), .val (.int x2), .val (.int x3), .val (.ref b568), .val (.ref b570), .val (.int kk178), .unset, .unset, .unset, .unset, .unset, .unset, .unset] [(.int (3 : Int32)), (.int n)])) (G_own_law Z q0 q1 q2 q3 q4 h0 n0 s)
                by_cases hc181_623 : (3 : Int32) < n
                · refine own_go (fun _ k_ => XS.icmpNo X600.here hx rfl (hb hby at_181) rfl (XT.ii_le_f hc181_623) k_) ?_
                  show own_Goes p e below (T600.setTop (mkF m 184 #[.val (.int q0), .val (.int q1), .val (.int q2), .val (.int q3), .val (.int q4), .val (.int n), .val (.int x0), .val (.int x1), .val (.int x2), .val (.int x3), .val (.ref b568), .val (.ref b570), .val (.int kk178), .unset, .unset, .unset, .unset, .unset, .unset, .unset] [])) (G_own_law Z q0 q1 q2 q3 q4 h0 n0 s)
                  refine own_go (fun _ k_ => XS.iload X600.here hx rfl (hb hby at_184) rfl k_) ?_
                  show own_Goes p e below (T600.setTop (mkF m 186 #[.val (.int q0), .val (.int q1), .val (.int q2), .val (.int q3), .val (.int q4), .val (.int n), .val (.int x0), .val (.int x1), .val (.int x2), .val (.int x3), .val (.ref b568), .val (.ref b570), .val (.int kk178), .unset, .unset, .unset, .unset, .unset, .unset, .unset] [(.int x3)])) (G_own_law Z q0 q1 q2 q3 q4 h0 n0 s)
                  refine own_go (fun _ k_ => XS.iload X600.here hx rfl (hb hby at_186) rfl k_) ?_
                  show own_Goes p e below (T600.setTop (mkF m 188 #[.val (.int q0), .val (.int q1), .val (.int q2), .val (.int q3), .val (.int q4), .val (.int n), .val (.int x0), .val (.int x1), .val (.int x2), .val (.int x3), .val (.ref b568), .val (.ref b570), .val (.int kk178), .unset, .unset, .unset, .unset, .unset, .unset, .unset] [(.int x0), (.int x3)])) (G_own_law Z q0 q1 q2 q3 q4 h0 n0 s)
                  by_cases hc188_624 : x3 = x0
                  · refine own_go (fun _ k_ => XS.icmpYes X600.here hx rfl (pc0 := 188) (pc' := 215) rfl (hb hby at_188) rfl (XT.ii_eq_t hc188_624) (by decide) (by decide) k_) ?_
                    show own_Goes p e below (T600.setTop (mkF m 215 #[.val (.int q0), .val (.int q1), .val (.int q2), .val (.int q3), .val (.int q4), .val (.int n), .val (.int x0), .val (.int x1), .val (.int x2), .val (.int x3), .val (.ref b568), .val (.ref b570), .val (.int kk178), .unset, .unset, .unset, .unset, .unset, .unset, .unset] [])) (G_own_law Z q0 q1 q2 q3 q4 h0 n0 s)
                    exact J215_601 _ h600 _ wl178 kk178 X600 e600 N600 Z600 f600_0 f600_1 f600_2 f600_3 f600_4 f600_5 f600_6 f600_7 f600_8 f600_9 f600_10 f600_11 f600_12 f600_13 f600_14 lw178 (by unfold own_w4; rw [if_neg (by simp [hc181_623, hc188_624]), ← hwt178])
                  · refine own_go (fun _ k_ => XS.icmpNo X600.here hx rfl (hb hby at_188) rfl (XT.ii_eq_f hc188_624) k_) ?_
                    show own_Goes p e below (T600.setTop (mkF m 191 #[.val (.int q0), .val (.int q1), .val (.int q2), .val (.int q3), .val (.int q4), .val (.int n), .val (.int x0), .val (.int x1), .val (.int x2), .val (.int x3), .val (.ref b568), .val (.ref b570), .val (.int kk178), .unset, .unset, .unset, .unset, .unset, .unset, .unset] [])) (G_own_law Z q0 q1 q2 q3 q4 h0 n0 s)
                    refine own_go (fun _ k_ => XS.iload X600.here hx rfl (hb hby at_191) rfl k_) ?_
                    show own_Goes p e below (T600.setTop (mkF m 193 #[.val (.int q0), .val (.int q1), .val (.int q2), .val (.int q3), .val (.int q4), .val (.int n), .val (.int x0), .val (.int x1), .val (.int x2), .val (.int x3), .val (.ref b568), .val (.ref b570), .val (.int kk178), .unset, .unset, .unset, .unset, .unset, .unset, .unset] [(.int x3)])) (G_own_law Z q0 q1 q2 q3 q4 h0 n0 s)
                    refine own_go (fun _ k_ => XS.iload X600.here hx rfl (hb hby at_193) rfl k_) ?_
                    show own_Goes p e below (T600.setTop (mkF m 195 #[.val (.int q0), .val (.int q1), .val (.int q2), .val (.int q3), .val (.int q4), .val (.int n), .val (.int x0), .val (.int x1), .val (.int x2), .val (.int x3), .val (.ref b568), .val (.ref b570), .val (.int kk178), .unset, .unset, .unset, .unset, .unset, .unset, .unset] [(.int x1), (.int x3)])) (G_own_law Z q0 q1 q2 q3 q4 h0 n0 s)
                    by_cases hc195_625 : x3 = x1
                    · refine own_go (fun _ k_ => XS.icmpYes X600.here hx rfl (pc0 := 195) (pc' := 215) rfl (hb hby at_195) rfl (XT.ii_eq_t hc195_625) (by decide) (by decide) k_) ?_
                      show own_Goes p e below (T600.setTop (mkF m 215 #[.val (.int q0), .val (.int q1), .val (.int q2), .val (.int q3), .val (.int q4), .val (.int n), .val (.int x0), .val (.int x1), .val (.int x2), .val (.int x3), .val (.ref b568), .val (.ref b570), .val (.int kk178), .unset, .unset, .unset, .unset, .unset, .unset, .unset] [])) (G_own_law Z q0 q1 q2 q3 q4 h0 n0 s)
                      exact J215_601 _ h600 _ wl178 kk178 X600 e600 N600 Z600 f600_0 f600_1 f600_2 f600_3 f600_4 f600_5 f600_6 f600_7 f600_8 f600_9 f600_10 f600_11 f600_12 f600_13 f600_14 lw178 (by unfold own_w4; rw [if_neg (by simp [hc181_623, hc188_624, hc195_625]), ← hwt178])
                    · refine own_go (fun _ k_ => XS.icmpNo X600.here hx rfl (hb hby at_195) rfl (XT.ii_eq_f hc195_625) k_) ?_
                      show own_Goes p e below (T600.setTop (mkF m 198 #[.val (.int q0), .val (.int q1), .val (.int q2), .val (.int q3), .val (.int q4), .val (.int n), .val (.int x0), .val (.int x1), .val (.int x2), .val (.int x3), .val (.ref b568), .val (.ref b570), .val (.int kk178), .unset, .unset, .unset, .unset, .unset, .unset, .unset] [])) (G_own_law Z q0 q1 q2 q3 q4 h0 n0 s)
                      refine own_go (fun _ k_ => XS.iload X600.here hx rfl (hb hby at_198) rfl k_) ?_
                      show own_Goes p e below (T600.setTop (mkF m 200 #[.val (.int q0), .val (.int q1), .val (.int q2), .val (.int q3), .val (.int q4), .val (.int n), .val (.int x0), .val (.int x1), .val (.int x2), .val (.int x3), .val (.ref b568), .val (.ref b570), .val (.int kk178), .unset, .unset, .unset, .unset, .unset, .unset, .unset] [(.int x3)])) (G_own_law Z q0 q1 q2 q3 q4 h0 n0 s)
                      refine own_go (fun _ k_ => XS.iload X600.here hx rfl (hb hby at_200) rfl k_) ?_
                      show own_Goes p e below (T600.setTop (mkF m 202 #[.val (.int q0), .val (.int q1), .val (.int q2), .val (.int q3), .val (.int q4), .val (.int n), .val (.int x0), .val (.int x1), .val (.int x2), .val (.int x3), .val (.ref b568), .val (.ref b570), .val (.int kk178), .unset, .unset, .unset, .unset, .unset, .unset, .unset] [(.int x2), (.int x3)])) (G_own_law Z q0 q1 q2 q3 q4 h0 n0 s)
                      by_cases hc202_626 : x3 = x2
                      · refine own_go (fun _ k_ => XS.icmpYes X600.here hx rfl (pc0 := 202) (pc' := 215) rfl (hb hby at_202) rfl (XT.ii_eq_t hc202_626) (by decide) (by decide) k_) ?_
                        show own_Goes p e below (T600.setTop (mkF m 215 #[.val (.int q0), .val (.int q1), .val (.int q2), .val (.int q3), .val (.int q4), .val (.int n), .val (.int x0), .val (.int x1), .val (.int x2), .val (.int x3), .val (.ref b568), .val (.ref b570), .val (.int kk178), .unset, .unset, .unset, .unset, .unset, .unset, .unset] [])) (G_own_law Z q0 q1 q2 q3 q4 h0 n0 s)
                        exact J215_601 _ h600 _ wl178 kk178 X600 e600 N600 Z600 f600_0 f600_1 f600_2 f600_3 f600_4 f600_5 f600_6 f600_7 f600_8 f600_9 f600_10 f600_11 f600_12 f600_13 f600_14 lw178 (by unfold own_w4; rw [if_neg (by simp [hc181_623, hc188_624, hc195_625, hc202_626]), ← hwt178])
                      · refine own_go (fun _ k_ => XS.icmpNo X600.here hx rfl (hb hby at_202) rfl (XT.ii_eq_f hc202_626) k_) ?_
                        show own_Goes p e below (T600.setTop (mkF m 205 #[.val (.int q0), .val (.int q1), .val (.int q2), .val (.int q3), .val (.int q4), .val (.int n), .val (.int x0), .val (.int x1), .val (.int x2), .val (.int x3), .val (.ref b568), .val (.ref b570), .val (.int kk178), .unset, .unset, .unset, .unset, .unset, .unset, .unset] [])) (G_own_law Z q0 q1 q2 q3 q4 h0 n0 s)
                        refine own_go (fun _ k_ => XS.aload X600.here hx rfl (hb hby at_205) rfl rfl k_) ?_
                        show own_Goes p e below (T600.setTop (mkF m 207 #[.val (.int q0), .val (.int q1), .val (.int q2), .val (.int q3), .val (.int q4), .val (.int n), .val (.int x0), .val (.int x1), .val (.int x2), .val (.int x3), .val (.ref b568), .val (.ref b570), .val (.int kk178), .unset, .unset, .unset, .unset, .unset, .unset, .unset] [(.ref b568)])) (G_own_law Z q0 q1 q2 q3 q4 h0 n0 s)
                        refine own_go (fun _ k_ => XS.iload X600.here hx rfl (hb hby at_207) rfl k_) ?_
                        show own_Goes p e below (T600.setTop (mkF m 209 #[.val (.int q0), .val (.int q1), .val (.int q2), .val (.int q3), .val (.int q4), .val (.int n), .val (.int x0), .val (.int x1), .val (.int x2), .val (.int x3), .val (.ref b568), .val (.ref b570), .val (.int kk178), .unset, .unset, .unset, .unset, .unset, .unset, .unset] [(.int kk178), (.ref b568)])) (G_own_law Z q0 q1 q2 q3 q4 h0 n0 s)
                        refine own_go (fun _ k_ => XS.iload X600.here hx rfl (hb hby at_209) rfl k_) ?_
                        show own_Goes p e below (T600.setTop (mkF m 211 #[.val (.int q0), .val (.int q1), .val (.int q2), .val (.int q3), .val (.int q4), .val (.int n), .val (.int x0), .val (.int x1), .val (.int x2), .val (.int x3), .val (.ref b568), .val (.ref b570), .val (.int kk178), .unset, .unset, .unset, .unset, .unset, .unset, .unset] [(.int x3), (.int kk178), (.ref b568)])) (G_own_law Z q0 q1 q2 q3 q4 h0 n0 s)
                        obtain ⟨c627, Ar627, q627, s627, z627, H627, G627⟩ := id f600_0
                        have hin627 := inb_of s627 (j := kk178) hki178
                        obtain ⟨T627, h627, X627, e627, W627, st627⟩ := stI X600 hx hZ e600 Ar627 hin627 (g := (mkF m 211 #[.val (.int q0), .val (.int q1), .val (.int q2), .val (.int q3), .val (.int q4), .val (.int n), .val (.int x0), .val (.int x1), .val (.int x2), .val (.int x3), .val (.ref b568), .val (.ref b570), .val (.int kk178), .unset, .unset, .unset, .unset, .unset, .unset, .unset] [(.int x3), (.int kk178), (.ref b568)])) rfl rfl (hb hby at_211)
                        have f600_628 := f600_1.wr W627
                        have f600_629 := f600_2.other W627 (Or.inl (Ne.symm ne_b568_b570))
                        have f600_630 := f600_3.other W627 (Ne.symm nw_ae)
                        have f600_631 := f600_4.other W627 (Or.inl (Ne.symm ne_b568_b570))
                        have f600_632 := f600_5.other W627 (Ne.symm nw_ao)
                        have f600_633 := f600_6.other W627 (Or.inl (Ne.symm ne_b568_b570))
                        have f600_634 := f600_7.other W627 (Ne.symm nw_ab)
                        have f600_635 := f600_8.other W627 (Or.inl (Ne.symm ne_b568_b570))
                        have f600_636 := f600_9.other W627 (Ne.symm nw_asx)
                        have f600_637 := f600_10.other W627 (Or.inl (Ne.symm ne_b568_b570))
                        have f600_638 := f600_11.other W627 (Ne.symm nw_am)
                        have f600_639 := f600_12.other W627 (Or.inl (Ne.symm ne_b568_b570))
                        have f600_640 := f600_13.other W627 (Ne.symm nw_atx)
                        have f600_641 := f600_14.other W627 (Or.inl (Ne.symm ne_b568_b570))
                        have Av627 : Arv Z h627 b568 cA568 .int (4 : Int32) ((wl178.set (kk178).toNatClampNeg x3).map Value.int) (.int (0 : Int32)) := by rw [List.map_set]; exact Arv.set Ar627 q627 s627 z627 H627 G627 (v := (.int x3)) rfl W627 _ rfl (own_ix (j := kk178) (z := (4 : Int32)) hki178 lw178)
                        have N627 := Fr.snoc X627 N600 g_b568
                        have Z627 : n0 ≤ h627.size := by rw [W627.size]; exact Z600
                        refine own_go st627 ?_
                        show own_Goes p e below (T627.setTop (mkF m 212 #[.val (.int q0), .val (.int q1), .val (.int q2), .val (.int q3), .val (.int q4), .val (.int n), .val (.int x0), .val (.int x1), .val (.int x2), .val (.int x3), .val (.ref b568), .val (.ref b570), .val (.int kk178), .unset, .unset, .unset, .unset, .unset, .unset, .unset] [])) (G_own_law Z q0 q1 q2 q3 q4 h0 n0 s)
                        refine own_go (fun _ k_ => XS.iinc X627.here hx rfl (hb hby at_212) rfl (l' := #[.val (.int q0), .val (.int q1), .val (.int q2), .val (.int q3), .val (.int q4), .val (.int n), .val (.int x0), .val (.int x1), .val (.int x2), .val (.int x3), .val (.ref b568), .val (.ref b570), .val (.int (kk178 + (1 : Int32))), .unset, .unset, .unset, .unset, .unset, .unset, .unset]) rfl k_) ?_
                        show own_Goes p e below (T627.setTop (mkF m 215 #[.val (.int q0), .val (.int q1), .val (.int q2), .val (.int q3), .val (.int q4), .val (.int n), .val (.int x0), .val (.int x1), .val (.int x2), .val (.int x3), .val (.ref b568), .val (.ref b570), .val (.int (kk178 + (1 : Int32))), .unset, .unset, .unset, .unset, .unset, .unset, .unset] [])) (G_own_law Z q0 q1 q2 q3 q4 h0 n0 s)
                        exact J215_601 _ h627 _ (wl178.set (kk178).toNatClampNeg x3) (kk178 + (1 : Int32)) X627 e627 N627 Z627 Av627 f600_628 f600_629 f600_630 f600_631 f600_632 f600_633 f600_634 f600_635 f600_636 f600_637 f600_638 f600_639 f600_640 f600_641 ((List.length_set ..).trans lw178) (by unfold own_w4; rw [if_pos (by simp [hc181_623, hc188_624, hc195_625, hc202_626]), ← hwt178]; rfl)
                · refine own_go (fun _ k_ => XS.icmpYes X600.here hx rfl (pc0 := 181) (pc' := 215) rfl (hb hby at_181) rfl (XT.ii_le_t hc181_623) (by decide) (by decide) k_) ?_
                  show own_Goes p e below (T600.setTop (mkF m 215 #[.val (.int q0), .val (.int q1), .val (.int q2), .val (.int q3), .val (.int q4), .val (.int n), .val (.int x0), .val (.int x1), .val (.int x2), .val (.int x3), .val (.ref b568), .val (.ref b570), .val (.int kk178), .unset, .unset, .unset, .unset, .unset, .unset, .unset] [])) (G_own_law Z q0 q1 q2 q3 q4 h0 n0 s)
                  exact J215_601 _ h600 _ wl178 kk178 X600 e600 N600 Z600 f600_0 f600_1 f600_2 f600_3 f600_4 f600_5 f600_6 f600_7 f600_8 f600_9 f600_10 f600_11 f600_12 f600_13 f600_14 lw178 (by unfold own_w4; rw [if_neg (by simp [hc181_623]), ← hwt178])
              refine own_go (fun _ k_ => XS.iload X599.here hx rfl (hb hby at_148) rfl k_) ?_
              show own_Goes p e below (T599.setTop (mkF m 150 #[.val (.int q0), .val (.int q1), .val (.int q2), .val (.int q3), .val (.int q4), .val (.int n), .val (.int x0), .val (.int x1), .val (.int x2), .val (.int x3), .val (.ref b568), .val (.ref b570), .val (.int kk148), .unset, .unset, .unset, .unset, .unset, .unset, .unset] [(.int n)])) (G_own_law Z q0 q1 q2 q3 q4 h0 n0 s)
              refine own_go (fun _ k_ => XS.iconst X599.here hx rfl (hb hby at_150) k_) ?_
              show own_Goes p e below (T599.setTop (mkF m 151 #[.val (.int q0), .val (.int q1), .val (.int q2), .val (.int q3), .val (.int q4), .val (.int n), .val (.int x0), .val (.int x1), .val (.int x2), .val (.int x3), .val (.ref b568), .val (.ref b570), .val (.int kk148), .unset, .unset, .unset, .unset, .unset, .unset, .unset] [(.int (2 : Int32)), (.int n)])) (G_own_law Z q0 q1 q2 q3 q4 h0 n0 s)
              by_cases hc151_642 : (2 : Int32) < n
              · refine own_go (fun _ k_ => XS.icmpNo X599.here hx rfl (hb hby at_151) rfl (XT.ii_le_f hc151_642) k_) ?_
                show own_Goes p e below (T599.setTop (mkF m 154 #[.val (.int q0), .val (.int q1), .val (.int q2), .val (.int q3), .val (.int q4), .val (.int n), .val (.int x0), .val (.int x1), .val (.int x2), .val (.int x3), .val (.ref b568), .val (.ref b570), .val (.int kk148), .unset, .unset, .unset, .unset, .unset, .unset, .unset] [])) (G_own_law Z q0 q1 q2 q3 q4 h0 n0 s)
                refine own_go (fun _ k_ => XS.iload X599.here hx rfl (hb hby at_154) rfl k_) ?_
                show own_Goes p e below (T599.setTop (mkF m 156 #[.val (.int q0), .val (.int q1), .val (.int q2), .val (.int q3), .val (.int q4), .val (.int n), .val (.int x0), .val (.int x1), .val (.int x2), .val (.int x3), .val (.ref b568), .val (.ref b570), .val (.int kk148), .unset, .unset, .unset, .unset, .unset, .unset, .unset] [(.int x2)])) (G_own_law Z q0 q1 q2 q3 q4 h0 n0 s)
                refine own_go (fun _ k_ => XS.iload X599.here hx rfl (hb hby at_156) rfl k_) ?_
                show own_Goes p e below (T599.setTop (mkF m 158 #[.val (.int q0), .val (.int q1), .val (.int q2), .val (.int q3), .val (.int q4), .val (.int n), .val (.int x0), .val (.int x1), .val (.int x2), .val (.int x3), .val (.ref b568), .val (.ref b570), .val (.int kk148), .unset, .unset, .unset, .unset, .unset, .unset, .unset] [(.int x0), (.int x2)])) (G_own_law Z q0 q1 q2 q3 q4 h0 n0 s)
                by_cases hc158_643 : x2 = x0
                · refine own_go (fun _ k_ => XS.icmpYes X599.here hx rfl (pc0 := 158) (pc' := 178) rfl (hb hby at_158) rfl (XT.ii_eq_t hc158_643) (by decide) (by decide) k_) ?_
                  show own_Goes p e below (T599.setTop (mkF m 178 #[.val (.int q0), .val (.int q1), .val (.int q2), .val (.int q3), .val (.int q4), .val (.int n), .val (.int x0), .val (.int x1), .val (.int x2), .val (.int x3), .val (.ref b568), .val (.ref b570), .val (.int kk148), .unset, .unset, .unset, .unset, .unset, .unset, .unset] [])) (G_own_law Z q0 q1 q2 q3 q4 h0 n0 s)
                  exact J178_600 _ h599 _ wl148 kk148 X599 e599 N599 Z599 f599_0 f599_1 f599_2 f599_3 f599_4 f599_5 f599_6 f599_7 f599_8 f599_9 f599_10 f599_11 f599_12 f599_13 f599_14 lw148 (by unfold own_w3; rw [if_neg (by simp [hc151_642, hc158_643]), ← hwt148])
                · refine own_go (fun _ k_ => XS.icmpNo X599.here hx rfl (hb hby at_158) rfl (XT.ii_eq_f hc158_643) k_) ?_
                  show own_Goes p e below (T599.setTop (mkF m 161 #[.val (.int q0), .val (.int q1), .val (.int q2), .val (.int q3), .val (.int q4), .val (.int n), .val (.int x0), .val (.int x1), .val (.int x2), .val (.int x3), .val (.ref b568), .val (.ref b570), .val (.int kk148), .unset, .unset, .unset, .unset, .unset, .unset, .unset] [])) (G_own_law Z q0 q1 q2 q3 q4 h0 n0 s)
                  refine own_go (fun _ k_ => XS.iload X599.here hx rfl (hb hby at_161) rfl k_) ?_
                  show own_Goes p e below (T599.setTop (mkF m 163 #[.val (.int q0), .val (.int q1), .val (.int q2), .val (.int q3), .val (.int q4), .val (.int n), .val (.int x0), .val (.int x1), .val (.int x2), .val (.int x3), .val (.ref b568), .val (.ref b570), .val (.int kk148), .unset, .unset, .unset, .unset, .unset, .unset, .unset] [(.int x2)])) (G_own_law Z q0 q1 q2 q3 q4 h0 n0 s)
                  refine own_go (fun _ k_ => XS.iload X599.here hx rfl (hb hby at_163) rfl k_) ?_
                  show own_Goes p e below (T599.setTop (mkF m 165 #[.val (.int q0), .val (.int q1), .val (.int q2), .val (.int q3), .val (.int q4), .val (.int n), .val (.int x0), .val (.int x1), .val (.int x2), .val (.int x3), .val (.ref b568), .val (.ref b570), .val (.int kk148), .unset, .unset, .unset, .unset, .unset, .unset, .unset] [(.int x1), (.int x2)])) (G_own_law Z q0 q1 q2 q3 q4 h0 n0 s)
                  by_cases hc165_644 : x2 = x1
                  · refine own_go (fun _ k_ => XS.icmpYes X599.here hx rfl (pc0 := 165) (pc' := 178) rfl (hb hby at_165) rfl (XT.ii_eq_t hc165_644) (by decide) (by decide) k_) ?_
                    show own_Goes p e below (T599.setTop (mkF m 178 #[.val (.int q0), .val (.int q1), .val (.int q2), .val (.int q3), .val (.int q4), .val (.int n), .val (.int x0), .val (.int x1), .val (.int x2), .val (.int x3), .val (.ref b568), .val (.ref b570), .val (.int kk148), .unset, .unset, .unset, .unset, .unset, .unset, .unset] [])) (G_own_law Z q0 q1 q2 q3 q4 h0 n0 s)
                    exact J178_600 _ h599 _ wl148 kk148 X599 e599 N599 Z599 f599_0 f599_1 f599_2 f599_3 f599_4 f599_5 f599_6 f599_7 f599_8 f599_9 f599_10 f599_11 f599_12 f599_13 f599_14 lw148 (by unfold own_w3; rw [if_neg (by simp [hc151_642, hc158_643, hc165_644]), ← hwt148])
                  · refine own_go (fun _ k_ => XS.icmpNo X599.here hx rfl (hb hby at_165) rfl (XT.ii_eq_f hc165_644) k_) ?_
                    show own_Goes p e below (T599.setTop (mkF m 168 #[.val (.int q0), .val (.int q1), .val (.int q2), .val (.int q3), .val (.int q4), .val (.int n), .val (.int x0), .val (.int x1), .val (.int x2), .val (.int x3), .val (.ref b568), .val (.ref b570), .val (.int kk148), .unset, .unset, .unset, .unset, .unset, .unset, .unset] [])) (G_own_law Z q0 q1 q2 q3 q4 h0 n0 s)
                    refine own_go (fun _ k_ => XS.aload X599.here hx rfl (hb hby at_168) rfl rfl k_) ?_
                    show own_Goes p e below (T599.setTop (mkF m 170 #[.val (.int q0), .val (.int q1), .val (.int q2), .val (.int q3), .val (.int q4), .val (.int n), .val (.int x0), .val (.int x1), .val (.int x2), .val (.int x3), .val (.ref b568), .val (.ref b570), .val (.int kk148), .unset, .unset, .unset, .unset, .unset, .unset, .unset] [(.ref b568)])) (G_own_law Z q0 q1 q2 q3 q4 h0 n0 s)
                    refine own_go (fun _ k_ => XS.iload X599.here hx rfl (hb hby at_170) rfl k_) ?_
                    show own_Goes p e below (T599.setTop (mkF m 172 #[.val (.int q0), .val (.int q1), .val (.int q2), .val (.int q3), .val (.int q4), .val (.int n), .val (.int x0), .val (.int x1), .val (.int x2), .val (.int x3), .val (.ref b568), .val (.ref b570), .val (.int kk148), .unset, .unset, .unset, .unset, .unset, .unset, .unset] [(.int kk148), (.ref b568)])) (G_own_law Z q0 q1 q2 q3 q4 h0 n0 s)
                    refine own_go (fun _ k_ => XS.iload X599.here hx rfl (hb hby at_172) rfl k_) ?_
                    show own_Goes p e below (T599.setTop (mkF m 174 #[.val (.int q0), .val (.int q1), .val (.int q2), .val (.int q3), .val (.int q4), .val (.int n), .val (.int x0), .val (.int x1), .val (.int x2), .val (.int x3), .val (.ref b568), .val (.ref b570), .val (.int kk148), .unset, .unset, .unset, .unset, .unset, .unset, .unset] [(.int x2), (.int kk148), (.ref b568)])) (G_own_law Z q0 q1 q2 q3 q4 h0 n0 s)
                    obtain ⟨c645, Ar645, q645, s645, z645, H645, G645⟩ := id f599_0
                    have hin645 := inb_of s645 (j := kk148) hki148
                    obtain ⟨T645, h645, X645, e645, W645, st645⟩ := stI X599 hx hZ e599 Ar645 hin645 (g := (mkF m 174 #[.val (.int q0), .val (.int q1), .val (.int q2), .val (.int q3), .val (.int q4), .val (.int n), .val (.int x0), .val (.int x1), .val (.int x2), .val (.int x3), .val (.ref b568), .val (.ref b570), .val (.int kk148), .unset, .unset, .unset, .unset, .unset, .unset, .unset] [(.int x2), (.int kk148), (.ref b568)])) rfl rfl (hb hby at_174)
                    have f599_646 := f599_1.wr W645
                    have f599_647 := f599_2.other W645 (Or.inl (Ne.symm ne_b568_b570))
                    have f599_648 := f599_3.other W645 (Ne.symm nw_ae)
                    have f599_649 := f599_4.other W645 (Or.inl (Ne.symm ne_b568_b570))
                    have f599_650 := f599_5.other W645 (Ne.symm nw_ao)
                    have f599_651 := f599_6.other W645 (Or.inl (Ne.symm ne_b568_b570))
                    have f599_652 := f599_7.other W645 (Ne.symm nw_ab)
                    have f599_653 := f599_8.other W645 (Or.inl (Ne.symm ne_b568_b570))
                    have f599_654 := f599_9.other W645 (Ne.symm nw_asx)
                    have f599_655 := f599_10.other W645 (Or.inl (Ne.symm ne_b568_b570))
                    have f599_656 := f599_11.other W645 (Ne.symm nw_am)
                    have f599_657 := f599_12.other W645 (Or.inl (Ne.symm ne_b568_b570))
                    have f599_658 := f599_13.other W645 (Ne.symm nw_atx)
                    have f599_659 := f599_14.other W645 (Or.inl (Ne.symm ne_b568_b570))
                    have Av645 : Arv Z h645 b568 cA568 .int (4 : Int32) ((wl148.set (kk148).toNatClampNeg x2).map Value.int) (.int (0 : Int32)) := by rw [List.map_set]; exact Arv.set Ar645 q645 s645 z645 H645 G645 (v := (.int x2)) rfl W645 _ rfl (own_ix (j := kk148) (z := (4 : Int32)) hki148 lw148)
                    have N645 := Fr.snoc X645 N599 g_b568
                    have Z645 : n0 ≤ h645.size := by rw [W645.size]; exact Z599
                    refine own_go st645 ?_
                    show own_Goes p e below (T645.setTop (mkF m 175 #[.val (.int q0), .val (.int q1), .val (.int q2), .val (.int q3), .val (.int q4), .val (.int n), .val (.int x0), .val (.int x1), .val (.int x2), .val (.int x3), .val (.ref b568), .val (.ref b570), .val (.int kk148), .unset, .unset, .unset, .unset, .unset, .unset, .unset] [])) (G_own_law Z q0 q1 q2 q3 q4 h0 n0 s)
                    refine own_go (fun _ k_ => XS.iinc X645.here hx rfl (hb hby at_175) rfl (l' := #[.val (.int q0), .val (.int q1), .val (.int q2), .val (.int q3), .val (.int q4), .val (.int n), .val (.int x0), .val (.int x1), .val (.int x2), .val (.int x3), .val (.ref b568), .val (.ref b570), .val (.int (kk148 + (1 : Int32))), .unset, .unset, .unset, .unset, .unset, .unset, .unset]) rfl k_) ?_
                    show own_Goes p e below (T645.setTop (mkF m 178 #[.val (.int q0), .val (.int q1), .val (.int q2), .val (.int q3), .val (.int q4), .val (.int n), .val (.int x0), .val (.int x1), .val (.int x2), .val (.int x3), .val (.ref b568), .val (.ref b570), .val (.int (kk148 + (1 : Int32))), .unset, .unset, .unset, .unset, .unset, .unset, .unset] [])) (G_own_law Z q0 q1 q2 q3 q4 h0 n0 s)
                    exact J178_600 _ h645 _ (wl148.set (kk148).toNatClampNeg x2) (kk148 + (1 : Int32)) X645 e645 N645 Z645 Av645 f599_646 f599_647 f599_648 f599_649 f599_650 f599_651 f599_652 f599_653 f599_654 f599_655 f599_656 f599_657 f599_658 f599_659 ((List.length_set ..).trans lw148) (by unfold own_w3; rw [if_pos (by simp [hc151_642, hc158_643, hc165_644]), ← hwt148]; rfl)
              · refine own_go (fun _ k_ => XS.icmpYes X599.here hx rfl (pc0 := 151) (pc' := 178) rfl (hb hby at_151) rfl (XT.ii_le_t hc151_642) (by decide) (by decide) k_) ?_
                show own_Goes p e below (T599.setTop (mkF m 178 #[.val (.int q0), .val (.int q1), .val (.int q2), .val (.int q3), .val (.int q4), .val (.int n), .val (.int x0), .val (.int x1), .val (.int x2), .val (.int x3), .val (.ref b568), .val (.ref b570), .val (.int kk148), .unset, .unset, .unset, .unset, .unset, .unset, .unset] [])) (G_own_law Z q0 q1 q2 q3 q4 h0 n0 s)
                exact J178_600 _ h599 _ wl148 kk148 X599 e599 N599 Z599 f599_0 f599_1 f599_2 f599_3 f599_4 f599_5 f599_6 f599_7 f599_8 f599_9 f599_10 f599_11 f599_12 f599_13 f599_14 lw148 (by unfold own_w3; rw [if_neg (by simp [hc151_642]), ← hwt148])
            refine own_go (fun _ k_ => XS.iload X598.here hx rfl (hb hby at_125) rfl k_) ?_
            show own_Goes p e below (T598.setTop (mkF m 127 #[.val (.int q0), .val (.int q1), .val (.int q2), .val (.int q3), .val (.int q4), .val (.int n), .val (.int x0), .val (.int x1), .val (.int x2), .val (.int x3), .val (.ref b568), .val (.ref b570), .val (.int kk125), .unset, .unset, .unset, .unset, .unset, .unset, .unset] [(.int n)])) (G_own_law Z q0 q1 q2 q3 q4 h0 n0 s)
            refine own_go (fun _ k_ => XS.iconst X598.here hx rfl (hb hby at_127) k_) ?_
            show own_Goes p e below (T598.setTop (mkF m 128 #[.val (.int q0), .val (.int q1), .val (.int q2), .val (.int q3), .val (.int q4), .val (.int n), .val (.int x0), .val (.int x1), .val (.int x2), .val (.int x3), .val (.ref b568), .val (.ref b570), .val (.int kk125), .unset, .unset, .unset, .unset, .unset, .unset, .unset] [(.int (1 : Int32)), (.int n)])) (G_own_law Z q0 q1 q2 q3 q4 h0 n0 s)
            by_cases hc128_660 : (1 : Int32) < n
            · refine own_go (fun _ k_ => XS.icmpNo X598.here hx rfl (hb hby at_128) rfl (XT.ii_le_f hc128_660) k_) ?_
              show own_Goes p e below (T598.setTop (mkF m 131 #[.val (.int q0), .val (.int q1), .val (.int q2), .val (.int q3), .val (.int q4), .val (.int n), .val (.int x0), .val (.int x1), .val (.int x2), .val (.int x3), .val (.ref b568), .val (.ref b570), .val (.int kk125), .unset, .unset, .unset, .unset, .unset, .unset, .unset] [])) (G_own_law Z q0 q1 q2 q3 q4 h0 n0 s)
              refine own_go (fun _ k_ => XS.iload X598.here hx rfl (hb hby at_131) rfl k_) ?_
              show own_Goes p e below (T598.setTop (mkF m 133 #[.val (.int q0), .val (.int q1), .val (.int q2), .val (.int q3), .val (.int q4), .val (.int n), .val (.int x0), .val (.int x1), .val (.int x2), .val (.int x3), .val (.ref b568), .val (.ref b570), .val (.int kk125), .unset, .unset, .unset, .unset, .unset, .unset, .unset] [(.int x1)])) (G_own_law Z q0 q1 q2 q3 q4 h0 n0 s)
              refine own_go (fun _ k_ => XS.iload X598.here hx rfl (hb hby at_133) rfl k_) ?_
              show own_Goes p e below (T598.setTop (mkF m 135 #[.val (.int q0), .val (.int q1), .val (.int q2), .val (.int q3), .val (.int q4), .val (.int n), .val (.int x0), .val (.int x1), .val (.int x2), .val (.int x3), .val (.ref b568), .val (.ref b570), .val (.int kk125), .unset, .unset, .unset, .unset, .unset, .unset, .unset] [(.int x0), (.int x1)])) (G_own_law Z q0 q1 q2 q3 q4 h0 n0 s)
              by_cases hc135_661 : x1 = x0
              · refine own_go (fun _ k_ => XS.icmpYes X598.here hx rfl (pc0 := 135) (pc' := 148) rfl (hb hby at_135) rfl (XT.ii_eq_t hc135_661) (by decide) (by decide) k_) ?_
                show own_Goes p e below (T598.setTop (mkF m 148 #[.val (.int q0), .val (.int q1), .val (.int q2), .val (.int q3), .val (.int q4), .val (.int n), .val (.int x0), .val (.int x1), .val (.int x2), .val (.int x3), .val (.ref b568), .val (.ref b570), .val (.int kk125), .unset, .unset, .unset, .unset, .unset, .unset, .unset] [])) (G_own_law Z q0 q1 q2 q3 q4 h0 n0 s)
                exact J148_599 _ h598 _ wl125 kk125 X598 e598 N598 Z598 f598_0 f598_1 f598_2 f598_3 f598_4 f598_5 f598_6 f598_7 f598_8 f598_9 f598_10 f598_11 f598_12 f598_13 f598_14 lw125 (by unfold own_w2; rw [if_neg (by simp [hc128_660, hc135_661]), ← hwt125])
              · refine own_go (fun _ k_ => XS.icmpNo X598.here hx rfl (hb hby at_135) rfl (XT.ii_eq_f hc135_661) k_) ?_
                show own_Goes p e below (T598.setTop (mkF m 138 #[.val (.int q0), .val (.int q1), .val (.int q2), .val (.int q3), .val (.int q4), .val (.int n), .val (.int x0), .val (.int x1), .val (.int x2), .val (.int x3), .val (.ref b568), .val (.ref b570), .val (.int kk125), .unset, .unset, .unset, .unset, .unset, .unset, .unset] [])) (G_own_law Z q0 q1 q2 q3 q4 h0 n0 s)
                refine own_go (fun _ k_ => XS.aload X598.here hx rfl (hb hby at_138) rfl rfl k_) ?_
                show own_Goes p e below (T598.setTop (mkF m 140 #[.val (.int q0), .val (.int q1), .val (.int q2), .val (.int q3), .val (.int q4), .val (.int n), .val (.int x0), .val (.int x1), .val (.int x2), .val (.int x3), .val (.ref b568), .val (.ref b570), .val (.int kk125), .unset, .unset, .unset, .unset, .unset, .unset, .unset] [(.ref b568)])) (G_own_law Z q0 q1 q2 q3 q4 h0 n0 s)
                refine own_go (fun _ k_ => XS.iload X598.here hx rfl (hb hby at_140) rfl k_) ?_
                show own_Goes p e below (T598.setTop (mkF m 142 #[.val (.int q0), .val (.int q1), .val (.int q2), .val (.int q3), .val (.int q4), .val (.int n), .val (.int x0), .val (.int x1), .val (.int x2), .val (.int x3), .val (.ref b568), .val (.ref b570), .val (.int kk125), .unset, .unset, .unset, .unset, .unset, .unset, .unset] [(.int kk125), (.ref b568)])) (G_own_law Z q0 q1 q2 q3 q4 h0 n0 s)
                refine own_go (fun _ k_ => XS.iload X598.here hx rfl (hb hby at_142) rfl k_) ?_
                show own_Goes p e below (T598.setTop (mkF m 144 #[.val (.int q0), .val (.int q1), .val (.int q2), .val (.int q3), .val (.int q4), .val (.int n), .val (.int x0), .val (.int x1), .val (.int x2), .val (.int x3), .val (.ref b568), .val (.ref b570), .val (.int kk125), .unset, .unset, .unset, .unset, .unset, .unset, .unset] [(.int x1), (.int kk125), (.ref b568)])) (G_own_law Z q0 q1 q2 q3 q4 h0 n0 s)
                obtain ⟨c662, Ar662, q662, s662, z662, H662, G662⟩ := id f598_0
                have hin662 := inb_of s662 (j := kk125) hki125
                obtain ⟨T662, h662, X662, e662, W662, st662⟩ := stI X598 hx hZ e598 Ar662 hin662 (g := (mkF m 144 #[.val (.int q0), .val (.int q1), .val (.int q2), .val (.int q3), .val (.int q4), .val (.int n), .val (.int x0), .val (.int x1), .val (.int x2), .val (.int x3), .val (.ref b568), .val (.ref b570), .val (.int kk125), .unset, .unset, .unset, .unset, .unset, .unset, .unset] [(.int x1), (.int kk125), (.ref b568)])) rfl rfl (hb hby at_144)
                have f598_663 := f598_1.wr W662
                have f598_664 := f598_2.other W662 (Or.inl (Ne.symm ne_b568_b570))
                have f598_665 := f598_3.other W662 (Ne.symm nw_ae)
                have f598_666 := f598_4.other W662 (Or.inl (Ne.symm ne_b568_b570))
                have f598_667 := f598_5.other W662 (Ne.symm nw_ao)
                have f598_668 := f598_6.other W662 (Or.inl (Ne.symm ne_b568_b570))
                have f598_669 := f598_7.other W662 (Ne.symm nw_ab)
                have f598_670 := f598_8.other W662 (Or.inl (Ne.symm ne_b568_b570))
                have f598_671 := f598_9.other W662 (Ne.symm nw_asx)
                have f598_672 := f598_10.other W662 (Or.inl (Ne.symm ne_b568_b570))
                have f598_673 := f598_11.other W662 (Ne.symm nw_am)
                have f598_674 := f598_12.other W662 (Or.inl (Ne.symm ne_b568_b570))
                have f598_675 := f598_13.other W662 (Ne.symm nw_atx)
                have f598_676 := f598_14.other W662 (Or.inl (Ne.symm ne_b568_b570))
                have Av662 : Arv Z h662 b568 cA568 .int (4 : Int32) ((wl125.set (kk125).toNatClampNeg x1).map Value.int) (.int (0 : Int32)) := by rw [List.map_set]; exact Arv.set Ar662 q662 s662 z662 H662 G662 (v := (.int x1)) rfl W662 _ rfl (own_ix (j := kk125) (z := (4 : Int32)) hki125 lw125)
                have N662 := Fr.snoc X662 N598 g_b568
                have Z662 : n0 ≤ h662.size := by rw [W662.size]; exact Z598
                refine own_go st662 ?_
                show own_Goes p e below (T662.setTop (mkF m 145 #[.val (.int q0), .val (.int q1), .val (.int q2), .val (.int q3), .val (.int q4), .val (.int n), .val (.int x0), .val (.int x1), .val (.int x2), .val (.int x3), .val (.ref b568), .val (.ref b570), .val (.int kk125), .unset, .unset, .unset, .unset, .unset, .unset, .unset] [])) (G_own_law Z q0 q1 q2 q3 q4 h0 n0 s)
                refine own_go (fun _ k_ => XS.iinc X662.here hx rfl (hb hby at_145) rfl (l' := #[.val (.int q0), .val (.int q1), .val (.int q2), .val (.int q3), .val (.int q4), .val (.int n), .val (.int x0), .val (.int x1), .val (.int x2), .val (.int x3), .val (.ref b568), .val (.ref b570), .val (.int (kk125 + (1 : Int32))), .unset, .unset, .unset, .unset, .unset, .unset, .unset]) rfl k_) ?_
                show own_Goes p e below (T662.setTop (mkF m 148 #[.val (.int q0), .val (.int q1), .val (.int q2), .val (.int q3), .val (.int q4), .val (.int n), .val (.int x0), .val (.int x1), .val (.int x2), .val (.int x3), .val (.ref b568), .val (.ref b570), .val (.int (kk125 + (1 : Int32))), .unset, .unset, .unset, .unset, .unset, .unset, .unset] [])) (G_own_law Z q0 q1 q2 q3 q4 h0 n0 s)
                exact J148_599 _ h662 _ (wl125.set (kk125).toNatClampNeg x1) (kk125 + (1 : Int32)) X662 e662 N662 Z662 Av662 f598_663 f598_664 f598_665 f598_666 f598_667 f598_668 f598_669 f598_670 f598_671 f598_672 f598_673 f598_674 f598_675 f598_676 ((List.length_set ..).trans lw125) (by unfold own_w2; rw [if_pos (by simp [hc128_660, hc135_661]), ← hwt125]; rfl)
            · refine own_go (fun _ k_ => XS.icmpYes X598.here hx rfl (pc0 := 128) (pc' := 148) rfl (hb hby at_128) rfl (XT.ii_le_t hc128_660) (by decide) (by decide) k_) ?_
              show own_Goes p e below (T598.setTop (mkF m 148 #[.val (.int q0), .val (.int q1), .val (.int q2), .val (.int q3), .val (.int q4), .val (.int n), .val (.int x0), .val (.int x1), .val (.int x2), .val (.int x3), .val (.ref b568), .val (.ref b570), .val (.int kk125), .unset, .unset, .unset, .unset, .unset, .unset, .unset] [])) (G_own_law Z q0 q1 q2 q3 q4 h0 n0 s)
              exact J148_599 _ h598 _ wl125 kk125 X598 e598 N598 Z598 f598_0 f598_1 f598_2 f598_3 f598_4 f598_5 f598_6 f598_7 f598_8 f598_9 f598_10 f598_11 f598_12 f598_13 f598_14 lw125 (by unfold own_w2; rw [if_neg (by simp [hc128_660]), ← hwt125])
          refine own_go (fun _ k_ => XS.iload X597.here hx rfl (hb hby at_110) rfl k_) ?_
          show own_Goes p e below (T597.setTop (mkF m 112 #[.val (.int q0), .val (.int q1), .val (.int q2), .val (.int q3), .val (.int q4), .val (.int n), .val (.int x0), .val (.int x1), .val (.int x2), .val (.int x3), .val (.ref b568), .val (.ref b570), .val (.int (0 : Int32)), .unset, .unset, .unset, .unset, .unset, .unset, .unset] [(.int n)])) (G_own_law Z q0 q1 q2 q3 q4 h0 n0 s)
          by_cases hc112_677 : (0 : Int32) < n
          · refine own_go (fun _ k_ => XS.ifNo X597.here hx rfl (hb hby at_112) rfl (XT.i0_le_f hc112_677) k_) ?_
            show own_Goes p e below (T597.setTop (mkF m 115 #[.val (.int q0), .val (.int q1), .val (.int q2), .val (.int q3), .val (.int q4), .val (.int n), .val (.int x0), .val (.int x1), .val (.int x2), .val (.int x3), .val (.ref b568), .val (.ref b570), .val (.int (0 : Int32)), .unset, .unset, .unset, .unset, .unset, .unset, .unset] [])) (G_own_law Z q0 q1 q2 q3 q4 h0 n0 s)
            refine own_go (fun _ k_ => XS.aload X597.here hx rfl (hb hby at_115) rfl rfl k_) ?_
            show own_Goes p e below (T597.setTop (mkF m 117 #[.val (.int q0), .val (.int q1), .val (.int q2), .val (.int q3), .val (.int q4), .val (.int n), .val (.int x0), .val (.int x1), .val (.int x2), .val (.int x3), .val (.ref b568), .val (.ref b570), .val (.int (0 : Int32)), .unset, .unset, .unset, .unset, .unset, .unset, .unset] [(.ref b568)])) (G_own_law Z q0 q1 q2 q3 q4 h0 n0 s)
            refine own_go (fun _ k_ => XS.iload X597.here hx rfl (hb hby at_117) rfl k_) ?_
            show own_Goes p e below (T597.setTop (mkF m 119 #[.val (.int q0), .val (.int q1), .val (.int q2), .val (.int q3), .val (.int q4), .val (.int n), .val (.int x0), .val (.int x1), .val (.int x2), .val (.int x3), .val (.ref b568), .val (.ref b570), .val (.int (0 : Int32)), .unset, .unset, .unset, .unset, .unset, .unset, .unset] [(.int (0 : Int32)), (.ref b568)])) (G_own_law Z q0 q1 q2 q3 q4 h0 n0 s)
            refine own_go (fun _ k_ => XS.iload X597.here hx rfl (hb hby at_119) rfl k_) ?_
            show own_Goes p e below (T597.setTop (mkF m 121 #[.val (.int q0), .val (.int q1), .val (.int q2), .val (.int q3), .val (.int q4), .val (.int n), .val (.int x0), .val (.int x1), .val (.int x2), .val (.int x3), .val (.ref b568), .val (.ref b570), .val (.int (0 : Int32)), .unset, .unset, .unset, .unset, .unset, .unset, .unset] [(.int x0), (.int (0 : Int32)), (.ref b568)])) (G_own_law Z q0 q1 q2 q3 q4 h0 n0 s)
            obtain ⟨c678, Ar678, q678, s678, z678, H678, G678⟩ := id f597_0
            have hin678 := inb_of s678 (j := (0 : Int32)) (by decide)
            obtain ⟨T678, h678, X678, e678, W678, st678⟩ := stI X597 hx hZ e597 Ar678 hin678 (g := (mkF m 121 #[.val (.int q0), .val (.int q1), .val (.int q2), .val (.int q3), .val (.int q4), .val (.int n), .val (.int x0), .val (.int x1), .val (.int x2), .val (.int x3), .val (.ref b568), .val (.ref b570), .val (.int (0 : Int32)), .unset, .unset, .unset, .unset, .unset, .unset, .unset] [(.int x0), (.int (0 : Int32)), (.ref b568)])) rfl rfl (hb hby at_121)
            have f597_679 := f597_1.wr W678
            have f597_680 := f597_2.other W678 (Or.inl (Ne.symm ne_b568_b570))
            have f597_681 := f597_3.other W678 (Ne.symm nw_ae)
            have f597_682 := f597_4.other W678 (Or.inl (Ne.symm ne_b568_b570))
            have f597_683 := f597_5.other W678 (Ne.symm nw_ao)
            have f597_684 := f597_6.other W678 (Or.inl (Ne.symm ne_b568_b570))
            have f597_685 := f597_7.other W678 (Ne.symm nw_ab)
            have f597_686 := f597_8.other W678 (Or.inl (Ne.symm ne_b568_b570))
            have f597_687 := f597_9.other W678 (Ne.symm nw_asx)
            have f597_688 := f597_10.other W678 (Or.inl (Ne.symm ne_b568_b570))
            have f597_689 := f597_11.other W678 (Ne.symm nw_am)
            have f597_690 := f597_12.other W678 (Or.inl (Ne.symm ne_b568_b570))
            have f597_691 := f597_13.other W678 (Ne.symm nw_atx)
            have f597_692 := f597_14.other W678 (Or.inl (Ne.symm ne_b568_b570))
            have Av678 : Arv Z h678 b568 cA568 .int (4 : Int32) ((([0, 0, 0, 0] : List Int32).set ((0 : Int32)).toNatClampNeg x0).map Value.int) (.int (0 : Int32)) := by rw [List.map_set]; exact Arv.set Ar678 q678 s678 z678 H678 G678 (v := (.int x0)) rfl W678 _ rfl (own_ix (j := (0 : Int32)) (z := (4 : Int32)) (by decide) rfl)
            have N678 := Fr.snoc X678 N597 g_b568
            have Z678 : n0 ≤ h678.size := by rw [W678.size]; exact Z597
            refine own_go st678 ?_
            show own_Goes p e below (T678.setTop (mkF m 122 #[.val (.int q0), .val (.int q1), .val (.int q2), .val (.int q3), .val (.int q4), .val (.int n), .val (.int x0), .val (.int x1), .val (.int x2), .val (.int x3), .val (.ref b568), .val (.ref b570), .val (.int (0 : Int32)), .unset, .unset, .unset, .unset, .unset, .unset, .unset] [])) (G_own_law Z q0 q1 q2 q3 q4 h0 n0 s)
            refine own_go (fun _ k_ => XS.iinc X678.here hx rfl (hb hby at_122) rfl (l' := #[.val (.int q0), .val (.int q1), .val (.int q2), .val (.int q3), .val (.int q4), .val (.int n), .val (.int x0), .val (.int x1), .val (.int x2), .val (.int x3), .val (.ref b568), .val (.ref b570), .val (.int (1 : Int32)), .unset, .unset, .unset, .unset, .unset, .unset, .unset]) rfl k_) ?_
            show own_Goes p e below (T678.setTop (mkF m 125 #[.val (.int q0), .val (.int q1), .val (.int q2), .val (.int q3), .val (.int q4), .val (.int n), .val (.int x0), .val (.int x1), .val (.int x2), .val (.int x3), .val (.ref b568), .val (.ref b570), .val (.int (1 : Int32)), .unset, .unset, .unset, .unset, .unset, .unset, .unset] [])) (G_own_law Z q0 q1 q2 q3 q4 h0 n0 s)
            exact J125_598 _ h678 _ (([0, 0, 0, 0] : List Int32).set ((0 : Int32)).toNatClampNeg x0) (1 : Int32) X678 e678 N678 Z678 Av678 f597_679 f597_680 f597_681 f597_682 f597_683 f597_684 f597_685 f597_686 f597_687 f597_688 f597_689 f597_690 f597_691 f597_692 ((List.length_set ..).trans rfl) (by unfold own_w1; rw [if_pos (by simp [hc112_677])]; rfl)
          · refine own_go (fun _ k_ => XS.ifYes X597.here hx rfl (pc0 := 112) (pc' := 125) rfl (hb hby at_112) rfl (XT.i0_le_t hc112_677) (by decide) (by decide) k_) ?_
            show own_Goes p e below (T597.setTop (mkF m 125 #[.val (.int q0), .val (.int q1), .val (.int q2), .val (.int q3), .val (.int q4), .val (.int n), .val (.int x0), .val (.int x1), .val (.int x2), .val (.int x3), .val (.ref b568), .val (.ref b570), .val (.int (0 : Int32)), .unset, .unset, .unset, .unset, .unset, .unset, .unset] [])) (G_own_law Z q0 q1 q2 q3 q4 h0 n0 s)
            exact J125_598 _ h597 _ ([0, 0, 0, 0] : List Int32) (0 : Int32) X597 e597 N597 Z597 f597_0 f597_1 f597_2 f597_3 f597_4 f597_5 f597_6 f597_7 f597_8 f597_9 f597_10 f597_11 f597_12 f597_13 f597_14 rfl (by unfold own_w1; rw [if_neg (by simp [hc112_677])])
        refine own_go (fun _ k_ => XS.iload X596.here hx rfl (hb hby at_94) rfl k_) ?_
        show own_Goes p e below (T596.setTop (mkF m 96 #[.val (.int q0), .val (.int q1), .val (.int q2), .val (.int q3), .val (.int q4), .val (.int n), .val (.int x0), .val (.int x1), .val (.int x2), .val (.int x3), .val (.ref b568), .val (.ref b570), .unset, .unset, .unset, .unset, .unset, .unset, .unset, .unset] [(.int n)])) (G_own_law Z q0 q1 q2 q3 q4 h0 n0 s)
        refine own_go (fun _ k_ => XS.iconst X596.here hx rfl (hb hby at_96) k_) ?_
        show own_Goes p e below (T596.setTop (mkF m 97 #[.val (.int q0), .val (.int q1), .val (.int q2), .val (.int q3), .val (.int q4), .val (.int n), .val (.int x0), .val (.int x1), .val (.int x2), .val (.int x3), .val (.ref b568), .val (.ref b570), .unset, .unset, .unset, .unset, .unset, .unset, .unset, .unset] [(.int (3 : Int32)), (.int n)])) (G_own_law Z q0 q1 q2 q3 q4 h0 n0 s)
        by_cases hc97_693 : (3 : Int32) < n
        · refine own_go (fun _ k_ => XS.icmpNo X596.here hx rfl (hb hby at_97) rfl (XT.ii_le_f hc97_693) k_) ?_
          show own_Goes p e below (T596.setTop (mkF m 100 #[.val (.int q0), .val (.int q1), .val (.int q2), .val (.int q3), .val (.int q4), .val (.int n), .val (.int x0), .val (.int x1), .val (.int x2), .val (.int x3), .val (.ref b568), .val (.ref b570), .unset, .unset, .unset, .unset, .unset, .unset, .unset, .unset] [])) (G_own_law Z q0 q1 q2 q3 q4 h0 n0 s)
          refine own_go (fun _ k_ => XS.aload X596.here hx rfl (hb hby at_100) rfl rfl k_) ?_
          show own_Goes p e below (T596.setTop (mkF m 102 #[.val (.int q0), .val (.int q1), .val (.int q2), .val (.int q3), .val (.int q4), .val (.int n), .val (.int x0), .val (.int x1), .val (.int x2), .val (.int x3), .val (.ref b568), .val (.ref b570), .unset, .unset, .unset, .unset, .unset, .unset, .unset, .unset] [(.ref b570)])) (G_own_law Z q0 q1 q2 q3 q4 h0 n0 s)
          refine own_go (fun _ k_ => XS.iload X596.here hx rfl (hb hby at_102) rfl k_) ?_
          show own_Goes p e below (T596.setTop (mkF m 104 #[.val (.int q0), .val (.int q1), .val (.int q2), .val (.int q3), .val (.int q4), .val (.int n), .val (.int x0), .val (.int x1), .val (.int x2), .val (.int x3), .val (.ref b568), .val (.ref b570), .unset, .unset, .unset, .unset, .unset, .unset, .unset, .unset] [(.int x3), (.ref b570)])) (G_own_law Z q0 q1 q2 q3 q4 h0 n0 s)
          obtain ⟨cq694, kq694, q694a, q694b, q694c⟩ := isOf hZ e596 f596_1
          obtain ⟨_, _, ⟨T694, L694, k694, n694⟩, -, X694, ⟨Lc694, hQ694, l694, y694, z694⟩, st694⟩ := X596.virtualBack hx (y := (⟨"com/example/trim_chain/trimchain/engine/Partition", "mark", "(I)V"⟩ : MethodName)) (z := (⟨"com/example/trim_chain/trimchain/engine/Partition", "mark", "(I)V"⟩ : MethodName)) hown (mvT hZ (hw _ (List.mem_of_getElem? (i := 36) rfl))) (mvT hZ (hw _ (List.mem_of_getElem? (i := 37) rfl))) (notFace_of_selects (args := #[]) (mvT hZ (hw _ (List.mem_of_getElem? (i := 39) rfl)))) (mvT hZ (hw _ (List.mem_of_getElem? (i := 39) rfl))) (mvT hZ (hw _ (List.mem_of_getElem? (i := 38) rfl))) (by decide) (backOf (W := 0) (own_markM l Z a0 hw [] b570 x3 ae ao ab asx am atx ke ko kb ks km kt els94 pos94 mel94 tl94 k94 tc94 h596 n0 Z596 f596_1 f596_2 f596_4 f596_6 f596_8 f596_10 f596_12 f596_14 f596_3 f596_5 f596_7 f596_9 f596_11 f596_13 nq_ap_ae nq_ap_ao nq_ap_ab nq_ap_asx nq_ap_am nq_ap_atx nq_ae_ao nq_ae_ab nq_ae_asx nq_ae_am nq_ae_atx nq_ao_ab nq_ao_asx nq_ao_am nq_ao_atx nq_ab_asx nq_ab_am nq_ab_atx nq_asx_am nq_asx_atx nq_am_atx g_b570 g_ae g_ao g_ab g_asx g_am g_atx lm94 lt94 hk94 h_x3 (by rw [hst94]; exact (own_i3 n m_n x0 m_x0 x1 m_x1 x2 m_x2)) htc94) hZ (hw _ (List.mem_of_getElem? (i := 40) rfl)) (hw _ (List.mem_of_getElem? (i := 4) rfl)) (by decide) (by decide)) q694a q694c (g := (mkF m 104 #[.val (.int q0), .val (.int q1), .val (.int q2), .val (.int q3), .val (.int q4), .val (.int n), .val (.int x0), .val (.int x1), .val (.int x2), .val (.int x3), .val (.ref b568), .val (.ref b570), .unset, .unset, .unset, .unset, .unset, .unset, .unset, .unset] [(.int x3), (.ref b570)])) rfl (by rw [hml]; rfl) (Steps.refl _) (argsL := [(.int x3)]) (rest := []) (lenOf own_pd1 rfl) rfl (by show 2 * 0 + _ ≤ _; exact Nat.le_of_eq rfl) (hb hby at_104) (fun _ _ => ⟨rfl, e596, (by decide : 9 + 0 ≤ _), (by decide : 48 + 0 ≤ _)⟩)
          dsimp only [Pt.U, Pt.locs, Pt.cells, Pt.slots] at X694 l694 y694 z694 st694 hQ694
          subst l694 y694 z694
          obtain ⟨rfl, N694q, Kq694, Fmelements694, Fmposition694, FmblockOf694, Fmstart694, FmmarkedEnd694, Fmtouched694, Ae694, Ao694, ⟨ml694, lm694, hk694, Am694⟩, tl694, tc694, lt694, At694, Ft694, ht694⟩ := hQ694
          have N694 := Fr.app N596 N694q
          have f596_695 := f596_0.keep Kq694 (ninS ne_b568_b570 (ninS nw_ae (ninS nw_ao (ninS nw_am (ninS nw_atx nin0)))))
          have f596_696 := f596_1.keep Kq694
          have f596_702 := f596_7.keep Kq694 (ninS (Ne.symm nq_ap_ab) (ninS (Ne.symm nq_ae_ab) (ninS (Ne.symm nq_ao_ab) (ninS nq_ab_am (ninS nq_ab_atx nin0)))))
          have f596_704 := f596_9.keep Kq694 (ninS (Ne.symm nq_ap_asx) (ninS (Ne.symm nq_ae_asx) (ninS (Ne.symm nq_ao_asx) (ninS nq_asx_am (ninS nq_asx_atx nin0)))))
          have Z694 : n0 ≤ T694.heap.size := Nat.le_trans Z596 Kq694.1
          refine own_go (fun _ k_ => st694.trans k_) ?_
          show own_Goes p e below (T694.setTop (mkF m 107 #[.val (.int q0), .val (.int q1), .val (.int q2), .val (.int q3), .val (.int q4), .val (.int n), .val (.int x0), .val (.int x1), .val (.int x2), .val (.int x3), .val (.ref b568), .val (.ref b570), .unset, .unset, .unset, .unset, .unset, .unset, .unset, .unset] [])) (G_own_law Z q0 q1 q2 q3 q4 h0 n0 s)
          exact J107_597 _ T694.heap _ ((own_mark (els94, pos94, k94) x3).1) ((own_mark (els94, pos94, k94) x3).2.1) (ml694) (tl694) ((own_mark (els94, pos94, k94) x3).2.2) (tc694) X694 rfl N694 Z694 f596_695 f596_696 Fmelements694 Ae694 Fmposition694 Ao694 FmblockOf694 f596_702 Fmstart694 f596_704 FmmarkedEnd694 Am694 Fmtouched694 At694 Ft694 lm694 lt694 hk694 ht694 (by show (own_mark (els94, pos94, k94) x3) = own_mk n 3 x3 (own_s3 n x0 x1 x2); rw [own_mk, if_pos hc97_693, ← hst94])
        · refine own_go (fun _ k_ => XS.icmpYes X596.here hx rfl (pc0 := 97) (pc' := 107) rfl (hb hby at_97) rfl (XT.ii_le_t hc97_693) (by decide) (by decide) k_) ?_
          show own_Goes p e below (T596.setTop (mkF m 107 #[.val (.int q0), .val (.int q1), .val (.int q2), .val (.int q3), .val (.int q4), .val (.int n), .val (.int x0), .val (.int x1), .val (.int x2), .val (.int x3), .val (.ref b568), .val (.ref b570), .unset, .unset, .unset, .unset, .unset, .unset, .unset, .unset] [])) (G_own_law Z q0 q1 q2 q3 q4 h0 n0 s)
          exact J107_597 _ h596 _ (els94) (pos94) (mel94) (tl94) (k94) (tc94) X596 e596 N596 Z596 f596_0 f596_1 f596_2 f596_3 f596_4 f596_5 f596_6 f596_7 f596_8 f596_9 f596_10 f596_11 f596_12 f596_13 f596_14 lm94 lt94 hk94 htc94 (by show _ = own_mk n 3 x3 (own_s3 n x0 x1 x2); rw [own_mk, if_neg hc97_693]; exact hst94)
      refine own_go (fun _ k_ => XS.iload X595.here hx rfl (hb hby at_81) rfl k_) ?_
      show own_Goes p e below (T595.setTop (mkF m 83 #[.val (.int q0), .val (.int q1), .val (.int q2), .val (.int q3), .val (.int q4), .val (.int n), .val (.int x0), .val (.int x1), .val (.int x2), .val (.int x3), .val (.ref b568), .val (.ref b570), .unset, .unset, .unset, .unset, .unset, .unset, .unset, .unset] [(.int n)])) (G_own_law Z q0 q1 q2 q3 q4 h0 n0 s)
      refine own_go (fun _ k_ => XS.iconst X595.here hx rfl (hb hby at_83) k_) ?_
      show own_Goes p e below (T595.setTop (mkF m 84 #[.val (.int q0), .val (.int q1), .val (.int q2), .val (.int q3), .val (.int q4), .val (.int n), .val (.int x0), .val (.int x1), .val (.int x2), .val (.int x3), .val (.ref b568), .val (.ref b570), .unset, .unset, .unset, .unset, .unset, .unset, .unset, .unset] [(.int (2 : Int32)), (.int n)])) (G_own_law Z q0 q1 q2 q3 q4 h0 n0 s)
      by_cases hc84_710 : (2 : Int32) < n
      · refine own_go (fun _ k_ => XS.icmpNo X595.here hx rfl (hb hby at_84) rfl (XT.ii_le_f hc84_710) k_) ?_
        show own_Goes p e below (T595.setTop (mkF m 87 #[.val (.int q0), .val (.int q1), .val (.int q2), .val (.int q3), .val (.int q4), .val (.int n), .val (.int x0), .val (.int x1), .val (.int x2), .val (.int x3), .val (.ref b568), .val (.ref b570), .unset, .unset, .unset, .unset, .unset, .unset, .unset, .unset] [])) (G_own_law Z q0 q1 q2 q3 q4 h0 n0 s)
        refine own_go (fun _ k_ => XS.aload X595.here hx rfl (hb hby at_87) rfl rfl k_) ?_
        show own_Goes p e below (T595.setTop (mkF m 89 #[.val (.int q0), .val (.int q1), .val (.int q2), .val (.int q3), .val (.int q4), .val (.int n), .val (.int x0), .val (.int x1), .val (.int x2), .val (.int x3), .val (.ref b568), .val (.ref b570), .unset, .unset, .unset, .unset, .unset, .unset, .unset, .unset] [(.ref b570)])) (G_own_law Z q0 q1 q2 q3 q4 h0 n0 s)
        refine own_go (fun _ k_ => XS.iload X595.here hx rfl (hb hby at_89) rfl k_) ?_
        show own_Goes p e below (T595.setTop (mkF m 91 #[.val (.int q0), .val (.int q1), .val (.int q2), .val (.int q3), .val (.int q4), .val (.int n), .val (.int x0), .val (.int x1), .val (.int x2), .val (.int x3), .val (.ref b568), .val (.ref b570), .unset, .unset, .unset, .unset, .unset, .unset, .unset, .unset] [(.int x2), (.ref b570)])) (G_own_law Z q0 q1 q2 q3 q4 h0 n0 s)
        obtain ⟨cq711, kq711, q711a, q711b, q711c⟩ := isOf hZ e595 f595_1
        obtain ⟨_, _, ⟨T711, L711, k711, n711⟩, -, X711, ⟨Lc711, hQ711, l711, y711, z711⟩, st711⟩ := X595.virtualBack hx (y := (⟨"com/example/trim_chain/trimchain/engine/Partition", "mark", "(I)V"⟩ : MethodName)) (z := (⟨"com/example/trim_chain/trimchain/engine/Partition", "mark", "(I)V"⟩ : MethodName)) hown (mvT hZ (hw _ (List.mem_of_getElem? (i := 36) rfl))) (mvT hZ (hw _ (List.mem_of_getElem? (i := 37) rfl))) (notFace_of_selects (args := #[]) (mvT hZ (hw _ (List.mem_of_getElem? (i := 39) rfl)))) (mvT hZ (hw _ (List.mem_of_getElem? (i := 39) rfl))) (mvT hZ (hw _ (List.mem_of_getElem? (i := 38) rfl))) (by decide) (backOf (W := 0) (own_markM l Z a0 hw [] b570 x2 ae ao ab asx am atx ke ko kb ks km kt els81 pos81 mel81 tl81 k81 tc81 h595 n0 Z595 f595_1 f595_2 f595_4 f595_6 f595_8 f595_10 f595_12 f595_14 f595_3 f595_5 f595_7 f595_9 f595_11 f595_13 nq_ap_ae nq_ap_ao nq_ap_ab nq_ap_asx nq_ap_am nq_ap_atx nq_ae_ao nq_ae_ab nq_ae_asx nq_ae_am nq_ae_atx nq_ao_ab nq_ao_asx nq_ao_am nq_ao_atx nq_ab_asx nq_ab_am nq_ab_atx nq_asx_am nq_asx_atx nq_am_atx g_b570 g_ae g_ao g_ab g_asx g_am g_atx lm81 lt81 hk81 h_x2 (by rw [hst81]; exact (own_i2 n m_n x0 m_x0 x1 m_x1)) htc81) hZ (hw _ (List.mem_of_getElem? (i := 40) rfl)) (hw _ (List.mem_of_getElem? (i := 4) rfl)) (by decide) (by decide)) q711a q711c (g := (mkF m 91 #[.val (.int q0), .val (.int q1), .val (.int q2), .val (.int q3), .val (.int q4), .val (.int n), .val (.int x0), .val (.int x1), .val (.int x2), .val (.int x3), .val (.ref b568), .val (.ref b570), .unset, .unset, .unset, .unset, .unset, .unset, .unset, .unset] [(.int x2), (.ref b570)])) rfl (by rw [hml]; rfl) (Steps.refl _) (argsL := [(.int x2)]) (rest := []) (lenOf own_pd1 rfl) rfl (by show 2 * 0 + _ ≤ _; exact Nat.le_of_eq rfl) (hb hby at_91) (fun _ _ => ⟨rfl, e595, (by decide : 9 + 0 ≤ _), (by decide : 48 + 0 ≤ _)⟩)
        dsimp only [Pt.U, Pt.locs, Pt.cells, Pt.slots] at X711 l711 y711 z711 st711 hQ711
        subst l711 y711 z711
        obtain ⟨rfl, N711q, Kq711, Fmelements711, Fmposition711, FmblockOf711, Fmstart711, FmmarkedEnd711, Fmtouched711, Ae711, Ao711, ⟨ml711, lm711, hk711, Am711⟩, tl711, tc711, lt711, At711, Ft711, ht711⟩ := hQ711
        have N711 := Fr.app N595 N711q
        have f595_712 := f595_0.keep Kq711 (ninS ne_b568_b570 (ninS nw_ae (ninS nw_ao (ninS nw_am (ninS nw_atx nin0)))))
        have f595_713 := f595_1.keep Kq711
        have f595_719 := f595_7.keep Kq711 (ninS (Ne.symm nq_ap_ab) (ninS (Ne.symm nq_ae_ab) (ninS (Ne.symm nq_ao_ab) (ninS nq_ab_am (ninS nq_ab_atx nin0)))))
        have f595_721 := f595_9.keep Kq711 (ninS (Ne.symm nq_ap_asx) (ninS (Ne.symm nq_ae_asx) (ninS (Ne.symm nq_ao_asx) (ninS nq_asx_am (ninS nq_asx_atx nin0)))))
        have Z711 : n0 ≤ T711.heap.size := Nat.le_trans Z595 Kq711.1
        refine own_go (fun _ k_ => st711.trans k_) ?_
        show own_Goes p e below (T711.setTop (mkF m 94 #[.val (.int q0), .val (.int q1), .val (.int q2), .val (.int q3), .val (.int q4), .val (.int n), .val (.int x0), .val (.int x1), .val (.int x2), .val (.int x3), .val (.ref b568), .val (.ref b570), .unset, .unset, .unset, .unset, .unset, .unset, .unset, .unset] [])) (G_own_law Z q0 q1 q2 q3 q4 h0 n0 s)
        exact J94_596 _ T711.heap _ ((own_mark (els81, pos81, k81) x2).1) ((own_mark (els81, pos81, k81) x2).2.1) (ml711) (tl711) ((own_mark (els81, pos81, k81) x2).2.2) (tc711) X711 rfl N711 Z711 f595_712 f595_713 Fmelements711 Ae711 Fmposition711 Ao711 FmblockOf711 f595_719 Fmstart711 f595_721 FmmarkedEnd711 Am711 Fmtouched711 At711 Ft711 lm711 lt711 hk711 ht711 (by show (own_mark (els81, pos81, k81) x2) = own_mk n 2 x2 (own_s2 n x0 x1); rw [own_mk, if_pos hc84_710, ← hst81])
      · refine own_go (fun _ k_ => XS.icmpYes X595.here hx rfl (pc0 := 84) (pc' := 94) rfl (hb hby at_84) rfl (XT.ii_le_t hc84_710) (by decide) (by decide) k_) ?_
        show own_Goes p e below (T595.setTop (mkF m 94 #[.val (.int q0), .val (.int q1), .val (.int q2), .val (.int q3), .val (.int q4), .val (.int n), .val (.int x0), .val (.int x1), .val (.int x2), .val (.int x3), .val (.ref b568), .val (.ref b570), .unset, .unset, .unset, .unset, .unset, .unset, .unset, .unset] [])) (G_own_law Z q0 q1 q2 q3 q4 h0 n0 s)
        exact J94_596 _ h595 _ (els81) (pos81) (mel81) (tl81) (k81) (tc81) X595 e595 N595 Z595 f595_0 f595_1 f595_2 f595_3 f595_4 f595_5 f595_6 f595_7 f595_8 f595_9 f595_10 f595_11 f595_12 f595_13 f595_14 lm81 lt81 hk81 htc81 (by show _ = own_mk n 2 x2 (own_s2 n x0 x1); rw [own_mk, if_neg hc84_710]; exact hst81)
    refine own_go (fun _ k_ => XS.iload X594.here hx rfl (hb hby at_68) rfl k_) ?_
    show own_Goes p e below (T594.setTop (mkF m 70 #[.val (.int q0), .val (.int q1), .val (.int q2), .val (.int q3), .val (.int q4), .val (.int n), .val (.int x0), .val (.int x1), .val (.int x2), .val (.int x3), .val (.ref b568), .val (.ref b570), .unset, .unset, .unset, .unset, .unset, .unset, .unset, .unset] [(.int n)])) (G_own_law Z q0 q1 q2 q3 q4 h0 n0 s)
    refine own_go (fun _ k_ => XS.iconst X594.here hx rfl (hb hby at_70) k_) ?_
    show own_Goes p e below (T594.setTop (mkF m 71 #[.val (.int q0), .val (.int q1), .val (.int q2), .val (.int q3), .val (.int q4), .val (.int n), .val (.int x0), .val (.int x1), .val (.int x2), .val (.int x3), .val (.ref b568), .val (.ref b570), .unset, .unset, .unset, .unset, .unset, .unset, .unset, .unset] [(.int (1 : Int32)), (.int n)])) (G_own_law Z q0 q1 q2 q3 q4 h0 n0 s)
    by_cases hc71_727 : (1 : Int32) < n
    · refine own_go (fun _ k_ => XS.icmpNo X594.here hx rfl (hb hby at_71) rfl (XT.ii_le_f hc71_727) k_) ?_
      show own_Goes p e below (T594.setTop (mkF m 74 #[.val (.int q0), .val (.int q1), .val (.int q2), .val (.int q3), .val (.int q4), .val (.int n), .val (.int x0), .val (.int x1), .val (.int x2), .val (.int x3), .val (.ref b568), .val (.ref b570), .unset, .unset, .unset, .unset, .unset, .unset, .unset, .unset] [])) (G_own_law Z q0 q1 q2 q3 q4 h0 n0 s)
      refine own_go (fun _ k_ => XS.aload X594.here hx rfl (hb hby at_74) rfl rfl k_) ?_
      show own_Goes p e below (T594.setTop (mkF m 76 #[.val (.int q0), .val (.int q1), .val (.int q2), .val (.int q3), .val (.int q4), .val (.int n), .val (.int x0), .val (.int x1), .val (.int x2), .val (.int x3), .val (.ref b568), .val (.ref b570), .unset, .unset, .unset, .unset, .unset, .unset, .unset, .unset] [(.ref b570)])) (G_own_law Z q0 q1 q2 q3 q4 h0 n0 s)
      refine own_go (fun _ k_ => XS.iload X594.here hx rfl (hb hby at_76) rfl k_) ?_
      show own_Goes p e below (T594.setTop (mkF m 78 #[.val (.int q0), .val (.int q1), .val (.int q2), .val (.int q3), .val (.int q4), .val (.int n), .val (.int x0), .val (.int x1), .val (.int x2), .val (.int x3), .val (.ref b568), .val (.ref b570), .unset, .unset, .unset, .unset, .unset, .unset, .unset, .unset] [(.int x1), (.ref b570)])) (G_own_law Z q0 q1 q2 q3 q4 h0 n0 s)
      obtain ⟨cq728, kq728, q728a, q728b, q728c⟩ := isOf hZ e594 f594_1
      obtain ⟨_, _, ⟨T728, L728, k728, n728⟩, -, X728, ⟨Lc728, hQ728, l728, y728, z728⟩, st728⟩ := X594.virtualBack hx (y := (⟨"com/example/trim_chain/trimchain/engine/Partition", "mark", "(I)V"⟩ : MethodName)) (z := (⟨"com/example/trim_chain/trimchain/engine/Partition", "mark", "(I)V"⟩ : MethodName)) hown (mvT hZ (hw _ (List.mem_of_getElem? (i := 36) rfl))) (mvT hZ (hw _ (List.mem_of_getElem? (i := 37) rfl))) (notFace_of_selects (args := #[]) (mvT hZ (hw _ (List.mem_of_getElem? (i := 39) rfl)))) (mvT hZ (hw _ (List.mem_of_getElem? (i := 39) rfl))) (mvT hZ (hw _ (List.mem_of_getElem? (i := 38) rfl))) (by decide) (backOf (W := 0) (own_markM l Z a0 hw [] b570 x1 ae ao ab asx am atx ke ko kb ks km kt els68 pos68 mel68 tl68 k68 tc68 h594 n0 Z594 f594_1 f594_2 f594_4 f594_6 f594_8 f594_10 f594_12 f594_14 f594_3 f594_5 f594_7 f594_9 f594_11 f594_13 nq_ap_ae nq_ap_ao nq_ap_ab nq_ap_asx nq_ap_am nq_ap_atx nq_ae_ao nq_ae_ab nq_ae_asx nq_ae_am nq_ae_atx nq_ao_ab nq_ao_asx nq_ao_am nq_ao_atx nq_ab_asx nq_ab_am nq_ab_atx nq_asx_am nq_asx_atx nq_am_atx g_b570 g_ae g_ao g_ab g_asx g_am g_atx lm68 lt68 hk68 h_x1 (by rw [hst68]; exact (own_i1 n m_n x0 m_x0)) htc68) hZ (hw _ (List.mem_of_getElem? (i := 40) rfl)) (hw _ (List.mem_of_getElem? (i := 4) rfl)) (by decide) (by decide)) q728a q728c (g := (mkF m 78 #[.val (.int q0), .val (.int q1), .val (.int q2), .val (.int q3), .val (.int q4), .val (.int n), .val (.int x0), .val (.int x1), .val (.int x2), .val (.int x3), .val (.ref b568), .val (.ref b570), .unset, .unset, .unset, .unset, .unset, .unset, .unset, .unset] [(.int x1), (.ref b570)])) rfl (by rw [hml]; rfl) (Steps.refl _) (argsL := [(.int x1)]) (rest := []) (lenOf own_pd1 rfl) rfl (by show 2 * 0 + _ ≤ _; exact Nat.le_of_eq rfl) (hb hby at_78) (fun _ _ => ⟨rfl, e594, (by decide : 9 + 0 ≤ _), (by decide : 48 + 0 ≤ _)⟩)
      dsimp only [Pt.U, Pt.locs, Pt.cells, Pt.slots] at X728 l728 y728 z728 st728 hQ728
      subst l728 y728 z728
      obtain ⟨rfl, N728q, Kq728, Fmelements728, Fmposition728, FmblockOf728, Fmstart728, FmmarkedEnd728, Fmtouched728, Ae728, Ao728, ⟨ml728, lm728, hk728, Am728⟩, tl728, tc728, lt728, At728, Ft728, ht728⟩ := hQ728
      have N728 := Fr.app N594 N728q
      have f594_729 := f594_0.keep Kq728 (ninS ne_b568_b570 (ninS nw_ae (ninS nw_ao (ninS nw_am (ninS nw_atx nin0)))))
      have f594_730 := f594_1.keep Kq728
      have f594_736 := f594_7.keep Kq728 (ninS (Ne.symm nq_ap_ab) (ninS (Ne.symm nq_ae_ab) (ninS (Ne.symm nq_ao_ab) (ninS nq_ab_am (ninS nq_ab_atx nin0)))))
      have f594_738 := f594_9.keep Kq728 (ninS (Ne.symm nq_ap_asx) (ninS (Ne.symm nq_ae_asx) (ninS (Ne.symm nq_ao_asx) (ninS nq_asx_am (ninS nq_asx_atx nin0)))))
      have Z728 : n0 ≤ T728.heap.size := Nat.le_trans Z594 Kq728.1
      refine own_go (fun _ k_ => st728.trans k_) ?_
      show own_Goes p e below (T728.setTop (mkF m 81 #[.val (.int q0), .val (.int q1), .val (.int q2), .val (.int q3), .val (.int q4), .val (.int n), .val (.int x0), .val (.int x1), .val (.int x2), .val (.int x3), .val (.ref b568), .val (.ref b570), .unset, .unset, .unset, .unset, .unset, .unset, .unset, .unset] [])) (G_own_law Z q0 q1 q2 q3 q4 h0 n0 s)
      exact J81_595 _ T728.heap _ ((own_mark (els68, pos68, k68) x1).1) ((own_mark (els68, pos68, k68) x1).2.1) (ml728) (tl728) ((own_mark (els68, pos68, k68) x1).2.2) (tc728) X728 rfl N728 Z728 f594_729 f594_730 Fmelements728 Ae728 Fmposition728 Ao728 FmblockOf728 f594_736 Fmstart728 f594_738 FmmarkedEnd728 Am728 Fmtouched728 At728 Ft728 lm728 lt728 hk728 ht728 (by show (own_mark (els68, pos68, k68) x1) = own_mk n 1 x1 (own_s1 n x0); rw [own_mk, if_pos hc71_727, ← hst68])
    · refine own_go (fun _ k_ => XS.icmpYes X594.here hx rfl (pc0 := 71) (pc' := 81) rfl (hb hby at_71) rfl (XT.ii_le_t hc71_727) (by decide) (by decide) k_) ?_
      show own_Goes p e below (T594.setTop (mkF m 81 #[.val (.int q0), .val (.int q1), .val (.int q2), .val (.int q3), .val (.int q4), .val (.int n), .val (.int x0), .val (.int x1), .val (.int x2), .val (.int x3), .val (.ref b568), .val (.ref b570), .unset, .unset, .unset, .unset, .unset, .unset, .unset, .unset] [])) (G_own_law Z q0 q1 q2 q3 q4 h0 n0 s)
      exact J81_595 _ h594 _ (els68) (pos68) (mel68) (tl68) (k68) (tc68) X594 e594 N594 Z594 f594_0 f594_1 f594_2 f594_3 f594_4 f594_5 f594_6 f594_7 f594_8 f594_9 f594_10 f594_11 f594_12 f594_13 f594_14 lm68 lt68 hk68 htc68 (by show _ = own_mk n 1 x1 (own_s1 n x0); rw [own_mk, if_neg hc71_727]; exact hst68)
  refine own_go (fun _ k_ => XS.iload X582.here hx rfl (hb hby at_56) rfl k_) ?_
  show own_Goes p e below (T582.setTop (mkF m 58 #[.val (.int q0), .val (.int q1), .val (.int q2), .val (.int q3), .val (.int q4), .val (.int n), .val (.int x0), .val (.int x1), .val (.int x2), .val (.int x3), .val (.ref b568), .val (.ref b570), .unset, .unset, .unset, .unset, .unset, .unset, .unset, .unset] [(.int n)])) (G_own_law Z q0 q1 q2 q3 q4 h0 n0 s)
  by_cases hc58_744 : (0 : Int32) < n
  · refine own_go (fun _ k_ => XS.ifNo X582.here hx rfl (hb hby at_58) rfl (XT.i0_le_f hc58_744) k_) ?_
    show own_Goes p e below (T582.setTop (mkF m 61 #[.val (.int q0), .val (.int q1), .val (.int q2), .val (.int q3), .val (.int q4), .val (.int n), .val (.int x0), .val (.int x1), .val (.int x2), .val (.int x3), .val (.ref b568), .val (.ref b570), .unset, .unset, .unset, .unset, .unset, .unset, .unset, .unset] [])) (G_own_law Z q0 q1 q2 q3 q4 h0 n0 s)
    refine own_go (fun _ k_ => XS.aload X582.here hx rfl (hb hby at_61) rfl rfl k_) ?_
    show own_Goes p e below (T582.setTop (mkF m 63 #[.val (.int q0), .val (.int q1), .val (.int q2), .val (.int q3), .val (.int q4), .val (.int n), .val (.int x0), .val (.int x1), .val (.int x2), .val (.int x3), .val (.ref b568), .val (.ref b570), .unset, .unset, .unset, .unset, .unset, .unset, .unset, .unset] [(.ref b570)])) (G_own_law Z q0 q1 q2 q3 q4 h0 n0 s)
    refine own_go (fun _ k_ => XS.iload X582.here hx rfl (hb hby at_63) rfl k_) ?_
    show own_Goes p e below (T582.setTop (mkF m 65 #[.val (.int q0), .val (.int q1), .val (.int q2), .val (.int q3), .val (.int q4), .val (.int n), .val (.int x0), .val (.int x1), .val (.int x2), .val (.int x3), .val (.ref b568), .val (.ref b570), .unset, .unset, .unset, .unset, .unset, .unset, .unset, .unset] [(.int x0), (.ref b570)])) (G_own_law Z q0 q1 q2 q3 q4 h0 n0 s)
    obtain ⟨cq745, kq745, q745a, q745b, q745c⟩ := isOf hZ rfl A570_584
    obtain ⟨_, _, ⟨T745, L745, k745, n745⟩, -, X745, ⟨Lc745, hQ745, l745, y745, z745⟩, st745⟩ := X582.virtualBack hx (y := (⟨"com/example/trim_chain/trimchain/engine/Partition", "mark", "(I)V"⟩ : MethodName)) (z := (⟨"com/example/trim_chain/trimchain/engine/Partition", "mark", "(I)V"⟩ : MethodName)) hown (mvT hZ (hw _ (List.mem_of_getElem? (i := 36) rfl))) (mvT hZ (hw _ (List.mem_of_getElem? (i := 37) rfl))) (notFace_of_selects (args := #[]) (mvT hZ (hw _ (List.mem_of_getElem? (i := 39) rfl)))) (mvT hZ (hw _ (List.mem_of_getElem? (i := 39) rfl))) (mvT hZ (hw _ (List.mem_of_getElem? (i := 38) rfl))) (by decide) (backOf (W := 0) (own_markM l Z a0 hw [] b570 x0 ae ao ab asx am atx ke ko kb ks km kt ([0, 1, 2, 3, 4] : List Int32) ([0, 1, 2, 3, 4] : List Int32) ([0, 0, 0, 0, 0] : List Int32) ([0, 0, 0, 0, 0] : List Int32) (0 : Int32) (0 : Int32) T582.heap n0 Z582 A570_584 F_elements F_position F_blockOf F_start F_markedEnd F_touched F_touchedCount A_elements A_position A_blockOf A_start A_markedEnd A_touched nq_ap_ae nq_ap_ao nq_ap_ab nq_ap_asx nq_ap_am nq_ap_atx nq_ae_ao nq_ae_ab nq_ae_asx nq_ae_am nq_ae_atx nq_ao_ab nq_ao_asx nq_ao_am nq_ao_atx nq_ab_asx nq_ab_am nq_ab_atx nq_asx_am nq_asx_atx nq_am_atx g_b570 g_ae g_ao g_ab g_asx g_am g_atx rfl rfl rfl h_x0 (by decide) (fun _ => rfl)) hZ (hw _ (List.mem_of_getElem? (i := 40) rfl)) (hw _ (List.mem_of_getElem? (i := 4) rfl)) (by decide) (by decide)) q745a q745c (g := (mkF m 65 #[.val (.int q0), .val (.int q1), .val (.int q2), .val (.int q3), .val (.int q4), .val (.int n), .val (.int x0), .val (.int x1), .val (.int x2), .val (.int x3), .val (.ref b568), .val (.ref b570), .unset, .unset, .unset, .unset, .unset, .unset, .unset, .unset] [(.int x0), (.ref b570)])) rfl (by rw [hml]; rfl) (Steps.refl _) (argsL := [(.int x0)]) (rest := []) (lenOf own_pd1 rfl) rfl (by show 2 * 0 + _ ≤ _; exact Nat.le_of_eq rfl) (hb hby at_65) (fun _ _ => ⟨rfl, rfl, (by decide : 9 + 0 ≤ _), (by decide : 48 + 0 ≤ _)⟩)
    dsimp only [Pt.U, Pt.locs, Pt.cells, Pt.slots] at X745 l745 y745 z745 st745 hQ745
    subst l745 y745 z745
    obtain ⟨rfl, N745q, Kq745, Fmelements745, Fmposition745, FmblockOf745, Fmstart745, FmmarkedEnd745, Fmtouched745, Ae745, Ao745, ⟨ml745, lm745, hk745, Am745⟩, tl745, tc745, lt745, At745, Ft745, ht745⟩ := hQ745
    have N745 := Fr.app N582 N745q
    have Aw568_746 := Aw568_583.keep Kq745 (ninS ne_b568_b570 (ninS nw_ae (ninS nw_ao (ninS nw_am (ninS nw_atx nin0)))))
    have A570_747 := A570_584.keep Kq745
    have A_753 := A_blockOf.keep Kq745 (ninS (Ne.symm nq_ap_ab) (ninS (Ne.symm nq_ae_ab) (ninS (Ne.symm nq_ao_ab) (ninS nq_ab_am (ninS nq_ab_atx nin0)))))
    have A_755 := A_start.keep Kq745 (ninS (Ne.symm nq_ap_asx) (ninS (Ne.symm nq_ae_asx) (ninS (Ne.symm nq_ao_asx) (ninS nq_asx_am (ninS nq_asx_atx nin0)))))
    have Z745 : n0 ≤ T745.heap.size := Nat.le_trans Z582 Kq745.1
    refine own_go (fun _ k_ => st745.trans k_) ?_
    show own_Goes p e below (T745.setTop (mkF m 68 #[.val (.int q0), .val (.int q1), .val (.int q2), .val (.int q3), .val (.int q4), .val (.int n), .val (.int x0), .val (.int x1), .val (.int x2), .val (.int x3), .val (.ref b568), .val (.ref b570), .unset, .unset, .unset, .unset, .unset, .unset, .unset, .unset] [])) (G_own_law Z q0 q1 q2 q3 q4 h0 n0 s)
    exact J68_594 _ T745.heap _ ((own_mark (([0, 1, 2, 3, 4] : List Int32), ([0, 1, 2, 3, 4] : List Int32), (0 : Int32)) x0).1) ((own_mark (([0, 1, 2, 3, 4] : List Int32), ([0, 1, 2, 3, 4] : List Int32), (0 : Int32)) x0).2.1) (ml745) (tl745) ((own_mark (([0, 1, 2, 3, 4] : List Int32), ([0, 1, 2, 3, 4] : List Int32), (0 : Int32)) x0).2.2) (tc745) X745 rfl N745 Z745 Aw568_746 A570_747 Fmelements745 Ae745 Fmposition745 Ao745 FmblockOf745 A_753 Fmstart745 A_755 FmmarkedEnd745 Am745 Fmtouched745 At745 Ft745 lm745 lt745 hk745 ht745 (by show (own_mark (([0, 1, 2, 3, 4] : List Int32), ([0, 1, 2, 3, 4] : List Int32), (0 : Int32)) x0) = own_mk n 0 x0 own_s0; rw [own_mk, if_pos hc58_744]; rfl)
  · refine own_go (fun _ k_ => XS.ifYes X582.here hx rfl (pc0 := 58) (pc' := 68) rfl (hb hby at_58) rfl (XT.i0_le_t hc58_744) (by decide) (by decide) k_) ?_
    show own_Goes p e below (T582.setTop (mkF m 68 #[.val (.int q0), .val (.int q1), .val (.int q2), .val (.int q3), .val (.int q4), .val (.int n), .val (.int x0), .val (.int x1), .val (.int x2), .val (.int x3), .val (.ref b568), .val (.ref b570), .unset, .unset, .unset, .unset, .unset, .unset, .unset, .unset] [])) (G_own_law Z q0 q1 q2 q3 q4 h0 n0 s)
    exact J68_594 _ T582.heap _ (([0, 1, 2, 3, 4] : List Int32)) (([0, 1, 2, 3, 4] : List Int32)) (([0, 0, 0, 0, 0] : List Int32)) (([0, 0, 0, 0, 0] : List Int32)) ((0 : Int32)) ((0 : Int32)) X582 rfl N582 Z582 Aw568_583 A570_584 F_elements A_elements F_position A_position F_blockOf A_blockOf F_start A_start F_markedEnd A_markedEnd F_touched A_touched F_touchedCount rfl rfl rfl (fun _ => rfl) (by show _ = own_mk n 0 x0 own_s0; rw [own_mk, if_neg hc58_744]; exact rfl)
set_option maxRecDepth 65536 in
set_option maxHeartbeats 40000000 in
theorem comes_1 {Post : Tables → Env → Array Value → State → Outcome → State → Prop} (hpost : ∀ tb e args s v u, (limb_1_1.after args s (.returned v) u = true ∧ limb_1_2.after args s (.returned v) u = true ∧ True) → FrameEnd s (.returned v) u (Jvm.fieldLocs frame_1_writes args s ++ Jvm.arrayLocs frame_1_arrays args s ++ Jvm.staticLocs frame_1_statics s) 32 192 → Post tb e args s (.returned v) u) :
    ArmFor flags0 classFile x code maxLocals ret World_1 tables_1 room_1 Calls_1 rest_1 Pre_1 Post := by
  intro l hfl _ _ p e ha hc hk s m args below hf hA hF happ hP
  obtain ⟨hcalls, hrest, hpre⟩ := hP
  obtain ⟨-, -, -, hnamed, -, -, -, hat⟩ := (Spec.applies_iff hf).mp happ
  obtain ⟨hg, hn⟩ := and_e (Cond.before_iff.mp (show (Jvm.Cond.and given_1 narrow_1).before args s = true from hpre))
  obtain ⟨hcount, k0⟩ := and_e hg
  obtain ⟨g0, k1⟩ := and_e k0
  obtain ⟨g1, k2⟩ := and_e k1
  obtain ⟨g2, k3⟩ := and_e k2
  obtain ⟨g3, k4⟩ := and_e k3
  have g4 := k4
  obtain ⟨w0, w1, w2, w3, w4, rfl⟩ : ∃ w0 w1 w2 w3 w4 : Value, args = #[w0, w1, w2, w3, w4] := by
    have hs : args.size = 5 := by simpa [Cond.value, given_1] using hcount
    obtain ⟨L⟩ := args
    match L, hs with
    | [w0, w1, w2, w3, w4], _ => exact ⟨w0, w1, w2, w3, w4, rfl⟩
  have hw := fun d (hd : d ∈ tables_1) => atoms_spec (ws := Jvm.Cond.code x code maxLocals ret :: tables_1) hat d (List.mem_cons_of_mem _ hd)
  have hfit : Fit s := fun {y c} hc i hi => by
    obtain ⟨ha, rfl⟩ := Array.getElem?_eq_some_iff.mp hc
    have q := List.all_eq_true.mp ((Array.all_eq_true_iff_forall_mem.mp hF) _ (Array.getElem_mem ha)) i (List.mem_range.mpr hi)
    simpa [Array.getElem?_eq_getElem hi] using q
  obtain ⟨i0, ei0⟩ := is_v g0
  obtain rfl : w0 = (.int i0) := Option.some.inj ei0
  obtain ⟨i1, ei1⟩ := is_v g1
  obtain rfl : w1 = (.int i1) := Option.some.inj ei1
  obtain ⟨i2, ei2⟩ := is_v g2
  obtain rfl : w2 = (.int i2) := Option.some.inj ei2
  obtain ⟨i3, ei3⟩ := is_v g3
  obtain rfl : w3 = (.int i3) := Option.some.inj ei3
  obtain ⟨i4, ei4⟩ := is_v g4
  obtain rfl : w4 = (.int i4) := Option.some.inj ei4
  obtain ⟨n, o, h1, h2, h3, _, L, rfl, ⟨rfl, N⟩, hq⟩ := own_law l s _ hw tables_1 i0 i1 i2 i3 i4 s.heap s.heap.size (Nat.le_refl _)  p e ha hc hk s m _ below hf ((Spec.applies_iff_loose hf).mp happ).1 ⟨rfl, State.Warmed39.refl s, rfl⟩ trivial
  refine ⟨n, _, h1, h2, h3, hpost _ _ _ _ _ _ ⟨Cond.after_iff.mpr rfl, Cond.after_iff.mpr (eq_i res_at (Term.int_eval (1)) rfl), trivial⟩ ⟨hq.1, hq.2.1, (hq.2.2.sift fun y hy => Or.inr (N y hy)).mono (by decide) (by decide)⟩⟩
theorem main_1_1 : Claimed_1_1 := comes_1 fun _ _ _ _ _ _ h hF => ⟨h.1, hF⟩
theorem main_1_2 : Claimed_1_2 := comes_1 fun _ _ _ _ _ _ h hF => ⟨h.2.1, hF⟩
end Jvm.Pilot.@@N@@
namespace Jvm.Pilot.@@N@@
open Jvm Jvm.ClassFile Sem Op Lib Jvm.Free Jvm.Stand Jvm.Pilot.@@N@@.Jvm.D
/-! MADE BY PROGRAM (witnessworld.py) out of the Statement's table words and the real class files: 9 classes; the members and pool entries that the words name. The judged class is class 1, her method 2. -/
namespace start1
open Jvm.ClassFile
def u (s : String) : CpInfo := .utf8 (stringToUtf16 s)
/-- a pool by its gaps: so many unusable entries, then the entry; so many at the end -/
def gap : Nat → List CpInfo → List CpInfo
  | 0, r => r
  | n + 1, r => .unusable :: gap n r
def poolList (es : List (Nat × CpInfo)) (last : Nat) : List CpInfo := es.foldr (fun e r => gap e.1 (e.2 :: r)) (gap last [])
def pool (es : List (Nat × CpInfo)) (last : Nat) : Array CpInfo := ⟨poolList es last⟩
def fileOf (pool : Array CpInfo) (this : Nat) (attrs : Array Attribute := #[]) (ms : Array MethodInfo := #[]) (fl : Nat := 33) (sup : Nat := 0) (ifs : Array Nat := #[]) (fds : Array FieldInfo := #[]) : ClassFile where
  minorVersion := 0
  majorVersion := 65
  constantPool := pool
  accessFlags := fl
  thisClass := this
  superClass := sup
  interfaces := ifs
  fields := fds
  methods := ms
  attributes := attrs
def plain (name : String) (sup : Option ClassId) : Class where
  name := name
  kind := .ordinary
  loader := none
  accessFlags := 33
  super := sup
  interfaces := #[]
  cf := none
  fields := #[]
  methods := #[]
  instanceTypes := #[]
  staticTypes := #[]
  resolved := #[]
  callSites := []
  init := .initialized
  statics := none
  mirror := none

def pool0 : Array CpInfo := pool [(5, u "<init>"), (0, u "()V"), (1, .class_ 10), (1, u "java/lang/Object")] 113

def k0c0 : Code := { maxStack := 0, maxLocals := 1, code := object_method_1_code, exceptionTable := #[], attributes := #[] }
def k0m0 : Method := { name := "<init>", desc := "()V", sig := { parameters := [], returnType := none }, accessFlags := 1, code := some k0c0 }
/-- java/lang/Object -/
def k0 : Class := { plain "java/lang/Object" none with
  accessFlags := 33
  interfaces := #[]
  cf := some (fileOf pool0 8 #[] #[{ accessFlags := 1, nameIndex := 5, descriptorIndex := 6, attributes := #[] }] 33 0 #[] #[])
  fields := #[]
  methods := #[k0m0]
  instanceTypes := #[]
  staticTypes := #[]
  resolved := Array.replicate 124 none
  statics := none }

def pool1 : Array CpInfo := pool [(2, .class_ 4), (1, u "java/lang/Object"), (0, u "<init>"), (0, u "()V"), (0, .integer 2147483647), (0, .class_ 9), (0, u "com/example/trim_chain/trimchain/engine/Partition"), (0, .methodref 8 11), (0, .nameAndType 5 12), (0, u "(I)V"), (0, .methodref 8 14), (0, .nameAndType 15 12), (0, u "mark"), (0, .methodref 8 17), (0, .nameAndType 18 19), (0, u "element"), (0, u "(I)I"), (0, .methodref 21 22), (0, .class_ 23), (0, .nameAndType 24 19), (0, u "com/example/trim_chain/trimchain/engine/PartitionMarkPinLaw"), (0, u "bit"), (3, u "law"), (0, u "(IIIII)Z")] 4

def k1m0 : Method := { name := "<init>", desc := "()V", sig := { parameters := [], returnType := none }, accessFlags := 1, code := none }
def k1c1 : Code := { maxStack := 2, maxLocals := 1, code := method_2_code, exceptionTable := #[], attributes := #[] }
def k1m1 : Method := { name := "bit", desc := "(I)I", sig := { parameters := [.int], returnType := some .int }, accessFlags := 10, code := some k1c1 }
def k1c2 : Code := { maxStack := 3, maxLocals := 20, code := code, exceptionTable := #[], attributes := #[] }
def k1m2 : Method := { name := "law", desc := "(IIIII)Z", sig := { parameters := [.int, .int, .int, .int, .int], returnType := some .boolean }, accessFlags := 9, code := some k1c2 }
/-- com/example/trim_chain/trimchain/engine/PartitionMarkPinLaw -/
def k1 : Class := { plain "com/example/trim_chain/trimchain/engine/PartitionMarkPinLaw" (some 0) with
  accessFlags := 49
  interfaces := #[]
  cf := some (fileOf pool1 21 #[] #[{ accessFlags := 1, nameIndex := 5, descriptorIndex := 6, attributes := #[] }, { accessFlags := 10, nameIndex := 24, descriptorIndex := 19, attributes := #[] }, { accessFlags := 9, nameIndex := 28, descriptorIndex := 29, attributes := #[] }] 49 2 #[] #[])
  fields := #[]
  methods := #[k1m0, k1m1, k1m2]
  instanceTypes := #[]
  staticTypes := #[]
  resolved := Array.replicate 34 none
  statics := none }

def pool2 : Array CpInfo := pool [(1, .methodref 2 3), (0, .class_ 4), (0, .nameAndType 5 6), (0, u "java/lang/Object"), (0, u "<init>"), (0, u "()V"), (0, .fieldref 8 9), (0, .class_ 10), (0, .nameAndType 11 12), (0, u "com/example/trim_chain/trimchain/engine/Partition"), (0, u "elements"), (0, u "[I"), (0, .fieldref 8 14), (0, .nameAndType 15 12), (0, u "position"), (0, .fieldref 8 17), (0, .nameAndType 18 12), (0, u "blockOf"), (0, .fieldref 8 20), (0, .nameAndType 21 12), (0, u "start"), (0, .fieldref 8 23), (0, .nameAndType 24 12), (0, u "end"), (0, .fieldref 8 26), (0, .nameAndType 27 12), (0, u "markedEnd"), (0, .fieldref 8 29), (0, .nameAndType 30 12), (0, u "touched"), (0, .fieldref 8 32), (0, .nameAndType 33 34), (0, u "blockCount"), (0, u "I"), (26, u "(I)V"), (21, u "mark"), (28, .fieldref 8 113), (0, .nameAndType 114 34), (0, u "touchedCount"), (0, .methodref 8 116), (0, .nameAndType 117 118), (0, u "swap"), (0, u "(II)V"), (19, .class_ 140), (1, u "com/example/trim_chain/trimchain/engine/Partition$SplitListener"), (21, u "(I)I"), (1, u "element")] 48

def k2c0 : Code := { maxStack := 3, maxLocals := 3, code := prog_10_method_1_code, exceptionTable := #[], attributes := #[] }
def k2m0 : Method := { name := "<init>", desc := "(I)V", sig := { parameters := [.int], returnType := none }, accessFlags := 1, code := some k2c0 }
def k2c1 : Code := { maxStack := 2, maxLocals := 2, code := prog_10_method_10_code, exceptionTable := #[], attributes := #[] }
def k2m1 : Method := { name := "element", desc := "(I)I", sig := { parameters := [.int], returnType := some .int }, accessFlags := 1, code := some k2c1 }
def k2c2 : Code := { maxStack := 5, maxLocals := 4, code := prog_10_method_11_code, exceptionTable := #[], attributes := #[] }
def k2m2 : Method := { name := "mark", desc := "(I)V", sig := { parameters := [.int], returnType := none }, accessFlags := 1, code := some k2c2 }
def k2c3 : Code := { maxStack := 3, maxLocals := 5, code := prog_10_method_15_code, exceptionTable := #[], attributes := #[] }
def k2m3 : Method := { name := "swap", desc := "(II)V", sig := { parameters := [.int, .int], returnType := none }, accessFlags := 2, code := some k2c3 }
/-- com/example/trim_chain/trimchain/engine/Partition -/
def k2 : Class := { plain "com/example/trim_chain/trimchain/engine/Partition" (some 0) with
  accessFlags := 49
  interfaces := #[]
  cf := some (fileOf pool2 8 #[.nestMembers #[138]] #[{ accessFlags := 1, nameIndex := 5, descriptorIndex := 61, attributes := #[] }, { accessFlags := 1, nameIndex := 164, descriptorIndex := 162, attributes := #[] }, { accessFlags := 1, nameIndex := 83, descriptorIndex := 61, attributes := #[] }, { accessFlags := 2, nameIndex := 117, descriptorIndex := 118, attributes := #[] }] 49 2 #[] #[{ accessFlags := 18, nameIndex := 11, descriptorIndex := 12, attributes := #[] }, { accessFlags := 18, nameIndex := 15, descriptorIndex := 12, attributes := #[] }, { accessFlags := 18, nameIndex := 18, descriptorIndex := 12, attributes := #[] }, { accessFlags := 18, nameIndex := 21, descriptorIndex := 12, attributes := #[] }, { accessFlags := 18, nameIndex := 24, descriptorIndex := 12, attributes := #[] }, { accessFlags := 18, nameIndex := 27, descriptorIndex := 12, attributes := #[] }, { accessFlags := 18, nameIndex := 30, descriptorIndex := 12, attributes := #[] }, { accessFlags := 2, nameIndex := 114, descriptorIndex := 34, attributes := #[] }, { accessFlags := 2, nameIndex := 33, descriptorIndex := 34, attributes := #[] }])
  fields := #[{ name := "elements", type := (.array .int), accessFlags := 18, slot := 0, constantValue := 0 }, { name := "position", type := (.array .int), accessFlags := 18, slot := 1, constantValue := 0 }, { name := "blockOf", type := (.array .int), accessFlags := 18, slot := 2, constantValue := 0 }, { name := "start", type := (.array .int), accessFlags := 18, slot := 3, constantValue := 0 }, { name := "end", type := (.array .int), accessFlags := 18, slot := 4, constantValue := 0 }, { name := "markedEnd", type := (.array .int), accessFlags := 18, slot := 5, constantValue := 0 }, { name := "touched", type := (.array .int), accessFlags := 18, slot := 6, constantValue := 0 }, { name := "touchedCount", type := .int, accessFlags := 2, slot := 7, constantValue := 0 }, { name := "blockCount", type := .int, accessFlags := 2, slot := 8, constantValue := 0 }]
  methods := #[k2m0, k2m1, k2m2, k2m3]
  instanceTypes := #[(.array .int), (.array .int), (.array .int), (.array .int), (.array .int), (.array .int), (.array .int), .int, .int]
  staticTypes := #[]
  resolved := Array.replicate 213 none
  statics := none }

def pool3 : Array CpInfo := pool [(1, u "java/lang/Cloneable"), (0, .class_ 1), (0, u "java/lang/Object"), (0, .class_ 3)] 3

/-- java/lang/Cloneable -/
def k3 : Class := { plain "java/lang/Cloneable" (some 0) with
  accessFlags := 1537
  interfaces := #[]
  cf := some (fileOf pool3 2 #[] #[] 1537 4 #[] #[])
  fields := #[]
  methods := #[]
  instanceTypes := #[]
  staticTypes := #[]
  resolved := Array.replicate 8 none
  statics := none }

def pool4 : Array CpInfo := pool [(1, u "java/io/Serializable"), (0, .class_ 1), (0, u "java/lang/Object"), (0, .class_ 3)] 3

/-- java/io/Serializable -/
def k4 : Class := { plain "java/io/Serializable" (some 0) with
  accessFlags := 1537
  interfaces := #[]
  cf := some (fileOf pool4 2 #[] #[] 1537 4 #[] #[])
  fields := #[]
  methods := #[]
  instanceTypes := #[]
  staticTypes := #[]
  resolved := Array.replicate 8 none
  statics := none }

/-- the primitive byte -/
def k5 : Class := { plain "byte" none with kind := .primitive 'B', accessFlags := 0x411 }
/-- [B -/
def k6 : Class := { plain "[B" (some 0) with kind := .array 5 .byte, interfaces := #[3, 4], accessFlags := 1041 }

/-- the primitive int -/
def k7 : Class := { plain "int" none with kind := .primitive 'I', accessFlags := 0x411 }
/-- [I -/
def k8 : Class := { plain "[I" (some 0) with kind := .array 7 .int, interfaces := #[3, 4], accessFlags := 1041 }

def heap : Heap := #[]
def classes : Array Class := #[k0, k1, k2, k3, k4, k5, k6, k7, k8]
def interned : List (Array UInt16 × Addr) := []
def slotsUsed : Nat := 0
def theMethod : MethodId := ⟨1, 2⟩
def args0 : Array Value := #[.int 3, .int 1, .int 2, .int 0, .int 4]
def aboutOver (below : List Frame) : State where
  vm := { classes := classes, interned := interned.toArray }
  heap := heap
  slotsUsed := slotsUsed
  threads := #[{ frames := .invoking theMethod args0 :: below }]
def below0 : List Frame := [.native { method := ⟨0, 0⟩, args := #[] }]
def about1 : State := aboutOver below0
def p0 : Program := .bare "" "" ""
def e0 : Env := launch0.env 0 0 0
theorem w_frames : about1.frames = Frame.invoking theMethod args0 :: below0 := rfl
set_option maxRecDepth 65536 in
theorem w_args : argsFit about1.vm theMethod args0 = true := by decide +kernel
set_option maxRecDepth 65536 in
theorem w_heap : heapFits about1 = true := by decide +kernel
set_option maxRecDepth 65536 in
theorem w_runnable : about1.curStatus? = some .runnable := by decide +kernel
set_option maxRecDepth 65536 in
theorem w_alone : about1.alone = true := by decide +kernel
set_option maxRecDepth 65536 in
theorem w_named : about1.methodNamed? x = some theMethod := by decide +kernel
set_option maxRecDepth 65536 in
theorem w_hears : about1.hears theMethod below0 = true := by decide +kernel
set_option maxRecDepth 65536 in
theorem w_ripe : about1.ripe theMethod args0 below0 = true := by decide +kernel
theorem w_running : about1.status = .running := rfl
set_option maxRecDepth 65536 in
theorem w_room : about1.hasRoom e0.platform room_1 = true :=
  launch0.hasRoom_least _ room_1 (by decide +kernel) (by decide +kernel) (by decide +kernel) (by decide +kernel) (by decide +kernel) (by decide +kernel)
theorem allAtoms_all (ts : List Jvm.Cond) (a : Array Jvm.Value) (st : Jvm.State) : (allAtoms ts).before a st = ts.all (fun c => c.before a st) := by
  induction ts with
  | nil => rfl
  | cons c t ih =>
    show (Jvm.Cond.and c (allAtoms t)).before a st = _
    rw [Jvm.Cond.before_and, ih, List.all_cons]
def words1 : List Jvm.Cond := Jvm.Cond.code x code maxLocals ret :: tables_1
/-- a 'code' word, met by the world's own term for the bytes: nothing is compared byte by byte -/
theorem code_word {y : MethodName} {bytes : ByteArray} {mx : Nat} {rt : Option FieldType} {a : Array Value} {s : State} {m : MethodId} {meth : Method} {c : Code} (h1 : s.methodNamed? y = some m) (h2 : s.vm.method? m = some meth) (h3 : meth.code = some c) (h4 : c.code = bytes)
    (h5 : (c.maxLocals == mx && c.exceptionTable.isEmpty && decide (c.maxStack ≤ mostOperands) && decide (meth.sig.returnType = rt) && !meth.locks && decide (parseMethodDescriptor y.desc = some meth.sig)) = true) : (Jvm.Cond.code y bytes mx rt).before a s = true := by
  simp only [Bool.and_eq_true, beq_iff_eq, Bool.not_eq_true', decide_eq_true_eq] at h5
  obtain ⟨⟨⟨⟨⟨g1, g2⟩, g3⟩, g4⟩, g5⟩, g6⟩ := h5
  simp [Cond.before, Cond.holds, Cond.value, h1, h2, h3, h4, g1, g2, g3, g4, g5, g6]
def isCode : Jvm.Cond → Bool
  | .code _ _ _ _ => true
  | _ => false
theorem all_split {L : List Jvm.Cond} {P : Jvm.Cond → Bool} (h1 : L.all (fun c => isCode c || P c) = true) (h2 : ∀ c ∈ L.filter isCode, P c = true) : L.all P = true := by
  refine List.all_eq_true.mpr fun c hc => ?_
  have h := List.all_eq_true.mp h1 c hc
  rcases Bool.eq_false_or_eq_true (isCode c) with hi | hi
  · exact h2 c (List.mem_filter.mpr ⟨hc, hi⟩)
  · simpa [hi] using h
set_option maxRecDepth 65536 in
theorem w_c0 : (Jvm.Cond.code x code maxLocals ret).before args0 about1 = true := code_word (m := ⟨1, 2⟩) (meth := k1m2) (c := k1c2) (by decide +kernel) rfl rfl rfl (by decide +kernel)
set_option maxRecDepth 65536 in
theorem w_c1 : (Jvm.Cond.code ({ cls := "com/example/trim_chain/trimchain/engine/Partition", name := "<init>", desc := "(I)V" } : Jvm.MethodName) prog_10_method_1_code (3 : Nat) (Option.none : Option Jvm.ClassFile.FieldType)).before args0 about1 = true := code_word (m := ⟨2, 0⟩) (meth := k2m0) (c := k2c0) (by decide +kernel) rfl rfl rfl (by decide +kernel)
set_option maxRecDepth 65536 in
theorem w_c2 : (Jvm.Cond.code ({ cls := "java/lang/Object", name := "<init>", desc := "()V" } : Jvm.MethodName) object_method_1_code (1 : Nat) (Option.none : Option Jvm.ClassFile.FieldType)).before args0 about1 = true := code_word (m := ⟨0, 0⟩) (meth := k0m0) (c := k0c0) (by decide +kernel) rfl rfl rfl (by decide +kernel)
set_option maxRecDepth 65536 in
theorem w_c3 : (Jvm.Cond.code ({ cls := "com/example/trim_chain/trimchain/engine/Partition", name := "element", desc := "(I)I" } : Jvm.MethodName) prog_10_method_10_code (2 : Nat) (Option.some Jvm.ClassFile.FieldType.int)).before args0 about1 = true := code_word (m := ⟨2, 1⟩) (meth := k2m1) (c := k2c1) (by decide +kernel) rfl rfl rfl (by decide +kernel)
set_option maxRecDepth 65536 in
theorem w_c4 : (Jvm.Cond.code ({ cls := "com/example/trim_chain/trimchain/engine/PartitionMarkPinLaw", name := "bit", desc := "(I)I" } : Jvm.MethodName) method_2_code (1 : Nat) (Option.some Jvm.ClassFile.FieldType.int)).before args0 about1 = true := code_word (m := ⟨1, 1⟩) (meth := k1m1) (c := k1c1) (by decide +kernel) rfl rfl rfl (by decide +kernel)
set_option maxRecDepth 65536 in
theorem w_c5 : (Jvm.Cond.code ({ cls := "com/example/trim_chain/trimchain/engine/Partition", name := "mark", desc := "(I)V" } : Jvm.MethodName) prog_10_method_11_code (4 : Nat) (Option.none : Option Jvm.ClassFile.FieldType)).before args0 about1 = true := code_word (m := ⟨2, 2⟩) (meth := k2m2) (c := k2c2) (by decide +kernel) rfl rfl rfl (by decide +kernel)
set_option maxRecDepth 65536 in
theorem w_c6 : (Jvm.Cond.code ({ cls := "com/example/trim_chain/trimchain/engine/Partition", name := "swap", desc := "(II)V" } : Jvm.MethodName) prog_10_method_15_code (5 : Nat) (Option.none : Option Jvm.ClassFile.FieldType)).before args0 about1 = true := code_word (m := ⟨2, 3⟩) (meth := k2m3) (c := k2c3) (by decide +kernel) rfl rfl rfl (by decide +kernel)
def codes1 : List Jvm.Cond := [Jvm.Cond.code x code maxLocals ret, Jvm.Cond.code ({ cls := "com/example/trim_chain/trimchain/engine/Partition", name := "<init>", desc := "(I)V" } : Jvm.MethodName) prog_10_method_1_code (3 : Nat) (Option.none : Option Jvm.ClassFile.FieldType), Jvm.Cond.code ({ cls := "java/lang/Object", name := "<init>", desc := "()V" } : Jvm.MethodName) object_method_1_code (1 : Nat) (Option.none : Option Jvm.ClassFile.FieldType), Jvm.Cond.code ({ cls := "com/example/trim_chain/trimchain/engine/Partition", name := "element", desc := "(I)I" } : Jvm.MethodName) prog_10_method_10_code (2 : Nat) (Option.some Jvm.ClassFile.FieldType.int), Jvm.Cond.code ({ cls := "com/example/trim_chain/trimchain/engine/PartitionMarkPinLaw", name := "bit", desc := "(I)I" } : Jvm.MethodName) method_2_code (1 : Nat) (Option.some Jvm.ClassFile.FieldType.int), Jvm.Cond.code ({ cls := "com/example/trim_chain/trimchain/engine/Partition", name := "mark", desc := "(I)V" } : Jvm.MethodName) prog_10_method_11_code (4 : Nat) (Option.none : Option Jvm.ClassFile.FieldType), Jvm.Cond.code ({ cls := "com/example/trim_chain/trimchain/engine/Partition", name := "swap", desc := "(II)V" } : Jvm.MethodName) prog_10_method_15_code (5 : Nat) (Option.none : Option Jvm.ClassFile.FieldType)]
set_option maxRecDepth 65536 in
theorem codes_eq : words1.filter isCode = codes1 := rfl
theorem w_codes : ∀ c ∈ words1.filter isCode, c.before args0 about1 = true := by
  rw [codes_eq]
  intro c hc
  simp only [codes1, List.mem_cons, List.not_mem_nil, or_false] at hc
  rcases hc with rfl | rfl | rfl | rfl | rfl | rfl | rfl
  · exact w_c0
  · exact w_c1
  · exact w_c2
  · exact w_c3
  · exact w_c4
  · exact w_c5
  · exact w_c6
set_option maxRecDepth 65536 in
theorem w_t1 : (words1.take 24).all (fun c => isCode c || c.before args0 about1) = true := by decide +kernel
set_option maxRecDepth 65536 in
theorem w_t2 : (words1.drop 24).all (fun c => isCode c || c.before args0 about1) = true := by decide +kernel
theorem w_tables : (allAtoms (Jvm.Cond.code x code maxLocals ret :: tables_1)).before args0 about1 = true := by
  rw [allAtoms_all]
  show words1.all (fun c => c.before args0 about1) = true
  refine all_split ?_ w_codes
  rw [← List.take_append_drop 24 words1, List.all_append, w_t1, w_t2]
  rfl
set_option maxRecDepth 65536 in
theorem w_case : (Jvm.Cond.and given_1 narrow_1).before args0 about1 = true := by decide +kernel
theorem w_applies : (headSpec (Jvm.Cond.code x code maxLocals ret :: tables_1) room_1).applies x e0.platform about1 = true :=
  (Spec.applies_iff w_frames).mpr ⟨w_running, w_runnable, w_alone, w_named, w_hears, w_ripe, w_room, w_tables⟩
theorem atStart : AtStart classFile x code maxLocals ret World_1 tables_1 room_1 Calls_1 rest_1 Pre_1 launch0 p0 e0 about1 theMethod args0 below0 :=
  ⟨lists_1, trivial, launch0.admits_env _ _ _, launch0.least_env, fairChoices_fair.cas, fairChoices_fair.clock, w_frames, w_args, w_heap, w_applies, trivial, trivial, w_case⟩
end start1
theorem witness_1 : WitnessClaimed_1 := ⟨start1.p0, start1.e0, start1.about1, start1.theMethod, start1.args0, start1.below0, start1.atStart⟩
end Jvm.Pilot.@@N@@
