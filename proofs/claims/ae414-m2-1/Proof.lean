import JvmDerived
import JvmDerived.Pilot.@@N@@Statement
import JvmDerived.Pilot.@@N@@Code
set_option linter.unusedVariables false
set_option linter.unusedSimpArgs false
@@BLOCK:NumsL.lean.txt@@
namespace Jvm.Pilot.@@N@@
open Jvm Jvm.ClassFile Sem Op Lib Jvm.Free Jvm.Stand Jvm.LawKit Jvm.RoadKit Bundle Jvm.Pilot.@@N@@.Jvm.D
/-! 1. small laws of this text: from the case's words to facts; the remainder's cases -/
theorem own_fld {Z : State} {args : Array Value} {a : Addr} {t : Term} {C n d : String} {k : Int32} (ev : t.eval args Z none [] Z = some (.ref a)) (h : (Jvm.Cond.eq (Term.field t C n d) (Term.int k)).value args Z none Z [] = some true) : Fld Z Z.heap a C n d (.int k) := by
  obtain ⟨x, y, h1, h2, hk, hk'⟩ := cmp_v (Or.inl h)
  have hy : y = .int k := Option.some.inj (h2.symm.trans (Term.int_eval k))
  subst hy
  obtain ⟨z, rfl⟩ := hk'
  have q : z = k := by simpa [Cond.value, h1, h2] using h
  subst q
  exact Fld.start ((fld_at ev).symm.trans h1)
theorem own_rem {x n : Int32} (h0 : 0 ≤ x.toInt) (hn : 0 < n.toInt) : 0 ≤ (x % n).toInt ∧ (x % n).toInt < n.toInt := by
  rw [Int32.toInt_mod]
  refine ⟨Int.tmod_nonneg _ h0, ?_⟩
  exact Int.tmod_lt_of_pos _ hn
theorem own_mask (x : Int32) : 0 ≤ (x &&& (2147483647 : Int32)).toInt := by
  rw [Jvm.Kit.i32_mask x 2147483647 (k := 31) (by decide) (by decide)]
  omega
def QR (r : Option Value) (h0 : Heap) (n0 : Nat) (v : Option Value) (h : Heap) (L : List Loc) : Prop := v = r ∧ Fr n0 L ∧ h = h0
def QL (r : Option Value) (h0 : Heap) (n0 : Nat) (v : Option Value) (h : Heap) (L : List Loc) : Prop := v = r ∧ Fr n0 L
theorem own_len {Z : State} {args : Array Value} {a : Addr} {t : Term} {cl : Cell} {ty : FieldType} {k : Int32} {n : Nat} (ev : t.eval args Z none [] Z = some (.ref a)) (A : Arr Z Z.heap a cl ty) (h : (Jvm.Cond.eq (Term.length t) (Term.int k)).value args Z none Z [] = some true) (hn : k.toInt = n) : cl.slots.size = n := by
  obtain ⟨x, y, h1, h2, hk, hk'⟩ := cmp_v (Or.inl h)
  have hy : y = .int k := Option.some.inj (h2.symm.trans (Term.int_eval k))
  subst hy
  obtain ⟨z, rfl⟩ := hk'
  have q : z = k := by simpa [Cond.value, h1, h2] using h
  subst q
  have hA := Arr.fin (Vm.Alike.refl _) A
  simp only [Term.eval, ev, hA, Option.bind_eq_bind, Option.bind_some] at h1
  split at h1
  · rename_i hl
    have hz : cl.slots.size.toInt32 = z := by simpa using h1
    rw [← hz, len_toInt hl] at hn
    omega
  · cases h1
theorem own_elem {Z : State} {args : Array Value} {a b : Addr} {t u : Term} {cl : Cell} {ty : FieldType} {k : Int32} {n : Nat} (ev : t.eval args Z none [] Z = some (.ref a)) (A : Arr Z Z.heap a cl ty) (eu : u.eval args Z none [] Z = some (.ref b)) (h : (Jvm.Cond.eq (Term.elem t (Term.int k)) u).value args Z none Z [] = some true) (hn : k.toNatClampNeg = n) : cl.slots[n]? = some (.ref b) := by
  obtain ⟨x, y, h1, h2, hk, hk'⟩ := cmp_v (Or.inl h)
  cases eu.symm.trans h2
  have q := (elem_in h1 ev (Term.int_eval k) A.1).2
  rw [hn] at q
  rw [q]
  rw [eq_R h1 h2 hk'.2 hk'.1] at h
  simpa using h
def Glob (Z : State) (h : Heap) (w_IN_ORDER : Addr) (c_w_IN_ORDER : Cell) (w_INTERVAL_1 : Addr) (w_INTERVAL_4 : Addr) (w_INTERVAL_2 : Addr) (w_INTERVAL_5 : Addr) (w_INTERVAL_3 : Addr) : Prop := Sta Z h "com/example/gasreckon/gasreckon/model/SchedulingInterval" "IN_ORDER" "[Lcom/example/gasreckon/gasreckon/model/SchedulingInterval;" (.ref w_IN_ORDER) ∧ Arr Z h w_IN_ORDER c_w_IN_ORDER (.object "com/example/gasreckon/gasreckon/model/SchedulingInterval") ∧ c_w_IN_ORDER.slots.size = 5 ∧ Sta Z h "com/example/gasreckon/gasreckon/model/SchedulingInterval" "INTERVAL_1" "Lcom/example/gasreckon/gasreckon/model/SchedulingInterval;" (.ref w_INTERVAL_1) ∧ Exa Z h w_INTERVAL_1 "com/example/gasreckon/gasreckon/model/SchedulingInterval" ∧ c_w_IN_ORDER.slots[0]? = some (.ref w_INTERVAL_1) ∧ Fld Z h w_INTERVAL_1 "java/lang/Enum" "ordinal" "I" (.int (0 : Int32)) ∧ Fld Z h w_INTERVAL_1 "com/example/gasreckon/gasreckon/model/SchedulingInterval" "firstHour" "I" (.int (1 : Int32)) ∧ Sta Z h "com/example/gasreckon/gasreckon/model/SchedulingInterval" "INTERVAL_4" "Lcom/example/gasreckon/gasreckon/model/SchedulingInterval;" (.ref w_INTERVAL_4) ∧ Exa Z h w_INTERVAL_4 "com/example/gasreckon/gasreckon/model/SchedulingInterval" ∧ c_w_IN_ORDER.slots[3]? = some (.ref w_INTERVAL_4) ∧ Fld Z h w_INTERVAL_4 "java/lang/Enum" "ordinal" "I" (.int (3 : Int32)) ∧ Fld Z h w_INTERVAL_4 "com/example/gasreckon/gasreckon/model/SchedulingInterval" "firstHour" "I" (.int (13 : Int32)) ∧ Sta Z h "com/example/gasreckon/gasreckon/model/SchedulingInterval" "INTERVAL_2" "Lcom/example/gasreckon/gasreckon/model/SchedulingInterval;" (.ref w_INTERVAL_2) ∧ Exa Z h w_INTERVAL_2 "com/example/gasreckon/gasreckon/model/SchedulingInterval" ∧ c_w_IN_ORDER.slots[1]? = some (.ref w_INTERVAL_2) ∧ Fld Z h w_INTERVAL_2 "java/lang/Enum" "ordinal" "I" (.int (1 : Int32)) ∧ Fld Z h w_INTERVAL_2 "com/example/gasreckon/gasreckon/model/SchedulingInterval" "firstHour" "I" (.int (5 : Int32)) ∧ Sta Z h "com/example/gasreckon/gasreckon/model/SchedulingInterval" "INTERVAL_5" "Lcom/example/gasreckon/gasreckon/model/SchedulingInterval;" (.ref w_INTERVAL_5) ∧ Exa Z h w_INTERVAL_5 "com/example/gasreckon/gasreckon/model/SchedulingInterval" ∧ c_w_IN_ORDER.slots[4]? = some (.ref w_INTERVAL_5) ∧ Fld Z h w_INTERVAL_5 "java/lang/Enum" "ordinal" "I" (.int (4 : Int32)) ∧ Fld Z h w_INTERVAL_5 "com/example/gasreckon/gasreckon/model/SchedulingInterval" "firstHour" "I" (.int (17 : Int32)) ∧ Sta Z h "com/example/gasreckon/gasreckon/model/SchedulingInterval" "INTERVAL_3" "Lcom/example/gasreckon/gasreckon/model/SchedulingInterval;" (.ref w_INTERVAL_3) ∧ Exa Z h w_INTERVAL_3 "com/example/gasreckon/gasreckon/model/SchedulingInterval" ∧ c_w_IN_ORDER.slots[2]? = some (.ref w_INTERVAL_3) ∧ Fld Z h w_INTERVAL_3 "java/lang/Enum" "ordinal" "I" (.int (2 : Int32)) ∧ Fld Z h w_INTERVAL_3 "com/example/gasreckon/gasreckon/model/SchedulingInterval" "firstHour" "I" (.int (9 : Int32))
theorem own_cases_rem5 (p : Int32) : ((p &&& (2147483647 : Int32)) % (5 : Int32)) = (0 : Int32) ∨ ((p &&& (2147483647 : Int32)) % (5 : Int32)) = (1 : Int32) ∨ ((p &&& (2147483647 : Int32)) % (5 : Int32)) = (2 : Int32) ∨ ((p &&& (2147483647 : Int32)) % (5 : Int32)) = (3 : Int32) ∨ ((p &&& (2147483647 : Int32)) % (5 : Int32)) = (4 : Int32) := by
  have h := own_rem (n := (5 : Int32)) (own_mask p) (by decide)
  generalize (p &&& (2147483647 : Int32)) % (5 : Int32) = z at h ⊢
  have hn : ((5 : Int32)).toInt = 5 := by decide
  rw [hn] at h
  simp only [← Int32.toInt_inj]
  have h0 : ((0 : Int32)).toInt = 0 := by decide
  have h1 : ((1 : Int32)).toInt = 1 := by decide
  have h2 : ((2 : Int32)).toInt = 2 := by decide
  have h3 : ((3 : Int32)).toInt = 3 := by decide
  have h4 : ((4 : Int32)).toInt = 4 := by decide
  omega
theorem d1_0 : decode prog_42_method_4_code 0 = .ok (.iload_n 0, 1) := by decide +kernel
theorem d1_1 : decode prog_42_method_4_code 1 = .ok (.iconst 1, 1) := by decide +kernel
theorem d1_2 : decode prog_42_method_4_code 2 = .ok (.if_icmp .lt 11, 3) := by decide +kernel
theorem d1_5 : decode prog_42_method_4_code 5 = .ok (.iload_n 0, 1) := by decide +kernel
theorem d1_6 : decode prog_42_method_4_code 6 = .ok (.getstatic 45, 3) := by decide +kernel
theorem d1_9 : decode prog_42_method_4_code 9 = .ok (.arraylength, 1) := by decide +kernel
theorem d1_10 : decode prog_42_method_4_code 10 = .ok (.if_icmp .le 17, 3) := by decide +kernel
theorem d1_27 : decode prog_42_method_4_code 27 = .ok (.getstatic 45, 3) := by decide +kernel
theorem d1_30 : decode prog_42_method_4_code 30 = .ok (.iload_n 0, 1) := by decide +kernel
theorem d1_31 : decode prog_42_method_4_code 31 = .ok (.iconst 1, 1) := by decide +kernel
theorem d1_32 : decode prog_42_method_4_code 32 = .ok (.isub, 1) := by decide +kernel
theorem d1_33 : decode prog_42_method_4_code 33 = .ok (.aaload, 1) := by decide +kernel
theorem d1_34 : decode prog_42_method_4_code 34 = .ok (.areturn, 1) := by decide +kernel
theorem ef_1_I (m : MethodId) (x0 : Int32) : entryFrame m #[(.int x0)] 1 = mkF m 0 #[.val (.int x0)] [] := by first | (simp [entryFrame, mkF, argsToLocals, Value.category]; done) | rfl
theorem pn_com_example_gasreckon_gasreckon_model_SchedulingInterval : plainName "com/example/gasreckon/gasreckon/model/SchedulingInterval" = true := by first | (simp [plainName, overriddenIn]; done) | decide +kernel
set_option maxRecDepth 65536 in
set_option maxHeartbeats 40000000 in
theorem c1_0 (l : Launch) (Z : State) (a0 : Array Value) (hw : ∀ d ∈ tables_1, d.before a0 Z = true) (ws : List Jvm.Cond) (w_IN_ORDER : Addr) (c_w_IN_ORDER : Cell) (w_INTERVAL_1 : Addr) (w_INTERVAL_4 : Addr) (w_INTERVAL_2 : Addr) (w_INTERVAL_5 : Addr) (w_INTERVAL_3 : Addr) (h0 : Heap) (n0 : Nat) (Z0 : n0 ≤ h0.size) (G : Glob Z h0 w_IN_ORDER c_w_IN_ORDER w_INTERVAL_1 w_INTERVAL_4 w_INTERVAL_2 w_INTERVAL_5 w_INTERVAL_3)  :
    MetFree l (⟨"com/example/gasreckon/gasreckon/model/SchedulingInterval", "of", "(I)Lcom/example/gasreckon/gasreckon/model/SchedulingInterval;"⟩ : MethodName) (head1 (Jvm.Cond.code (⟨"com/example/gasreckon/gasreckon/model/SchedulingInterval", "of", "(I)Lcom/example/gasreckon/gasreckon/model/SchedulingInterval;"⟩ : MethodName) prog_42_method_4_code 1 (some (.object "com/example/gasreckon/gasreckon/model/SchedulingInterval")) :: ws) ({ frames := 0, cells := 0, slots := 0, locals := 0 } : Room)) (fun a U => a = #[(.int (1 : Int32))] ∧ Z.Warmed39 U.vm ∧ U.heap = h0) (fun _ _ _ _ _ => True) (fun _ U o U' => ∃ v L, o = .returned v ∧ QR (some (.ref w_INTERVAL_1)) h0 n0 v U'.heap L ∧ FrameEnd U o U' L ({ frames := 0, cells := 0, slots := 0, locals := 0 } : Room).cells ({ frames := 0, cells := 0, slots := 0, locals := 0 } : Room).slots) := by
  refine MetFree.of_bodySF (plainFor_of_name pn_com_example_gasreckon_gasreckon_model_SchedulingInterval) hisR ?_
  intro p e s m args below meth c s₁ Bd hml0 hP hK
  obtain ⟨rfl, hZ, hh⟩ := hP
  have hx := Bd.exec
  have hby := Bd.bytes
  have hml : c.maxLocals = 1 := hml0
  have hown : s.vm.findClass "com/example/gasreckon/gasreckon/model/SchedulingInterval" = some m.cls := findClass_of_methodNamed Bd.named
  have X0 : Stand p l e ({ frames := 0, cells := 0, slots := 0, locals := 0 } : Room) s m #[(.int (1 : Int32))] below meth c s₁ [] 0 0 := Stand.of_body Bd
  have e0 : s₁.heap = h0 := by rw [← hh, Bd.state]; rfl
  have N0 := Fr.nil n0
  have pre0 : ∀ t, Steps p.tables e below (s₁.setTop (mkF m 0 #[.val (.int (1 : Int32))] [])) t → Steps p.tables e below (s₁.setTop (entryFrame m #[(.int (1 : Int32))] 1)) t := fun t k => castTop (ef_1_I m (1 : Int32)) k
  have G' := G
  obtain ⟨S_w_IN_ORDER, A_w_IN_ORDER, L_w_IN_ORDER, S_w_INTERVAL_1, E_w_INTERVAL_1, M_w_IN_ORDER_0, F_ordinal_w_INTERVAL_1, F_firstHour_w_INTERVAL_1, S_w_INTERVAL_4, E_w_INTERVAL_4, M_w_IN_ORDER_3, F_ordinal_w_INTERVAL_4, F_firstHour_w_INTERVAL_4, S_w_INTERVAL_2, E_w_INTERVAL_2, M_w_IN_ORDER_1, F_ordinal_w_INTERVAL_2, F_firstHour_w_INTERVAL_2, S_w_INTERVAL_5, E_w_INTERVAL_5, M_w_IN_ORDER_4, F_ordinal_w_INTERVAL_5, F_firstHour_w_INTERVAL_5, S_w_INTERVAL_3, E_w_INTERVAL_3, M_w_IN_ORDER_2, F_ordinal_w_INTERVAL_3, F_firstHour_w_INTERVAL_3⟩ := G'
  obtain ⟨T1, X1, e1, st1⟩ := getS2 X0 hx hZ hown (host := "") (Or.inl (hw _ (List.mem_of_getElem? (i := 5) rfl))) Via.refl e0 S_w_IN_ORDER (g := (mkF m 6 #[.val (.int (1 : Int32))] [(.int (1 : Int32))])) rfl (hb hby d1_6)
  obtain ⟨T2, X2, e2, st2⟩ := getS2 X1 hx hZ hown (host := "") (Or.inl (hw _ (List.mem_of_getElem? (i := 5) rfl))) Via.refl e1 S_w_IN_ORDER (g := (mkF m 27 #[.val (.int (1 : Int32))] [])) rfl (hb hby d1_27)
  obtain ⟨fs, hr, hrun, hended, hW, hsame⟩ := X2.leave (v := some (.ref w_INTERVAL_1)) (fun h => by rw [Bd.returns] at h; cases h)
  refine ⟨_, _, pre0 _ ?_, hrun, hended, _, _, rfl, ?_, ⟨_, rfl⟩, hW, hsame.mono (by decide) (by decide)⟩
  · show Steps p.tables e below (s₁.setTop (mkF m 0 #[.val (.int (1 : Int32))] [])) _
    refine XS.iloadN X0.here hx rfl (hb hby d1_0) rfl ?_
    show Steps p.tables e below (s₁.setTop (mkF m 1 #[.val (.int (1 : Int32))] [(.int (1 : Int32))])) _
    refine XS.iconst X0.here hx rfl (hb hby d1_1) ?_
    show Steps p.tables e below (s₁.setTop (mkF m 2 #[.val (.int (1 : Int32))] [(.int (1 : Int32)), (.int (1 : Int32))])) _
    refine XS.icmpNo X0.here hx rfl (hb hby d1_2) rfl (flt (by decide : ¬ ((1 : Int32) < (1 : Int32)))).1 ?_
    show Steps p.tables e below (s₁.setTop (mkF m 5 #[.val (.int (1 : Int32))] [])) _
    refine XS.iloadN X0.here hx rfl (hb hby d1_5) rfl ?_
    show Steps p.tables e below (s₁.setTop (mkF m 6 #[.val (.int (1 : Int32))] [(.int (1 : Int32))])) _
    refine st1 _ ?_
    show Steps p.tables e below (T1.setTop (mkF m 9 #[.val (.int (1 : Int32))] [(.ref w_IN_ORDER), (.int (1 : Int32))])) _
    refine X1.arraylength hx (by rw [e1]; exact A_w_IN_ORDER.1) (State.isArrayOf_alike hZ.alike A_w_IN_ORDER.2.1) (g := (mkF m 9 #[.val (.int (1 : Int32))] [(.ref w_IN_ORDER), (.int (1 : Int32))])) rfl rfl (hb hby d1_9) _ ?_
    rw [L_w_IN_ORDER]
    show Steps p.tables e below (T1.setTop (mkF m 10 #[.val (.int (1 : Int32))] [(.int (5 : Int32)), (.int (1 : Int32))])) _
    refine XS.icmpYes X1.here hx rfl (pc0 := 10) (pc' := 27) rfl (hb hby d1_10) rfl (flt (by decide : ¬ ((5 : Int32) < (1 : Int32)))).2.2.2 (by decide) (by decide) ?_
    show Steps p.tables e below (T1.setTop (mkF m 27 #[.val (.int (1 : Int32))] [])) _
    refine st2 _ ?_
    show Steps p.tables e below (T2.setTop (mkF m 30 #[.val (.int (1 : Int32))] [(.ref w_IN_ORDER)])) _
    refine XS.iloadN X2.here hx rfl (hb hby d1_30) rfl ?_
    show Steps p.tables e below (T2.setTop (mkF m 31 #[.val (.int (1 : Int32))] [(.int (1 : Int32)), (.ref w_IN_ORDER)])) _
    refine XS.iconst X2.here hx rfl (hb hby d1_31) ?_
    show Steps p.tables e below (T2.setTop (mkF m 32 #[.val (.int (1 : Int32))] [(.int (1 : Int32)), (.int (1 : Int32)), (.ref w_IN_ORDER)])) _
    refine XS.isub X2.here hx rfl (hb hby d1_32) rfl ?_
    show Steps p.tables e below (T2.setTop (mkF m 33 #[.val (.int (1 : Int32))] [(.int ((1 : Int32) - (1 : Int32))), (.ref w_IN_ORDER)])) _
    rw [(show ((1 : Int32) - (1 : Int32)) = (0 : Int32) from by decide)]
    show Steps p.tables e below (T2.setTop (mkF m 33 #[.val (.int (1 : Int32))] [(.int (0 : Int32)), (.ref w_IN_ORDER)])) _
    refine X2.aaload hx (j := (0 : Int32)) (v := (.ref w_INTERVAL_1)) (by rw [e2]; exact A_w_IN_ORDER.1) (State.isArrayOf_alike hZ.alike A_w_IN_ORDER.2.1) rfl A_w_IN_ORDER.2.2 (by rw [L_w_IN_ORDER]; decide) M_w_IN_ORDER_0 (g := (mkF m 33 #[.val (.int (1 : Int32))] [(.int (0 : Int32)), (.ref w_IN_ORDER)])) rfl rfl (hb hby d1_33) _ ?_
    show Steps p.tables e below (T2.setTop (mkF m 34 #[.val (.int (1 : Int32))] [(.ref w_INTERVAL_1)])) _
    exact retOut X2 hx Bd.returns rfl (Or.inr (Or.inr (Or.inr (Or.inr ⟨rfl, rfl, rfl⟩)))) (hb hby d1_34) hr
  · show QR _ h0 n0 _ T2.heap _
    rw [e2]
    exact ⟨rfl, N0, rfl⟩
theorem pd__I_Lcom_example_gasreckon_gasreckon_model_SchedulingInterval_ : parseMethodDescriptor "(I)Lcom/example/gasreckon/gasreckon/model/SchedulingInterval;" = some ⟨[.int], some (.object "com/example/gasreckon/gasreckon/model/SchedulingInterval")⟩ := by decide +kernel
theorem d2_0 : decode method_2_code 0 = .ok (.iload_n 0, 1) := by decide +kernel
theorem d2_1 : decode method_2_code 1 = .ok (.iconst 1, 1) := by decide +kernel
theorem d2_2 : decode method_2_code 2 = .ok (.if_icmp .ne 7, 3) := by decide +kernel
theorem d2_5 : decode method_2_code 5 = .ok (.getstatic 7, 3) := by decide +kernel
theorem d2_8 : decode method_2_code 8 = .ok (.areturn, 1) := by decide +kernel
theorem ef_2_I (m : MethodId) (x0 : Int32) : entryFrame m #[(.int x0)] 1 = mkF m 0 #[.val (.int x0)] [] := by first | (simp [entryFrame, mkF, argsToLocals, Value.category]; done) | rfl
theorem pn_com_example_gasreckon_gasreckon_model_SchedulingIntervalOfPinLaw : plainName "com/example/gasreckon/gasreckon/model/SchedulingIntervalOfPinLaw" = true := by first | (simp [plainName, overriddenIn]; done) | decide +kernel
set_option maxRecDepth 65536 in
set_option maxHeartbeats 40000000 in
theorem c2_0 (l : Launch) (Z : State) (a0 : Array Value) (hw : ∀ d ∈ tables_1, d.before a0 Z = true) (ws : List Jvm.Cond) (w_IN_ORDER : Addr) (c_w_IN_ORDER : Cell) (w_INTERVAL_1 : Addr) (w_INTERVAL_4 : Addr) (w_INTERVAL_2 : Addr) (w_INTERVAL_5 : Addr) (w_INTERVAL_3 : Addr) (h0 : Heap) (n0 : Nat) (Z0 : n0 ≤ h0.size) (G : Glob Z h0 w_IN_ORDER c_w_IN_ORDER w_INTERVAL_1 w_INTERVAL_4 w_INTERVAL_2 w_INTERVAL_5 w_INTERVAL_3)  :
    MetFree l (⟨"com/example/gasreckon/gasreckon/model/SchedulingIntervalOfPinLaw", "expected", "(I)Lcom/example/gasreckon/gasreckon/model/SchedulingInterval;"⟩ : MethodName) (head1 (Jvm.Cond.code (⟨"com/example/gasreckon/gasreckon/model/SchedulingIntervalOfPinLaw", "expected", "(I)Lcom/example/gasreckon/gasreckon/model/SchedulingInterval;"⟩ : MethodName) method_2_code 1 (some (.object "com/example/gasreckon/gasreckon/model/SchedulingInterval")) :: ws) ({ frames := 0, cells := 0, slots := 0, locals := 0 } : Room)) (fun a U => a = #[(.int (1 : Int32))] ∧ Z.Warmed39 U.vm ∧ U.heap = h0) (fun _ _ _ _ _ => True) (fun _ U o U' => ∃ v L, o = .returned v ∧ QR (some (.ref w_INTERVAL_1)) h0 n0 v U'.heap L ∧ FrameEnd U o U' L ({ frames := 0, cells := 0, slots := 0, locals := 0 } : Room).cells ({ frames := 0, cells := 0, slots := 0, locals := 0 } : Room).slots) := by
  refine MetFree.of_bodySF (plainFor_of_name pn_com_example_gasreckon_gasreckon_model_SchedulingIntervalOfPinLaw) hisR ?_
  intro p e s m args below meth c s₁ Bd hml0 hP hK
  obtain ⟨rfl, hZ, hh⟩ := hP
  have hx := Bd.exec
  have hby := Bd.bytes
  have hml : c.maxLocals = 1 := hml0
  have hown : s.vm.findClass "com/example/gasreckon/gasreckon/model/SchedulingIntervalOfPinLaw" = some m.cls := findClass_of_methodNamed Bd.named
  have X0 : Stand p l e ({ frames := 0, cells := 0, slots := 0, locals := 0 } : Room) s m #[(.int (1 : Int32))] below meth c s₁ [] 0 0 := Stand.of_body Bd
  have e0 : s₁.heap = h0 := by rw [← hh, Bd.state]; rfl
  have N0 := Fr.nil n0
  have pre0 : ∀ t, Steps p.tables e below (s₁.setTop (mkF m 0 #[.val (.int (1 : Int32))] [])) t → Steps p.tables e below (s₁.setTop (entryFrame m #[(.int (1 : Int32))] 1)) t := fun t k => castTop (ef_2_I m (1 : Int32)) k
  have G' := G
  obtain ⟨S_w_IN_ORDER, A_w_IN_ORDER, L_w_IN_ORDER, S_w_INTERVAL_1, E_w_INTERVAL_1, M_w_IN_ORDER_0, F_ordinal_w_INTERVAL_1, F_firstHour_w_INTERVAL_1, S_w_INTERVAL_4, E_w_INTERVAL_4, M_w_IN_ORDER_3, F_ordinal_w_INTERVAL_4, F_firstHour_w_INTERVAL_4, S_w_INTERVAL_2, E_w_INTERVAL_2, M_w_IN_ORDER_1, F_ordinal_w_INTERVAL_2, F_firstHour_w_INTERVAL_2, S_w_INTERVAL_5, E_w_INTERVAL_5, M_w_IN_ORDER_4, F_ordinal_w_INTERVAL_5, F_firstHour_w_INTERVAL_5, S_w_INTERVAL_3, E_w_INTERVAL_3, M_w_IN_ORDER_2, F_ordinal_w_INTERVAL_3, F_firstHour_w_INTERVAL_3⟩ := G'
  obtain ⟨T1, X1, e1, st1⟩ := getS2 X0 hx hZ hown (host := "") (Or.inl (hw _ (List.mem_of_getElem? (i := 12) rfl))) Via.refl e0 S_w_INTERVAL_1 (g := (mkF m 5 #[.val (.int (1 : Int32))] [])) rfl (hb hby d2_5)
  obtain ⟨fs, hr, hrun, hended, hW, hsame⟩ := X1.leave (v := some (.ref w_INTERVAL_1)) (fun h => by rw [Bd.returns] at h; cases h)
  refine ⟨_, _, pre0 _ ?_, hrun, hended, _, _, rfl, ?_, ⟨_, rfl⟩, hW, hsame.mono (by decide) (by decide)⟩
  · show Steps p.tables e below (s₁.setTop (mkF m 0 #[.val (.int (1 : Int32))] [])) _
    refine XS.iloadN X0.here hx rfl (hb hby d2_0) rfl ?_
    show Steps p.tables e below (s₁.setTop (mkF m 1 #[.val (.int (1 : Int32))] [(.int (1 : Int32))])) _
    refine XS.iconst X0.here hx rfl (hb hby d2_1) ?_
    show Steps p.tables e below (s₁.setTop (mkF m 2 #[.val (.int (1 : Int32))] [(.int (1 : Int32)), (.int (1 : Int32))])) _
    refine XS.icmpNo X0.here hx rfl (hb hby d2_2) rfl (teq (by decide : (1 : Int32) = (1 : Int32))).2 ?_
    show Steps p.tables e below (s₁.setTop (mkF m 5 #[.val (.int (1 : Int32))] [])) _
    refine st1 _ ?_
    show Steps p.tables e below (T1.setTop (mkF m 8 #[.val (.int (1 : Int32))] [(.ref w_INTERVAL_1)])) _
    exact retOut X1 hx Bd.returns rfl (Or.inr (Or.inr (Or.inr (Or.inr ⟨rfl, rfl, rfl⟩)))) (hb hby d2_8) hr
  · show QR _ h0 n0 _ T1.heap _
    rw [e1]
    exact ⟨rfl, N0, rfl⟩
theorem d3_0 : decode prog_42_method_11_code 0 = .ok (.aload_n 0, 1) := by decide +kernel
theorem d3_1 : decode prog_42_method_11_code 1 = .ok (.invokevirtual 131, 3) := by decide +kernel
theorem d4_0 : decode jdk_37_method_2_code 0 = .ok (.aload_n 0, 1) := by decide +kernel
theorem d4_1 : decode jdk_37_method_2_code 1 = .ok (.getfield 7, 3) := by decide +kernel
theorem d4_4 : decode jdk_37_method_2_code 4 = .ok (.ireturn, 1) := by decide +kernel
theorem ef_4_R (m : MethodId) (x0 : Addr) : entryFrame m #[(.ref x0)] 1 = mkF m 0 #[.val (.ref x0)] [] := by first | (simp [entryFrame, mkF, argsToLocals, Value.category]; done) | rfl
theorem pn_java_lang_Enum : plainName "java/lang/Enum" = true := by first | (simp [plainName, overriddenIn]; done) | decide +kernel
set_option maxRecDepth 65536 in
set_option maxHeartbeats 40000000 in
theorem c4_0 (l : Launch) (Z : State) (a0 : Array Value) (hw : ∀ d ∈ tables_1, d.before a0 Z = true) (ws : List Jvm.Cond) (w_IN_ORDER : Addr) (c_w_IN_ORDER : Cell) (w_INTERVAL_1 : Addr) (w_INTERVAL_4 : Addr) (w_INTERVAL_2 : Addr) (w_INTERVAL_5 : Addr) (w_INTERVAL_3 : Addr) (h0 : Heap) (n0 : Nat) (Z0 : n0 ≤ h0.size) (G : Glob Z h0 w_IN_ORDER c_w_IN_ORDER w_INTERVAL_1 w_INTERVAL_4 w_INTERVAL_2 w_INTERVAL_5 w_INTERVAL_3)  :
    MetFree l (⟨"java/lang/Enum", "ordinal", "()I"⟩ : MethodName) (head1 (Jvm.Cond.code (⟨"java/lang/Enum", "ordinal", "()I"⟩ : MethodName) jdk_37_method_2_code 1 (some .int) :: ws) ({ frames := 0, cells := 0, slots := 0, locals := 0 } : Room)) (fun a U => a = #[(.ref w_INTERVAL_1)] ∧ Z.Warmed39 U.vm ∧ U.heap = h0) (fun _ _ _ _ _ => True) (fun _ U o U' => ∃ v L, o = .returned v ∧ QR (some (.int (0 : Int32))) h0 n0 v U'.heap L ∧ FrameEnd U o U' L ({ frames := 0, cells := 0, slots := 0, locals := 0 } : Room).cells ({ frames := 0, cells := 0, slots := 0, locals := 0 } : Room).slots) := by
  refine MetFree.of_bodySF (plainFor_of_name pn_java_lang_Enum) hisR ?_
  intro p e s m args below meth c s₁ Bd hml0 hP hK
  obtain ⟨rfl, hZ, hh⟩ := hP
  have hx := Bd.exec
  have hby := Bd.bytes
  have hml : c.maxLocals = 1 := hml0
  have hown : s.vm.findClass "java/lang/Enum" = some m.cls := findClass_of_methodNamed Bd.named
  have X0 : Stand p l e ({ frames := 0, cells := 0, slots := 0, locals := 0 } : Room) s m #[(.ref w_INTERVAL_1)] below meth c s₁ [] 0 0 := Stand.of_body Bd
  have e0 : s₁.heap = h0 := by rw [← hh, Bd.state]; rfl
  have N0 := Fr.nil n0
  have pre0 : ∀ t, Steps p.tables e below (s₁.setTop (mkF m 0 #[.val (.ref w_INTERVAL_1)] [])) t → Steps p.tables e below (s₁.setTop (entryFrame m #[(.ref w_INTERVAL_1)] 1)) t := fun t k => castTop (ef_4_R m w_INTERVAL_1) k
  have G' := G
  obtain ⟨S_w_IN_ORDER, A_w_IN_ORDER, L_w_IN_ORDER, S_w_INTERVAL_1, E_w_INTERVAL_1, M_w_IN_ORDER_0, F_ordinal_w_INTERVAL_1, F_firstHour_w_INTERVAL_1, S_w_INTERVAL_4, E_w_INTERVAL_4, M_w_IN_ORDER_3, F_ordinal_w_INTERVAL_4, F_firstHour_w_INTERVAL_4, S_w_INTERVAL_2, E_w_INTERVAL_2, M_w_IN_ORDER_1, F_ordinal_w_INTERVAL_2, F_firstHour_w_INTERVAL_2, S_w_INTERVAL_5, E_w_INTERVAL_5, M_w_IN_ORDER_4, F_ordinal_w_INTERVAL_5, F_firstHour_w_INTERVAL_5, S_w_INTERVAL_3, E_w_INTERVAL_3, M_w_IN_ORDER_2, F_ordinal_w_INTERVAL_3, F_firstHour_w_INTERVAL_3⟩ := G'
  obtain ⟨T1, X1, e1, st1⟩ := getF X0 hx hZ hown (host := "") (Or.inl (hw _ (List.mem_of_getElem? (i := 25) rfl))) Via.refl e0 F_ordinal_w_INTERVAL_1 (g := (mkF m 1 #[.val (.ref w_INTERVAL_1)] [(.ref w_INTERVAL_1)])) rfl rfl (hb hby d4_1)
  obtain ⟨fs, hr, hrun, hended, hW, hsame⟩ := X1.leave (v := some (.int (0 : Int32))) (fun h => by rw [Bd.returns] at h; cases h)
  refine ⟨_, _, pre0 _ ?_, hrun, hended, _, _, rfl, ?_, ⟨_, rfl⟩, hW, hsame.mono (by decide) (by decide)⟩
  · show Steps p.tables e below (s₁.setTop (mkF m 0 #[.val (.ref w_INTERVAL_1)] [])) _
    refine XS.aloadN X0.here hx rfl (hb hby d4_0) rfl rfl ?_
    show Steps p.tables e below (s₁.setTop (mkF m 1 #[.val (.ref w_INTERVAL_1)] [(.ref w_INTERVAL_1)])) _
    refine st1 _ ?_
    show Steps p.tables e below (T1.setTop (mkF m 4 #[.val (.ref w_INTERVAL_1)] [(.int (0 : Int32))])) _
    exact retOut X1 hx Bd.returns rfl (Or.inl ⟨rfl, Or.inl rfl, _, rfl⟩) (hb hby d4_4) hr
  · show QR _ h0 n0 _ T1.heap _
    rw [e1]
    exact ⟨rfl, N0, rfl⟩
theorem pd___I : parseMethodDescriptor "()I" = some ⟨[], some .int⟩ := by decide +kernel
theorem d3_4 : decode prog_42_method_11_code 4 = .ok (.iconst 1, 1) := by decide +kernel
theorem d3_5 : decode prog_42_method_11_code 5 = .ok (.iadd, 1) := by decide +kernel
theorem d3_6 : decode prog_42_method_11_code 6 = .ok (.ireturn, 1) := by decide +kernel
theorem ef_3_R (m : MethodId) (x0 : Addr) : entryFrame m #[(.ref x0)] 1 = mkF m 0 #[.val (.ref x0)] [] := by first | (simp [entryFrame, mkF, argsToLocals, Value.category]; done) | rfl
set_option maxRecDepth 65536 in
set_option maxHeartbeats 40000000 in
theorem c3_0 (l : Launch) (Z : State) (a0 : Array Value) (hw : ∀ d ∈ tables_1, d.before a0 Z = true) (ws : List Jvm.Cond) (w_IN_ORDER : Addr) (c_w_IN_ORDER : Cell) (w_INTERVAL_1 : Addr) (w_INTERVAL_4 : Addr) (w_INTERVAL_2 : Addr) (w_INTERVAL_5 : Addr) (w_INTERVAL_3 : Addr) (h0 : Heap) (n0 : Nat) (Z0 : n0 ≤ h0.size) (G : Glob Z h0 w_IN_ORDER c_w_IN_ORDER w_INTERVAL_1 w_INTERVAL_4 w_INTERVAL_2 w_INTERVAL_5 w_INTERVAL_3)  :
    MetFree l (⟨"com/example/gasreckon/gasreckon/model/SchedulingInterval", "number", "()I"⟩ : MethodName) (head1 (Jvm.Cond.code (⟨"com/example/gasreckon/gasreckon/model/SchedulingInterval", "number", "()I"⟩ : MethodName) prog_42_method_11_code 1 (some .int) :: ws) ({ frames := 1, cells := 0, slots := 0, locals := 12 } : Room)) (fun a U => a = #[(.ref w_INTERVAL_1)] ∧ Z.Warmed39 U.vm ∧ U.heap = h0) (fun _ _ _ _ _ => True) (fun _ U o U' => ∃ v L, o = .returned v ∧ QR (some (.int (1 : Int32))) h0 n0 v U'.heap L ∧ FrameEnd U o U' L ({ frames := 1, cells := 0, slots := 0, locals := 12 } : Room).cells ({ frames := 1, cells := 0, slots := 0, locals := 12 } : Room).slots) := by
  refine MetFree.of_bodySF (plainFor_of_name pn_com_example_gasreckon_gasreckon_model_SchedulingInterval) hisR ?_
  intro p e s m args below meth c s₁ Bd hml0 hP hK
  obtain ⟨rfl, hZ, hh⟩ := hP
  have hx := Bd.exec
  have hby := Bd.bytes
  have hml : c.maxLocals = 1 := hml0
  have hown : s.vm.findClass "com/example/gasreckon/gasreckon/model/SchedulingInterval" = some m.cls := findClass_of_methodNamed Bd.named
  have X0 : Stand p l e ({ frames := 1, cells := 0, slots := 0, locals := 12 } : Room) s m #[(.ref w_INTERVAL_1)] below meth c s₁ [] 0 0 := Stand.of_body Bd
  have e0 : s₁.heap = h0 := by rw [← hh, Bd.state]; rfl
  have N0 := Fr.nil n0
  have pre0 : ∀ t, Steps p.tables e below (s₁.setTop (mkF m 0 #[.val (.ref w_INTERVAL_1)] [])) t → Steps p.tables e below (s₁.setTop (entryFrame m #[(.ref w_INTERVAL_1)] 1)) t := fun t k => castTop (ef_3_R m w_INTERVAL_1) k
  have G' := G
  obtain ⟨S_w_IN_ORDER, A_w_IN_ORDER, L_w_IN_ORDER, S_w_INTERVAL_1, E_w_INTERVAL_1, M_w_IN_ORDER_0, F_ordinal_w_INTERVAL_1, F_firstHour_w_INTERVAL_1, S_w_INTERVAL_4, E_w_INTERVAL_4, M_w_IN_ORDER_3, F_ordinal_w_INTERVAL_4, F_firstHour_w_INTERVAL_4, S_w_INTERVAL_2, E_w_INTERVAL_2, M_w_IN_ORDER_1, F_ordinal_w_INTERVAL_2, F_firstHour_w_INTERVAL_2, S_w_INTERVAL_5, E_w_INTERVAL_5, M_w_IN_ORDER_4, F_ordinal_w_INTERVAL_5, F_firstHour_w_INTERVAL_5, S_w_INTERVAL_3, E_w_INTERVAL_3, M_w_IN_ORDER_2, F_ordinal_w_INTERVAL_3, F_firstHour_w_INTERVAL_3⟩ := G'
  obtain ⟨cq1, kq1, q1a, q1b, q1c⟩ := isOf hZ e0 E_w_INTERVAL_1
  obtain ⟨_, _, ⟨T1, L1, k1, n1⟩, -, X1, ⟨Lc1, hQ1, l1, y1, z1⟩, st1⟩ := X0.virtualBackUp hx (x := (⟨"com/example/gasreckon/gasreckon/model/SchedulingInterval", "ordinal", "()I"⟩ : MethodName)) (y := (⟨"java/lang/Enum", "ordinal", "()I"⟩ : MethodName)) hown (mvT hZ (hw _ (List.mem_of_getElem? (i := 18) rfl))) (mvT hZ (hw _ (List.mem_of_getElem? (i := 19) rfl))) (mvT hZ (hw _ (List.mem_of_getElem? (i := 20) rfl))) (by decide) (mvT hZ (hw _ (List.mem_of_getElem? (i := 22) rfl))) (mvT hZ (hw _ (List.mem_of_getElem? (i := 21) rfl))) (backOf (W := 0) (c4_0 l Z a0 hw [] w_IN_ORDER c_w_IN_ORDER w_INTERVAL_1 w_INTERVAL_4 w_INTERVAL_2 w_INTERVAL_5 w_INTERVAL_3 h0 n0 Z0 G) hZ (hw _ (List.mem_of_getElem? (i := 24) rfl)) (hw _ (List.mem_of_getElem? (i := 23) rfl)) (by decide) (by decide)) q1a q1c (g := (mkF m 1 #[.val (.ref w_INTERVAL_1)] [(.ref w_INTERVAL_1)])) rfl (by rw [hml]; rfl) (Steps.refl _) (argsL := []) (rest := []) (lenOf pd___I rfl) rfl (by show 2 * 0 + _ ≤ _; exact Nat.le_of_eq rfl) (hb hby d3_1) (fun _ _ => ⟨rfl, e0, (by decide : 0 + 0 ≤ _), (by decide : 0 + 0 ≤ _)⟩)
  dsimp only [Pt.U, Pt.locs, Pt.cells, Pt.slots] at X1 l1 y1 z1 st1 hQ1
  subst l1 y1 z1
  obtain ⟨rfl, N1q, e1⟩ := hQ1
  have N1 := Fr.app N0 N1q
  obtain ⟨fs, hr, hrun, hended, hW, hsame⟩ := X1.leave (v := some (.int (1 : Int32))) (fun h => by rw [Bd.returns] at h; cases h)
  refine ⟨_, _, pre0 _ ?_, hrun, hended, _, _, rfl, ?_, ⟨_, rfl⟩, hW, hsame.mono (by decide) (by decide)⟩
  · show Steps p.tables e below (s₁.setTop (mkF m 0 #[.val (.ref w_INTERVAL_1)] [])) _
    refine XS.aloadN X0.here hx rfl (hb hby d3_0) rfl rfl ?_
    show Steps p.tables e below (s₁.setTop (mkF m 1 #[.val (.ref w_INTERVAL_1)] [(.ref w_INTERVAL_1)])) _
    refine st1.trans ?_
    show Steps p.tables e below (T1.setTop (mkF m 4 #[.val (.ref w_INTERVAL_1)] [(.int (0 : Int32))])) _
    refine XS.iconst X1.here hx rfl (hb hby d3_4) ?_
    show Steps p.tables e below (T1.setTop (mkF m 5 #[.val (.ref w_INTERVAL_1)] [(.int (1 : Int32)), (.int (0 : Int32))])) _
    refine XS.iadd X1.here hx rfl (hb hby d3_5) rfl ?_
    show Steps p.tables e below (T1.setTop (mkF m 6 #[.val (.ref w_INTERVAL_1)] [(.int ((0 : Int32) + (1 : Int32)))])) _
    rw [(show ((0 : Int32) + (1 : Int32)) = (1 : Int32) from by decide)]
    show Steps p.tables e below (T1.setTop (mkF m 6 #[.val (.ref w_INTERVAL_1)] [(.int (1 : Int32))])) _
    exact retOut X1 hx Bd.returns rfl (Or.inl ⟨rfl, Or.inl rfl, _, rfl⟩) (hb hby d3_6) hr
  · show QR _ h0 n0 _ T1.heap _
    rw [e1]
    exact ⟨rfl, N1, rfl⟩
theorem d5_0 : decode prog_42_method_14_code 0 = .ok (.aload_n 0, 1) := by decide +kernel
theorem d5_1 : decode prog_42_method_14_code 1 = .ok (.getfield 38, 3) := by decide +kernel
theorem d5_4 : decode prog_42_method_14_code 4 = .ok (.ireturn, 1) := by decide +kernel
theorem ef_5_R (m : MethodId) (x0 : Addr) : entryFrame m #[(.ref x0)] 1 = mkF m 0 #[.val (.ref x0)] [] := by first | (simp [entryFrame, mkF, argsToLocals, Value.category]; done) | rfl
set_option maxRecDepth 65536 in
set_option maxHeartbeats 40000000 in
theorem c5_0 (l : Launch) (Z : State) (a0 : Array Value) (hw : ∀ d ∈ tables_1, d.before a0 Z = true) (ws : List Jvm.Cond) (w_IN_ORDER : Addr) (c_w_IN_ORDER : Cell) (w_INTERVAL_1 : Addr) (w_INTERVAL_4 : Addr) (w_INTERVAL_2 : Addr) (w_INTERVAL_5 : Addr) (w_INTERVAL_3 : Addr) (h0 : Heap) (n0 : Nat) (Z0 : n0 ≤ h0.size) (G : Glob Z h0 w_IN_ORDER c_w_IN_ORDER w_INTERVAL_1 w_INTERVAL_4 w_INTERVAL_2 w_INTERVAL_5 w_INTERVAL_3)  :
    MetFree l (⟨"com/example/gasreckon/gasreckon/model/SchedulingInterval", "firstHour", "()I"⟩ : MethodName) (head1 (Jvm.Cond.code (⟨"com/example/gasreckon/gasreckon/model/SchedulingInterval", "firstHour", "()I"⟩ : MethodName) prog_42_method_14_code 1 (some .int) :: ws) ({ frames := 0, cells := 0, slots := 0, locals := 0 } : Room)) (fun a U => a = #[(.ref w_INTERVAL_1)] ∧ Z.Warmed39 U.vm ∧ U.heap = h0) (fun _ _ _ _ _ => True) (fun _ U o U' => ∃ v L, o = .returned v ∧ QR (some (.int (1 : Int32))) h0 n0 v U'.heap L ∧ FrameEnd U o U' L ({ frames := 0, cells := 0, slots := 0, locals := 0 } : Room).cells ({ frames := 0, cells := 0, slots := 0, locals := 0 } : Room).slots) := by
  refine MetFree.of_bodySF (plainFor_of_name pn_com_example_gasreckon_gasreckon_model_SchedulingInterval) hisR ?_
  intro p e s m args below meth c s₁ Bd hml0 hP hK
  obtain ⟨rfl, hZ, hh⟩ := hP
  have hx := Bd.exec
  have hby := Bd.bytes
  have hml : c.maxLocals = 1 := hml0
  have hown : s.vm.findClass "com/example/gasreckon/gasreckon/model/SchedulingInterval" = some m.cls := findClass_of_methodNamed Bd.named
  have X0 : Stand p l e ({ frames := 0, cells := 0, slots := 0, locals := 0 } : Room) s m #[(.ref w_INTERVAL_1)] below meth c s₁ [] 0 0 := Stand.of_body Bd
  have e0 : s₁.heap = h0 := by rw [← hh, Bd.state]; rfl
  have N0 := Fr.nil n0
  have pre0 : ∀ t, Steps p.tables e below (s₁.setTop (mkF m 0 #[.val (.ref w_INTERVAL_1)] [])) t → Steps p.tables e below (s₁.setTop (entryFrame m #[(.ref w_INTERVAL_1)] 1)) t := fun t k => castTop (ef_5_R m w_INTERVAL_1) k
  have G' := G
  obtain ⟨S_w_IN_ORDER, A_w_IN_ORDER, L_w_IN_ORDER, S_w_INTERVAL_1, E_w_INTERVAL_1, M_w_IN_ORDER_0, F_ordinal_w_INTERVAL_1, F_firstHour_w_INTERVAL_1, S_w_INTERVAL_4, E_w_INTERVAL_4, M_w_IN_ORDER_3, F_ordinal_w_INTERVAL_4, F_firstHour_w_INTERVAL_4, S_w_INTERVAL_2, E_w_INTERVAL_2, M_w_IN_ORDER_1, F_ordinal_w_INTERVAL_2, F_firstHour_w_INTERVAL_2, S_w_INTERVAL_5, E_w_INTERVAL_5, M_w_IN_ORDER_4, F_ordinal_w_INTERVAL_5, F_firstHour_w_INTERVAL_5, S_w_INTERVAL_3, E_w_INTERVAL_3, M_w_IN_ORDER_2, F_ordinal_w_INTERVAL_3, F_firstHour_w_INTERVAL_3⟩ := G'
  obtain ⟨T1, X1, e1, st1⟩ := getF X0 hx hZ hown (host := "") (Or.inl (hw _ (List.mem_of_getElem? (i := 32) rfl))) Via.refl e0 F_firstHour_w_INTERVAL_1 (g := (mkF m 1 #[.val (.ref w_INTERVAL_1)] [(.ref w_INTERVAL_1)])) rfl rfl (hb hby d5_1)
  obtain ⟨fs, hr, hrun, hended, hW, hsame⟩ := X1.leave (v := some (.int (1 : Int32))) (fun h => by rw [Bd.returns] at h; cases h)
  refine ⟨_, _, pre0 _ ?_, hrun, hended, _, _, rfl, ?_, ⟨_, rfl⟩, hW, hsame.mono (by decide) (by decide)⟩
  · show Steps p.tables e below (s₁.setTop (mkF m 0 #[.val (.ref w_INTERVAL_1)] [])) _
    refine XS.aloadN X0.here hx rfl (hb hby d5_0) rfl rfl ?_
    show Steps p.tables e below (s₁.setTop (mkF m 1 #[.val (.ref w_INTERVAL_1)] [(.ref w_INTERVAL_1)])) _
    refine st1 _ ?_
    show Steps p.tables e below (T1.setTop (mkF m 4 #[.val (.ref w_INTERVAL_1)] [(.int (1 : Int32))])) _
    exact retOut X1 hx Bd.returns rfl (Or.inl ⟨rfl, Or.inl rfl, _, rfl⟩) (hb hby d5_4) hr
  · show QR _ h0 n0 _ T1.heap _
    rw [e1]
    exact ⟨rfl, N0, rfl⟩
theorem ef_0_I (m : MethodId) (x0 : Int32) : entryFrame m #[(.int x0)] maxLocals = mkF m 0 #[.val (.int x0), .unset, .unset] [] := by first | (simp [entryFrame, mkF, argsToLocals, Value.category, maxLocals]; done) | rfl
set_option maxRecDepth 65536 in
set_option maxHeartbeats 40000000 in
theorem law_0 (l : Launch) (Z : State) (a0 : Array Value) (hw : ∀ d ∈ tables_1, d.before a0 Z = true) (ws : List Jvm.Cond) (w_IN_ORDER : Addr) (c_w_IN_ORDER : Cell) (w_INTERVAL_1 : Addr) (w_INTERVAL_4 : Addr) (w_INTERVAL_2 : Addr) (w_INTERVAL_5 : Addr) (w_INTERVAL_3 : Addr) (h0 : Heap) (n0 : Nat) (Z0 : n0 ≤ h0.size) (G : Glob Z h0 w_IN_ORDER c_w_IN_ORDER w_INTERVAL_1 w_INTERVAL_4 w_INTERVAL_2 w_INTERVAL_5 w_INTERVAL_3) (p0 : Int32) (hi0 : ((p0 &&& (2147483647 : Int32)) % (5 : Int32)) = (0 : Int32)) :
    MetFree l x (head1 (Jvm.Cond.code x code maxLocals ret :: ws) room_1) (fun a U => a = #[(.int p0)] ∧ Z.Warmed39 U.vm ∧ U.heap = h0) (fun _ _ _ _ _ => True) (fun _ U o U' => ∃ v L, o = .returned v ∧ QL (some (.int (1 : Int32))) h0 n0 v U'.heap L ∧ FrameEnd U o U' L room_1.cells room_1.slots) := by
  refine MetFree.of_bodySF (plainFor_of_name pn_com_example_gasreckon_gasreckon_model_SchedulingIntervalOfPinLaw) hisR ?_
  intro p e s m args below meth c s₁ Bd hml0 hP hK
  obtain ⟨rfl, hZ, hh⟩ := hP
  have hx := Bd.exec
  have hby := Bd.bytes
  have hml : c.maxLocals = 3 := hml0
  have hown : s.vm.findClass "com/example/gasreckon/gasreckon/model/SchedulingIntervalOfPinLaw" = some m.cls := findClass_of_methodNamed Bd.named
  have X0 : Stand p l e room_1 s m #[(.int p0)] below meth c s₁ [] 0 0 := Stand.of_body Bd
  have e0 : s₁.heap = h0 := by rw [← hh, Bd.state]; rfl
  have N0 := Fr.nil n0
  have pre0 : ∀ t, Steps p.tables e below (s₁.setTop (mkF m 0 #[.val (.int p0), .unset, .unset] [])) t → Steps p.tables e below (s₁.setTop (entryFrame m #[(.int p0)] maxLocals)) t := fun t k => castTop (ef_0_I m p0) k
  have G' := G
  obtain ⟨S_w_IN_ORDER, A_w_IN_ORDER, L_w_IN_ORDER, S_w_INTERVAL_1, E_w_INTERVAL_1, M_w_IN_ORDER_0, F_ordinal_w_INTERVAL_1, F_firstHour_w_INTERVAL_1, S_w_INTERVAL_4, E_w_INTERVAL_4, M_w_IN_ORDER_3, F_ordinal_w_INTERVAL_4, F_firstHour_w_INTERVAL_4, S_w_INTERVAL_2, E_w_INTERVAL_2, M_w_IN_ORDER_1, F_ordinal_w_INTERVAL_2, F_firstHour_w_INTERVAL_2, S_w_INTERVAL_5, E_w_INTERVAL_5, M_w_IN_ORDER_4, F_ordinal_w_INTERVAL_5, F_firstHour_w_INTERVAL_5, S_w_INTERVAL_3, E_w_INTERVAL_3, M_w_IN_ORDER_2, F_ordinal_w_INTERVAL_3, F_firstHour_w_INTERVAL_3⟩ := G'
  obtain ⟨_, _, ⟨T1, L1, k1, n1⟩, -, X1, ⟨Lc1, hQ1, l1, y1, z1⟩, st1⟩ := Jvm.LawKit.callS X0 hx (y := (⟨"com/example/gasreckon/gasreckon/model/SchedulingInterval", "of", "(I)Lcom/example/gasreckon/gasreckon/model/SchedulingInterval;"⟩ : MethodName)) hown (mvT hZ (hw _ (List.mem_of_getElem? (i := 1) rfl))) (mvT hZ (hw _ (List.mem_of_getElem? (i := 2) rfl))) (mvT hZ (hw _ (List.mem_of_getElem? (i := 3) rfl))) (mvT hZ (hw _ (List.mem_of_getElem? (i := 4) rfl))) (by decide) (backOf (W := 0) (c1_0 l Z a0 hw [] w_IN_ORDER c_w_IN_ORDER w_INTERVAL_1 w_INTERVAL_4 w_INTERVAL_2 w_INTERVAL_5 w_INTERVAL_3 h0 n0 Z0 G) hZ (hw _ (List.mem_of_getElem? (i := 4) rfl)) (hw _ (List.mem_of_getElem? (i := 3) rfl)) (by decide) (by decide)) (g := (mkF m 10 #[.val (.int p0), .val (.int (1 : Int32)), .unset] [(.int (1 : Int32))])) rfl (by rw [hml]; rfl) (argsL := [(.int (1 : Int32))]) (rest := []) (lenOf pd__I_Lcom_example_gasreckon_gasreckon_model_SchedulingInterval_ rfl) rfl (by show 2 * 0 + _ ≤ _; exact Nat.le_of_eq rfl) (hb hby at_10) (fun _ _ => ⟨rfl, e0, (by decide : 0 + 0 ≤ _), (by decide : 0 + 0 ≤ _)⟩)
  dsimp only [Pt.U, Pt.locs, Pt.cells, Pt.slots] at X1 l1 y1 z1 st1 hQ1
  subst l1 y1 z1
  obtain ⟨rfl, N1q, e1⟩ := hQ1
  have N1 := Fr.app N0 N1q
  obtain ⟨_, _, ⟨T2, L2, k2, n2⟩, -, X2, ⟨Lc2, hQ2, l2, y2, z2⟩, st2⟩ := Jvm.LawKit.callS X1 hx (y := (⟨"com/example/gasreckon/gasreckon/model/SchedulingIntervalOfPinLaw", "expected", "(I)Lcom/example/gasreckon/gasreckon/model/SchedulingInterval;"⟩ : MethodName)) hown (mvT hZ (hw _ (List.mem_of_getElem? (i := 8) rfl))) (mvT hZ (hw _ (List.mem_of_getElem? (i := 9) rfl))) (mvT hZ (hw _ (List.mem_of_getElem? (i := 10) rfl))) (mvT hZ (hw _ (List.mem_of_getElem? (i := 11) rfl))) (by decide) (backOf (W := 1) (c2_0 l Z a0 hw [] w_IN_ORDER c_w_IN_ORDER w_INTERVAL_1 w_INTERVAL_4 w_INTERVAL_2 w_INTERVAL_5 w_INTERVAL_3 h0 n0 Z0 G) hZ (hw _ (List.mem_of_getElem? (i := 11) rfl)) (hw _ (List.mem_of_getElem? (i := 10) rfl)) (by decide) (by decide)) (g := (mkF m 16 #[.val (.int p0), .val (.int (1 : Int32)), .val (.ref w_INTERVAL_1)] [(.int (1 : Int32)), (.ref w_INTERVAL_1)])) rfl (by rw [hml]; rfl) (argsL := [(.int (1 : Int32))]) (rest := [(.ref w_INTERVAL_1)]) (lenOf pd__I_Lcom_example_gasreckon_gasreckon_model_SchedulingInterval_ rfl) rfl (by show 2 * 0 + _ ≤ _; exact Nat.le_of_eq rfl) (hb hby at_16) (fun _ _ => ⟨rfl, e1, (by decide : 0 + 0 ≤ _), (by decide : 0 + 0 ≤ _)⟩)
  dsimp only [Pt.U, Pt.locs, Pt.cells, Pt.slots] at X2 l2 y2 z2 st2 hQ2
  subst l2 y2 z2
  obtain ⟨rfl, N2q, e2⟩ := hQ2
  have N2 := Fr.app N1 N2q
  obtain ⟨cq3, kq3, q3a, q3b, q3c⟩ := isOf hZ e2 E_w_INTERVAL_1
  obtain ⟨_, _, ⟨T3, L3, k3, n3⟩, -, X3, ⟨Lc3, hQ3, l3, y3, z3⟩, st3⟩ := X2.virtualBack hx (y := (⟨"com/example/gasreckon/gasreckon/model/SchedulingInterval", "number", "()I"⟩ : MethodName)) (z := (⟨"com/example/gasreckon/gasreckon/model/SchedulingInterval", "number", "()I"⟩ : MethodName)) hown (mvT hZ (hw _ (List.mem_of_getElem? (i := 13) rfl))) (mvT hZ (hw _ (List.mem_of_getElem? (i := 14) rfl))) (notFace_of_selects (args := #[]) (mvT hZ (hw _ (List.mem_of_getElem? (i := 16) rfl)))) (mvT hZ (hw _ (List.mem_of_getElem? (i := 16) rfl))) (mvT hZ (hw _ (List.mem_of_getElem? (i := 15) rfl))) (by decide) (backOf (W := 0) (c3_0 l Z a0 hw [] w_IN_ORDER c_w_IN_ORDER w_INTERVAL_1 w_INTERVAL_4 w_INTERVAL_2 w_INTERVAL_5 w_INTERVAL_3 h0 n0 Z0 G) hZ (hw _ (List.mem_of_getElem? (i := 17) rfl)) (hw _ (List.mem_of_getElem? (i := 3) rfl)) (by decide) (by decide)) q3a q3c (g := (mkF m 23 #[.val (.int p0), .val (.int (1 : Int32)), .val (.ref w_INTERVAL_1)] [(.ref w_INTERVAL_1)])) rfl (by rw [hml]; rfl) (Steps.refl _) (argsL := []) (rest := []) (lenOf pd___I rfl) rfl (by show 2 * 0 + _ ≤ _; exact Nat.le_of_eq rfl) (hb hby at_23) (fun _ _ => ⟨rfl, e2, (by decide : 0 + 0 ≤ _), (by decide : 0 + 0 ≤ _)⟩)
  dsimp only [Pt.U, Pt.locs, Pt.cells, Pt.slots] at X3 l3 y3 z3 st3 hQ3
  subst l3 y3 z3
  obtain ⟨rfl, N3q, e3⟩ := hQ3
  have N3 := Fr.app N2 N3q
  obtain ⟨cq4, kq4, q4a, q4b, q4c⟩ := isOf hZ e3 E_w_INTERVAL_1
  obtain ⟨_, _, ⟨T4, L4, k4, n4⟩, -, X4, ⟨Lc4, hQ4, l4, y4, z4⟩, st4⟩ := X3.virtualBack hx (y := (⟨"com/example/gasreckon/gasreckon/model/SchedulingInterval", "firstHour", "()I"⟩ : MethodName)) (z := (⟨"com/example/gasreckon/gasreckon/model/SchedulingInterval", "firstHour", "()I"⟩ : MethodName)) hown (mvT hZ (hw _ (List.mem_of_getElem? (i := 27) rfl))) (mvT hZ (hw _ (List.mem_of_getElem? (i := 28) rfl))) (notFace_of_selects (args := #[]) (mvT hZ (hw _ (List.mem_of_getElem? (i := 30) rfl)))) (mvT hZ (hw _ (List.mem_of_getElem? (i := 30) rfl))) (mvT hZ (hw _ (List.mem_of_getElem? (i := 29) rfl))) (by decide) (backOf (W := 0) (c5_0 l Z a0 hw [] w_IN_ORDER c_w_IN_ORDER w_INTERVAL_1 w_INTERVAL_4 w_INTERVAL_2 w_INTERVAL_5 w_INTERVAL_3 h0 n0 Z0 G) hZ (hw _ (List.mem_of_getElem? (i := 31) rfl)) (hw _ (List.mem_of_getElem? (i := 3) rfl)) (by decide) (by decide)) q4a q4c (g := (mkF m 31 #[.val (.int p0), .val (.int (1 : Int32)), .val (.ref w_INTERVAL_1)] [(.ref w_INTERVAL_1)])) rfl (by rw [hml]; rfl) (Steps.refl _) (argsL := []) (rest := []) (lenOf pd___I rfl) rfl (by show 2 * 0 + _ ≤ _; exact Nat.le_of_eq rfl) (hb hby at_31) (fun _ _ => ⟨rfl, e3, (by decide : 0 + 0 ≤ _), (by decide : 0 + 0 ≤ _)⟩)
  dsimp only [Pt.U, Pt.locs, Pt.cells, Pt.slots] at X4 l4 y4 z4 st4 hQ4
  subst l4 y4 z4
  obtain ⟨rfl, N4q, e4⟩ := hQ4
  have N4 := Fr.app N3 N4q
  obtain ⟨fs, hr, hrun, hended, hW, hsame⟩ := X4.leave (v := some (.int (1 : Int32))) (fun h => by rw [Bd.returns] at h; cases h)
  refine ⟨_, _, pre0 _ ?_, hrun, hended, _, _, rfl, ?_, ⟨_, rfl⟩, hW, hsame.mono (by decide) (by decide)⟩
  · show Steps p.tables e below (s₁.setTop (mkF m 0 #[.val (.int p0), .unset, .unset] [])) _
    refine XS.iloadN X0.here hx rfl (hb hby at_0) rfl ?_
    show Steps p.tables e below (s₁.setTop (mkF m 1 #[.val (.int p0), .unset, .unset] [(.int p0)])) _
    refine X0.ldcInt hx hown (mvT hZ (hw _ (List.mem_of_getElem? (i := 0) rfl))) (g := (mkF m 1 #[.val (.int p0), .unset, .unset] [(.int p0)])) rfl (hb hby at_1) _ ?_
    show Steps p.tables e below (s₁.setTop (mkF m 3 #[.val (.int p0), .unset, .unset] [(.int (2147483647 : Int32)), (.int p0)])) _
    refine XS.iand X0.here hx rfl (hb hby at_3) rfl ?_
    show Steps p.tables e below (s₁.setTop (mkF m 4 #[.val (.int p0), .unset, .unset] [(.int (p0 &&& (2147483647 : Int32)))])) _
    refine XS.iconst X0.here hx rfl (hb hby at_4) ?_
    show Steps p.tables e below (s₁.setTop (mkF m 5 #[.val (.int p0), .unset, .unset] [(.int (5 : Int32)), (.int (p0 &&& (2147483647 : Int32)))])) _
    refine iremM X0 hx rfl (hb hby at_5) rfl (by decide) ?_
    show Steps p.tables e below (s₁.setTop (mkF m 6 #[.val (.int p0), .unset, .unset] [(.int ((p0 &&& (2147483647 : Int32)) % (5 : Int32)))])) _
    rw [hi0]
    show Steps p.tables e below (s₁.setTop (mkF m 6 #[.val (.int p0), .unset, .unset] [(.int (0 : Int32))])) _
    refine XS.iconst X0.here hx rfl (hb hby at_6) ?_
    show Steps p.tables e below (s₁.setTop (mkF m 7 #[.val (.int p0), .unset, .unset] [(.int (1 : Int32)), (.int (0 : Int32))])) _
    refine XS.iadd X0.here hx rfl (hb hby at_7) rfl ?_
    show Steps p.tables e below (s₁.setTop (mkF m 8 #[.val (.int p0), .unset, .unset] [(.int ((0 : Int32) + (1 : Int32)))])) _
    rw [(show ((0 : Int32) + (1 : Int32)) = (1 : Int32) from by decide)]
    show Steps p.tables e below (s₁.setTop (mkF m 8 #[.val (.int p0), .unset, .unset] [(.int (1 : Int32))])) _
    refine XS.istoreN X0.here hx rfl (hb hby at_8) rfl (l' := #[.val (.int p0), .val (.int (1 : Int32)), .unset]) rfl ?_
    show Steps p.tables e below (s₁.setTop (mkF m 9 #[.val (.int p0), .val (.int (1 : Int32)), .unset] [])) _
    refine XS.iloadN X0.here hx rfl (hb hby at_9) rfl ?_
    show Steps p.tables e below (s₁.setTop (mkF m 10 #[.val (.int p0), .val (.int (1 : Int32)), .unset] [(.int (1 : Int32))])) _
    refine st1 _ ?_
    show Steps p.tables e below (T1.setTop (mkF m 13 #[.val (.int p0), .val (.int (1 : Int32)), .unset] [(.ref w_INTERVAL_1)])) _
    refine XS.astoreN X1.here hx rfl (hb hby at_13) rfl rfl (l' := #[.val (.int p0), .val (.int (1 : Int32)), .val (.ref w_INTERVAL_1)]) rfl ?_
    show Steps p.tables e below (T1.setTop (mkF m 14 #[.val (.int p0), .val (.int (1 : Int32)), .val (.ref w_INTERVAL_1)] [])) _
    refine XS.aloadN X1.here hx rfl (hb hby at_14) rfl rfl ?_
    show Steps p.tables e below (T1.setTop (mkF m 15 #[.val (.int p0), .val (.int (1 : Int32)), .val (.ref w_INTERVAL_1)] [(.ref w_INTERVAL_1)])) _
    refine XS.iloadN X1.here hx rfl (hb hby at_15) rfl ?_
    show Steps p.tables e below (T1.setTop (mkF m 16 #[.val (.int p0), .val (.int (1 : Int32)), .val (.ref w_INTERVAL_1)] [(.int (1 : Int32)), (.ref w_INTERVAL_1)])) _
    refine st2 _ ?_
    show Steps p.tables e below (T2.setTop (mkF m 19 #[.val (.int p0), .val (.int (1 : Int32)), .val (.ref w_INTERVAL_1)] [(.ref w_INTERVAL_1), (.ref w_INTERVAL_1)])) _
    refine Jvm.RoadKit.acmp (g := (mkF m 19 #[.val (.int p0), .val (.int (1 : Int32)), .val (.ref w_INTERVAL_1)] [(.ref w_INTERVAL_1), (.ref w_INTERVAL_1)])) X2 hx rfl rfl rfl (pc0 := 19) (pc' := 22) (same := true) rfl (hb hby at_19) rfl (decide_eq_true rfl) (by decide) (by decide) ?_
    show Steps p.tables e below (T2.setTop (mkF m 22 #[.val (.int p0), .val (.int (1 : Int32)), .val (.ref w_INTERVAL_1)] [])) _
    refine XS.aloadN X2.here hx rfl (hb hby at_22) rfl rfl ?_
    show Steps p.tables e below (T2.setTop (mkF m 23 #[.val (.int p0), .val (.int (1 : Int32)), .val (.ref w_INTERVAL_1)] [(.ref w_INTERVAL_1)])) _
    refine st3.trans ?_
    show Steps p.tables e below (T3.setTop (mkF m 26 #[.val (.int p0), .val (.int (1 : Int32)), .val (.ref w_INTERVAL_1)] [(.int (1 : Int32))])) _
    refine XS.iloadN X3.here hx rfl (hb hby at_26) rfl ?_
    show Steps p.tables e below (T3.setTop (mkF m 27 #[.val (.int p0), .val (.int (1 : Int32)), .val (.ref w_INTERVAL_1)] [(.int (1 : Int32)), (.int (1 : Int32))])) _
    refine XS.icmpNo X3.here hx rfl (hb hby at_27) rfl (teq (by decide : (1 : Int32) = (1 : Int32))).2 ?_
    show Steps p.tables e below (T3.setTop (mkF m 30 #[.val (.int p0), .val (.int (1 : Int32)), .val (.ref w_INTERVAL_1)] [])) _
    refine XS.aloadN X3.here hx rfl (hb hby at_30) rfl rfl ?_
    show Steps p.tables e below (T3.setTop (mkF m 31 #[.val (.int p0), .val (.int (1 : Int32)), .val (.ref w_INTERVAL_1)] [(.ref w_INTERVAL_1)])) _
    refine st4.trans ?_
    show Steps p.tables e below (T4.setTop (mkF m 34 #[.val (.int p0), .val (.int (1 : Int32)), .val (.ref w_INTERVAL_1)] [(.int (1 : Int32))])) _
    refine XS.iconst X4.here hx rfl (hb hby at_34) ?_
    show Steps p.tables e below (T4.setTop (mkF m 35 #[.val (.int p0), .val (.int (1 : Int32)), .val (.ref w_INTERVAL_1)] [(.int (4 : Int32)), (.int (1 : Int32))])) _
    refine XS.iloadN X4.here hx rfl (hb hby at_35) rfl ?_
    show Steps p.tables e below (T4.setTop (mkF m 36 #[.val (.int p0), .val (.int (1 : Int32)), .val (.ref w_INTERVAL_1)] [(.int (1 : Int32)), (.int (4 : Int32)), (.int (1 : Int32))])) _
    refine XS.imul X4.here hx rfl (hb hby at_36) rfl ?_
    show Steps p.tables e below (T4.setTop (mkF m 37 #[.val (.int p0), .val (.int (1 : Int32)), .val (.ref w_INTERVAL_1)] [(.int ((4 : Int32) * (1 : Int32))), (.int (1 : Int32))])) _
    rw [(show ((4 : Int32) * (1 : Int32)) = (4 : Int32) from by decide)]
    show Steps p.tables e below (T4.setTop (mkF m 37 #[.val (.int p0), .val (.int (1 : Int32)), .val (.ref w_INTERVAL_1)] [(.int (4 : Int32)), (.int (1 : Int32))])) _
    refine XS.iconst X4.here hx rfl (hb hby at_37) ?_
    show Steps p.tables e below (T4.setTop (mkF m 38 #[.val (.int p0), .val (.int (1 : Int32)), .val (.ref w_INTERVAL_1)] [(.int (3 : Int32)), (.int (4 : Int32)), (.int (1 : Int32))])) _
    refine XS.isub X4.here hx rfl (hb hby at_38) rfl ?_
    show Steps p.tables e below (T4.setTop (mkF m 39 #[.val (.int p0), .val (.int (1 : Int32)), .val (.ref w_INTERVAL_1)] [(.int ((4 : Int32) - (3 : Int32))), (.int (1 : Int32))])) _
    rw [(show ((4 : Int32) - (3 : Int32)) = (1 : Int32) from by decide)]
    show Steps p.tables e below (T4.setTop (mkF m 39 #[.val (.int p0), .val (.int (1 : Int32)), .val (.ref w_INTERVAL_1)] [(.int (1 : Int32)), (.int (1 : Int32))])) _
    refine XS.icmpNo X4.here hx rfl (hb hby at_39) rfl (teq (by decide : (1 : Int32) = (1 : Int32))).2 ?_
    show Steps p.tables e below (T4.setTop (mkF m 42 #[.val (.int p0), .val (.int (1 : Int32)), .val (.ref w_INTERVAL_1)] [])) _
    refine XS.iconst X4.here hx rfl (hb hby at_42) ?_
    show Steps p.tables e below (T4.setTop (mkF m 43 #[.val (.int p0), .val (.int (1 : Int32)), .val (.ref w_INTERVAL_1)] [(.int (1 : Int32))])) _
    refine XS.goto X4.here hx rfl (pc0 := 43) (pc' := 47) rfl (hb hby at_43) (by decide) (by decide) ?_
    show Steps p.tables e below (T4.setTop (mkF m 47 #[.val (.int p0), .val (.int (1 : Int32)), .val (.ref w_INTERVAL_1)] [(.int (1 : Int32))])) _
    exact retOut X4 hx Bd.returns rfl (Or.inl ⟨rfl, Or.inr (Or.inl rfl), _, rfl⟩) (hb hby at_47) hr
  · exact ⟨rfl, N4⟩
set_option maxRecDepth 65536 in
set_option maxHeartbeats 40000000 in
theorem c1_1 (l : Launch) (Z : State) (a0 : Array Value) (hw : ∀ d ∈ tables_1, d.before a0 Z = true) (ws : List Jvm.Cond) (w_IN_ORDER : Addr) (c_w_IN_ORDER : Cell) (w_INTERVAL_1 : Addr) (w_INTERVAL_4 : Addr) (w_INTERVAL_2 : Addr) (w_INTERVAL_5 : Addr) (w_INTERVAL_3 : Addr) (h0 : Heap) (n0 : Nat) (Z0 : n0 ≤ h0.size) (G : Glob Z h0 w_IN_ORDER c_w_IN_ORDER w_INTERVAL_1 w_INTERVAL_4 w_INTERVAL_2 w_INTERVAL_5 w_INTERVAL_3)  :
    MetFree l (⟨"com/example/gasreckon/gasreckon/model/SchedulingInterval", "of", "(I)Lcom/example/gasreckon/gasreckon/model/SchedulingInterval;"⟩ : MethodName) (head1 (Jvm.Cond.code (⟨"com/example/gasreckon/gasreckon/model/SchedulingInterval", "of", "(I)Lcom/example/gasreckon/gasreckon/model/SchedulingInterval;"⟩ : MethodName) prog_42_method_4_code 1 (some (.object "com/example/gasreckon/gasreckon/model/SchedulingInterval")) :: ws) ({ frames := 0, cells := 0, slots := 0, locals := 0 } : Room)) (fun a U => a = #[(.int (2 : Int32))] ∧ Z.Warmed39 U.vm ∧ U.heap = h0) (fun _ _ _ _ _ => True) (fun _ U o U' => ∃ v L, o = .returned v ∧ QR (some (.ref w_INTERVAL_2)) h0 n0 v U'.heap L ∧ FrameEnd U o U' L ({ frames := 0, cells := 0, slots := 0, locals := 0 } : Room).cells ({ frames := 0, cells := 0, slots := 0, locals := 0 } : Room).slots) := by
  refine MetFree.of_bodySF (plainFor_of_name pn_com_example_gasreckon_gasreckon_model_SchedulingInterval) hisR ?_
  intro p e s m args below meth c s₁ Bd hml0 hP hK
  obtain ⟨rfl, hZ, hh⟩ := hP
  have hx := Bd.exec
  have hby := Bd.bytes
  have hml : c.maxLocals = 1 := hml0
  have hown : s.vm.findClass "com/example/gasreckon/gasreckon/model/SchedulingInterval" = some m.cls := findClass_of_methodNamed Bd.named
  have X0 : Stand p l e ({ frames := 0, cells := 0, slots := 0, locals := 0 } : Room) s m #[(.int (2 : Int32))] below meth c s₁ [] 0 0 := Stand.of_body Bd
  have e0 : s₁.heap = h0 := by rw [← hh, Bd.state]; rfl
  have N0 := Fr.nil n0
  have pre0 : ∀ t, Steps p.tables e below (s₁.setTop (mkF m 0 #[.val (.int (2 : Int32))] [])) t → Steps p.tables e below (s₁.setTop (entryFrame m #[(.int (2 : Int32))] 1)) t := fun t k => castTop (ef_1_I m (2 : Int32)) k
  have G' := G
  obtain ⟨S_w_IN_ORDER, A_w_IN_ORDER, L_w_IN_ORDER, S_w_INTERVAL_1, E_w_INTERVAL_1, M_w_IN_ORDER_0, F_ordinal_w_INTERVAL_1, F_firstHour_w_INTERVAL_1, S_w_INTERVAL_4, E_w_INTERVAL_4, M_w_IN_ORDER_3, F_ordinal_w_INTERVAL_4, F_firstHour_w_INTERVAL_4, S_w_INTERVAL_2, E_w_INTERVAL_2, M_w_IN_ORDER_1, F_ordinal_w_INTERVAL_2, F_firstHour_w_INTERVAL_2, S_w_INTERVAL_5, E_w_INTERVAL_5, M_w_IN_ORDER_4, F_ordinal_w_INTERVAL_5, F_firstHour_w_INTERVAL_5, S_w_INTERVAL_3, E_w_INTERVAL_3, M_w_IN_ORDER_2, F_ordinal_w_INTERVAL_3, F_firstHour_w_INTERVAL_3⟩ := G'
  obtain ⟨T1, X1, e1, st1⟩ := getS2 X0 hx hZ hown (host := "") (Or.inl (hw _ (List.mem_of_getElem? (i := 5) rfl))) Via.refl e0 S_w_IN_ORDER (g := (mkF m 6 #[.val (.int (2 : Int32))] [(.int (2 : Int32))])) rfl (hb hby d1_6)
  obtain ⟨T2, X2, e2, st2⟩ := getS2 X1 hx hZ hown (host := "") (Or.inl (hw _ (List.mem_of_getElem? (i := 5) rfl))) Via.refl e1 S_w_IN_ORDER (g := (mkF m 27 #[.val (.int (2 : Int32))] [])) rfl (hb hby d1_27)
  obtain ⟨fs, hr, hrun, hended, hW, hsame⟩ := X2.leave (v := some (.ref w_INTERVAL_2)) (fun h => by rw [Bd.returns] at h; cases h)
  refine ⟨_, _, pre0 _ ?_, hrun, hended, _, _, rfl, ?_, ⟨_, rfl⟩, hW, hsame.mono (by decide) (by decide)⟩
  · show Steps p.tables e below (s₁.setTop (mkF m 0 #[.val (.int (2 : Int32))] [])) _
    refine XS.iloadN X0.here hx rfl (hb hby d1_0) rfl ?_
    show Steps p.tables e below (s₁.setTop (mkF m 1 #[.val (.int (2 : Int32))] [(.int (2 : Int32))])) _
    refine XS.iconst X0.here hx rfl (hb hby d1_1) ?_
    show Steps p.tables e below (s₁.setTop (mkF m 2 #[.val (.int (2 : Int32))] [(.int (1 : Int32)), (.int (2 : Int32))])) _
    refine XS.icmpNo X0.here hx rfl (hb hby d1_2) rfl (flt (by decide : ¬ ((2 : Int32) < (1 : Int32)))).1 ?_
    show Steps p.tables e below (s₁.setTop (mkF m 5 #[.val (.int (2 : Int32))] [])) _
    refine XS.iloadN X0.here hx rfl (hb hby d1_5) rfl ?_
    show Steps p.tables e below (s₁.setTop (mkF m 6 #[.val (.int (2 : Int32))] [(.int (2 : Int32))])) _
    refine st1 _ ?_
    show Steps p.tables e below (T1.setTop (mkF m 9 #[.val (.int (2 : Int32))] [(.ref w_IN_ORDER), (.int (2 : Int32))])) _
    refine X1.arraylength hx (by rw [e1]; exact A_w_IN_ORDER.1) (State.isArrayOf_alike hZ.alike A_w_IN_ORDER.2.1) (g := (mkF m 9 #[.val (.int (2 : Int32))] [(.ref w_IN_ORDER), (.int (2 : Int32))])) rfl rfl (hb hby d1_9) _ ?_
    rw [L_w_IN_ORDER]
    show Steps p.tables e below (T1.setTop (mkF m 10 #[.val (.int (2 : Int32))] [(.int (5 : Int32)), (.int (2 : Int32))])) _
    refine XS.icmpYes X1.here hx rfl (pc0 := 10) (pc' := 27) rfl (hb hby d1_10) rfl (flt (by decide : ¬ ((5 : Int32) < (2 : Int32)))).2.2.2 (by decide) (by decide) ?_
    show Steps p.tables e below (T1.setTop (mkF m 27 #[.val (.int (2 : Int32))] [])) _
    refine st2 _ ?_
    show Steps p.tables e below (T2.setTop (mkF m 30 #[.val (.int (2 : Int32))] [(.ref w_IN_ORDER)])) _
    refine XS.iloadN X2.here hx rfl (hb hby d1_30) rfl ?_
    show Steps p.tables e below (T2.setTop (mkF m 31 #[.val (.int (2 : Int32))] [(.int (2 : Int32)), (.ref w_IN_ORDER)])) _
    refine XS.iconst X2.here hx rfl (hb hby d1_31) ?_
    show Steps p.tables e below (T2.setTop (mkF m 32 #[.val (.int (2 : Int32))] [(.int (1 : Int32)), (.int (2 : Int32)), (.ref w_IN_ORDER)])) _
    refine XS.isub X2.here hx rfl (hb hby d1_32) rfl ?_
    show Steps p.tables e below (T2.setTop (mkF m 33 #[.val (.int (2 : Int32))] [(.int ((2 : Int32) - (1 : Int32))), (.ref w_IN_ORDER)])) _
    rw [(show ((2 : Int32) - (1 : Int32)) = (1 : Int32) from by decide)]
    show Steps p.tables e below (T2.setTop (mkF m 33 #[.val (.int (2 : Int32))] [(.int (1 : Int32)), (.ref w_IN_ORDER)])) _
    refine X2.aaload hx (j := (1 : Int32)) (v := (.ref w_INTERVAL_2)) (by rw [e2]; exact A_w_IN_ORDER.1) (State.isArrayOf_alike hZ.alike A_w_IN_ORDER.2.1) rfl A_w_IN_ORDER.2.2 (by rw [L_w_IN_ORDER]; decide) M_w_IN_ORDER_1 (g := (mkF m 33 #[.val (.int (2 : Int32))] [(.int (1 : Int32)), (.ref w_IN_ORDER)])) rfl rfl (hb hby d1_33) _ ?_
    show Steps p.tables e below (T2.setTop (mkF m 34 #[.val (.int (2 : Int32))] [(.ref w_INTERVAL_2)])) _
    exact retOut X2 hx Bd.returns rfl (Or.inr (Or.inr (Or.inr (Or.inr ⟨rfl, rfl, rfl⟩)))) (hb hby d1_34) hr
  · show QR _ h0 n0 _ T2.heap _
    rw [e2]
    exact ⟨rfl, N0, rfl⟩
theorem d2_9 : decode method_2_code 9 = .ok (.iload_n 0, 1) := by decide +kernel
theorem d2_10 : decode method_2_code 10 = .ok (.iconst 2, 1) := by decide +kernel
theorem d2_11 : decode method_2_code 11 = .ok (.if_icmp .ne 7, 3) := by decide +kernel
theorem d2_14 : decode method_2_code 14 = .ok (.getstatic 13, 3) := by decide +kernel
theorem d2_17 : decode method_2_code 17 = .ok (.areturn, 1) := by decide +kernel
set_option maxRecDepth 65536 in
set_option maxHeartbeats 40000000 in
theorem c2_1 (l : Launch) (Z : State) (a0 : Array Value) (hw : ∀ d ∈ tables_1, d.before a0 Z = true) (ws : List Jvm.Cond) (w_IN_ORDER : Addr) (c_w_IN_ORDER : Cell) (w_INTERVAL_1 : Addr) (w_INTERVAL_4 : Addr) (w_INTERVAL_2 : Addr) (w_INTERVAL_5 : Addr) (w_INTERVAL_3 : Addr) (h0 : Heap) (n0 : Nat) (Z0 : n0 ≤ h0.size) (G : Glob Z h0 w_IN_ORDER c_w_IN_ORDER w_INTERVAL_1 w_INTERVAL_4 w_INTERVAL_2 w_INTERVAL_5 w_INTERVAL_3)  :
    MetFree l (⟨"com/example/gasreckon/gasreckon/model/SchedulingIntervalOfPinLaw", "expected", "(I)Lcom/example/gasreckon/gasreckon/model/SchedulingInterval;"⟩ : MethodName) (head1 (Jvm.Cond.code (⟨"com/example/gasreckon/gasreckon/model/SchedulingIntervalOfPinLaw", "expected", "(I)Lcom/example/gasreckon/gasreckon/model/SchedulingInterval;"⟩ : MethodName) method_2_code 1 (some (.object "com/example/gasreckon/gasreckon/model/SchedulingInterval")) :: ws) ({ frames := 0, cells := 0, slots := 0, locals := 0 } : Room)) (fun a U => a = #[(.int (2 : Int32))] ∧ Z.Warmed39 U.vm ∧ U.heap = h0) (fun _ _ _ _ _ => True) (fun _ U o U' => ∃ v L, o = .returned v ∧ QR (some (.ref w_INTERVAL_2)) h0 n0 v U'.heap L ∧ FrameEnd U o U' L ({ frames := 0, cells := 0, slots := 0, locals := 0 } : Room).cells ({ frames := 0, cells := 0, slots := 0, locals := 0 } : Room).slots) := by
  refine MetFree.of_bodySF (plainFor_of_name pn_com_example_gasreckon_gasreckon_model_SchedulingIntervalOfPinLaw) hisR ?_
  intro p e s m args below meth c s₁ Bd hml0 hP hK
  obtain ⟨rfl, hZ, hh⟩ := hP
  have hx := Bd.exec
  have hby := Bd.bytes
  have hml : c.maxLocals = 1 := hml0
  have hown : s.vm.findClass "com/example/gasreckon/gasreckon/model/SchedulingIntervalOfPinLaw" = some m.cls := findClass_of_methodNamed Bd.named
  have X0 : Stand p l e ({ frames := 0, cells := 0, slots := 0, locals := 0 } : Room) s m #[(.int (2 : Int32))] below meth c s₁ [] 0 0 := Stand.of_body Bd
  have e0 : s₁.heap = h0 := by rw [← hh, Bd.state]; rfl
  have N0 := Fr.nil n0
  have pre0 : ∀ t, Steps p.tables e below (s₁.setTop (mkF m 0 #[.val (.int (2 : Int32))] [])) t → Steps p.tables e below (s₁.setTop (entryFrame m #[(.int (2 : Int32))] 1)) t := fun t k => castTop (ef_2_I m (2 : Int32)) k
  have G' := G
  obtain ⟨S_w_IN_ORDER, A_w_IN_ORDER, L_w_IN_ORDER, S_w_INTERVAL_1, E_w_INTERVAL_1, M_w_IN_ORDER_0, F_ordinal_w_INTERVAL_1, F_firstHour_w_INTERVAL_1, S_w_INTERVAL_4, E_w_INTERVAL_4, M_w_IN_ORDER_3, F_ordinal_w_INTERVAL_4, F_firstHour_w_INTERVAL_4, S_w_INTERVAL_2, E_w_INTERVAL_2, M_w_IN_ORDER_1, F_ordinal_w_INTERVAL_2, F_firstHour_w_INTERVAL_2, S_w_INTERVAL_5, E_w_INTERVAL_5, M_w_IN_ORDER_4, F_ordinal_w_INTERVAL_5, F_firstHour_w_INTERVAL_5, S_w_INTERVAL_3, E_w_INTERVAL_3, M_w_IN_ORDER_2, F_ordinal_w_INTERVAL_3, F_firstHour_w_INTERVAL_3⟩ := G'
  obtain ⟨T1, X1, e1, st1⟩ := getS2 X0 hx hZ hown (host := "") (Or.inl (hw _ (List.mem_of_getElem? (i := 37) rfl))) Via.refl e0 S_w_INTERVAL_2 (g := (mkF m 14 #[.val (.int (2 : Int32))] [])) rfl (hb hby d2_14)
  obtain ⟨fs, hr, hrun, hended, hW, hsame⟩ := X1.leave (v := some (.ref w_INTERVAL_2)) (fun h => by rw [Bd.returns] at h; cases h)
  refine ⟨_, _, pre0 _ ?_, hrun, hended, _, _, rfl, ?_, ⟨_, rfl⟩, hW, hsame.mono (by decide) (by decide)⟩
  · show Steps p.tables e below (s₁.setTop (mkF m 0 #[.val (.int (2 : Int32))] [])) _
    refine XS.iloadN X0.here hx rfl (hb hby d2_0) rfl ?_
    show Steps p.tables e below (s₁.setTop (mkF m 1 #[.val (.int (2 : Int32))] [(.int (2 : Int32))])) _
    refine XS.iconst X0.here hx rfl (hb hby d2_1) ?_
    show Steps p.tables e below (s₁.setTop (mkF m 2 #[.val (.int (2 : Int32))] [(.int (1 : Int32)), (.int (2 : Int32))])) _
    refine XS.icmpYes X0.here hx rfl (pc0 := 2) (pc' := 9) rfl (hb hby d2_2) rfl (feq (by decide : ¬ ((2 : Int32) = (1 : Int32)))).2 (by decide) (by decide) ?_
    show Steps p.tables e below (s₁.setTop (mkF m 9 #[.val (.int (2 : Int32))] [])) _
    refine XS.iloadN X0.here hx rfl (hb hby d2_9) rfl ?_
    show Steps p.tables e below (s₁.setTop (mkF m 10 #[.val (.int (2 : Int32))] [(.int (2 : Int32))])) _
    refine XS.iconst X0.here hx rfl (hb hby d2_10) ?_
    show Steps p.tables e below (s₁.setTop (mkF m 11 #[.val (.int (2 : Int32))] [(.int (2 : Int32)), (.int (2 : Int32))])) _
    refine XS.icmpNo X0.here hx rfl (hb hby d2_11) rfl (teq (by decide : (2 : Int32) = (2 : Int32))).2 ?_
    show Steps p.tables e below (s₁.setTop (mkF m 14 #[.val (.int (2 : Int32))] [])) _
    refine st1 _ ?_
    show Steps p.tables e below (T1.setTop (mkF m 17 #[.val (.int (2 : Int32))] [(.ref w_INTERVAL_2)])) _
    exact retOut X1 hx Bd.returns rfl (Or.inr (Or.inr (Or.inr (Or.inr ⟨rfl, rfl, rfl⟩)))) (hb hby d2_17) hr
  · show QR _ h0 n0 _ T1.heap _
    rw [e1]
    exact ⟨rfl, N0, rfl⟩
set_option maxRecDepth 65536 in
set_option maxHeartbeats 40000000 in
theorem c4_1 (l : Launch) (Z : State) (a0 : Array Value) (hw : ∀ d ∈ tables_1, d.before a0 Z = true) (ws : List Jvm.Cond) (w_IN_ORDER : Addr) (c_w_IN_ORDER : Cell) (w_INTERVAL_1 : Addr) (w_INTERVAL_4 : Addr) (w_INTERVAL_2 : Addr) (w_INTERVAL_5 : Addr) (w_INTERVAL_3 : Addr) (h0 : Heap) (n0 : Nat) (Z0 : n0 ≤ h0.size) (G : Glob Z h0 w_IN_ORDER c_w_IN_ORDER w_INTERVAL_1 w_INTERVAL_4 w_INTERVAL_2 w_INTERVAL_5 w_INTERVAL_3)  :
    MetFree l (⟨"java/lang/Enum", "ordinal", "()I"⟩ : MethodName) (head1 (Jvm.Cond.code (⟨"java/lang/Enum", "ordinal", "()I"⟩ : MethodName) jdk_37_method_2_code 1 (some .int) :: ws) ({ frames := 0, cells := 0, slots := 0, locals := 0 } : Room)) (fun a U => a = #[(.ref w_INTERVAL_2)] ∧ Z.Warmed39 U.vm ∧ U.heap = h0) (fun _ _ _ _ _ => True) (fun _ U o U' => ∃ v L, o = .returned v ∧ QR (some (.int (1 : Int32))) h0 n0 v U'.heap L ∧ FrameEnd U o U' L ({ frames := 0, cells := 0, slots := 0, locals := 0 } : Room).cells ({ frames := 0, cells := 0, slots := 0, locals := 0 } : Room).slots) := by
  refine MetFree.of_bodySF (plainFor_of_name pn_java_lang_Enum) hisR ?_
  intro p e s m args below meth c s₁ Bd hml0 hP hK
  obtain ⟨rfl, hZ, hh⟩ := hP
  have hx := Bd.exec
  have hby := Bd.bytes
  have hml : c.maxLocals = 1 := hml0
  have hown : s.vm.findClass "java/lang/Enum" = some m.cls := findClass_of_methodNamed Bd.named
  have X0 : Stand p l e ({ frames := 0, cells := 0, slots := 0, locals := 0 } : Room) s m #[(.ref w_INTERVAL_2)] below meth c s₁ [] 0 0 := Stand.of_body Bd
  have e0 : s₁.heap = h0 := by rw [← hh, Bd.state]; rfl
  have N0 := Fr.nil n0
  have pre0 : ∀ t, Steps p.tables e below (s₁.setTop (mkF m 0 #[.val (.ref w_INTERVAL_2)] [])) t → Steps p.tables e below (s₁.setTop (entryFrame m #[(.ref w_INTERVAL_2)] 1)) t := fun t k => castTop (ef_4_R m w_INTERVAL_2) k
  have G' := G
  obtain ⟨S_w_IN_ORDER, A_w_IN_ORDER, L_w_IN_ORDER, S_w_INTERVAL_1, E_w_INTERVAL_1, M_w_IN_ORDER_0, F_ordinal_w_INTERVAL_1, F_firstHour_w_INTERVAL_1, S_w_INTERVAL_4, E_w_INTERVAL_4, M_w_IN_ORDER_3, F_ordinal_w_INTERVAL_4, F_firstHour_w_INTERVAL_4, S_w_INTERVAL_2, E_w_INTERVAL_2, M_w_IN_ORDER_1, F_ordinal_w_INTERVAL_2, F_firstHour_w_INTERVAL_2, S_w_INTERVAL_5, E_w_INTERVAL_5, M_w_IN_ORDER_4, F_ordinal_w_INTERVAL_5, F_firstHour_w_INTERVAL_5, S_w_INTERVAL_3, E_w_INTERVAL_3, M_w_IN_ORDER_2, F_ordinal_w_INTERVAL_3, F_firstHour_w_INTERVAL_3⟩ := G'
  obtain ⟨T1, X1, e1, st1⟩ := getF X0 hx hZ hown (host := "") (Or.inl (hw _ (List.mem_of_getElem? (i := 25) rfl))) Via.refl e0 F_ordinal_w_INTERVAL_2 (g := (mkF m 1 #[.val (.ref w_INTERVAL_2)] [(.ref w_INTERVAL_2)])) rfl rfl (hb hby d4_1)
  obtain ⟨fs, hr, hrun, hended, hW, hsame⟩ := X1.leave (v := some (.int (1 : Int32))) (fun h => by rw [Bd.returns] at h; cases h)
  refine ⟨_, _, pre0 _ ?_, hrun, hended, _, _, rfl, ?_, ⟨_, rfl⟩, hW, hsame.mono (by decide) (by decide)⟩
  · show Steps p.tables e below (s₁.setTop (mkF m 0 #[.val (.ref w_INTERVAL_2)] [])) _
    refine XS.aloadN X0.here hx rfl (hb hby d4_0) rfl rfl ?_
    show Steps p.tables e below (s₁.setTop (mkF m 1 #[.val (.ref w_INTERVAL_2)] [(.ref w_INTERVAL_2)])) _
    refine st1 _ ?_
    show Steps p.tables e below (T1.setTop (mkF m 4 #[.val (.ref w_INTERVAL_2)] [(.int (1 : Int32))])) _
    exact retOut X1 hx Bd.returns rfl (Or.inl ⟨rfl, Or.inl rfl, _, rfl⟩) (hb hby d4_4) hr
  · show QR _ h0 n0 _ T1.heap _
    rw [e1]
    exact ⟨rfl, N0, rfl⟩
set_option maxRecDepth 65536 in
set_option maxHeartbeats 40000000 in
theorem c3_1 (l : Launch) (Z : State) (a0 : Array Value) (hw : ∀ d ∈ tables_1, d.before a0 Z = true) (ws : List Jvm.Cond) (w_IN_ORDER : Addr) (c_w_IN_ORDER : Cell) (w_INTERVAL_1 : Addr) (w_INTERVAL_4 : Addr) (w_INTERVAL_2 : Addr) (w_INTERVAL_5 : Addr) (w_INTERVAL_3 : Addr) (h0 : Heap) (n0 : Nat) (Z0 : n0 ≤ h0.size) (G : Glob Z h0 w_IN_ORDER c_w_IN_ORDER w_INTERVAL_1 w_INTERVAL_4 w_INTERVAL_2 w_INTERVAL_5 w_INTERVAL_3)  :
    MetFree l (⟨"com/example/gasreckon/gasreckon/model/SchedulingInterval", "number", "()I"⟩ : MethodName) (head1 (Jvm.Cond.code (⟨"com/example/gasreckon/gasreckon/model/SchedulingInterval", "number", "()I"⟩ : MethodName) prog_42_method_11_code 1 (some .int) :: ws) ({ frames := 1, cells := 0, slots := 0, locals := 12 } : Room)) (fun a U => a = #[(.ref w_INTERVAL_2)] ∧ Z.Warmed39 U.vm ∧ U.heap = h0) (fun _ _ _ _ _ => True) (fun _ U o U' => ∃ v L, o = .returned v ∧ QR (some (.int (2 : Int32))) h0 n0 v U'.heap L ∧ FrameEnd U o U' L ({ frames := 1, cells := 0, slots := 0, locals := 12 } : Room).cells ({ frames := 1, cells := 0, slots := 0, locals := 12 } : Room).slots) := by
  refine MetFree.of_bodySF (plainFor_of_name pn_com_example_gasreckon_gasreckon_model_SchedulingInterval) hisR ?_
  intro p e s m args below meth c s₁ Bd hml0 hP hK
  obtain ⟨rfl, hZ, hh⟩ := hP
  have hx := Bd.exec
  have hby := Bd.bytes
  have hml : c.maxLocals = 1 := hml0
  have hown : s.vm.findClass "com/example/gasreckon/gasreckon/model/SchedulingInterval" = some m.cls := findClass_of_methodNamed Bd.named
  have X0 : Stand p l e ({ frames := 1, cells := 0, slots := 0, locals := 12 } : Room) s m #[(.ref w_INTERVAL_2)] below meth c s₁ [] 0 0 := Stand.of_body Bd
  have e0 : s₁.heap = h0 := by rw [← hh, Bd.state]; rfl
  have N0 := Fr.nil n0
  have pre0 : ∀ t, Steps p.tables e below (s₁.setTop (mkF m 0 #[.val (.ref w_INTERVAL_2)] [])) t → Steps p.tables e below (s₁.setTop (entryFrame m #[(.ref w_INTERVAL_2)] 1)) t := fun t k => castTop (ef_3_R m w_INTERVAL_2) k
  have G' := G
  obtain ⟨S_w_IN_ORDER, A_w_IN_ORDER, L_w_IN_ORDER, S_w_INTERVAL_1, E_w_INTERVAL_1, M_w_IN_ORDER_0, F_ordinal_w_INTERVAL_1, F_firstHour_w_INTERVAL_1, S_w_INTERVAL_4, E_w_INTERVAL_4, M_w_IN_ORDER_3, F_ordinal_w_INTERVAL_4, F_firstHour_w_INTERVAL_4, S_w_INTERVAL_2, E_w_INTERVAL_2, M_w_IN_ORDER_1, F_ordinal_w_INTERVAL_2, F_firstHour_w_INTERVAL_2, S_w_INTERVAL_5, E_w_INTERVAL_5, M_w_IN_ORDER_4, F_ordinal_w_INTERVAL_5, F_firstHour_w_INTERVAL_5, S_w_INTERVAL_3, E_w_INTERVAL_3, M_w_IN_ORDER_2, F_ordinal_w_INTERVAL_3, F_firstHour_w_INTERVAL_3⟩ := G'
  obtain ⟨cq1, kq1, q1a, q1b, q1c⟩ := isOf hZ e0 E_w_INTERVAL_2
  obtain ⟨_, _, ⟨T1, L1, k1, n1⟩, -, X1, ⟨Lc1, hQ1, l1, y1, z1⟩, st1⟩ := X0.virtualBackUp hx (x := (⟨"com/example/gasreckon/gasreckon/model/SchedulingInterval", "ordinal", "()I"⟩ : MethodName)) (y := (⟨"java/lang/Enum", "ordinal", "()I"⟩ : MethodName)) hown (mvT hZ (hw _ (List.mem_of_getElem? (i := 18) rfl))) (mvT hZ (hw _ (List.mem_of_getElem? (i := 19) rfl))) (mvT hZ (hw _ (List.mem_of_getElem? (i := 20) rfl))) (by decide) (mvT hZ (hw _ (List.mem_of_getElem? (i := 22) rfl))) (mvT hZ (hw _ (List.mem_of_getElem? (i := 21) rfl))) (backOf (W := 0) (c4_1 l Z a0 hw [] w_IN_ORDER c_w_IN_ORDER w_INTERVAL_1 w_INTERVAL_4 w_INTERVAL_2 w_INTERVAL_5 w_INTERVAL_3 h0 n0 Z0 G) hZ (hw _ (List.mem_of_getElem? (i := 24) rfl)) (hw _ (List.mem_of_getElem? (i := 23) rfl)) (by decide) (by decide)) q1a q1c (g := (mkF m 1 #[.val (.ref w_INTERVAL_2)] [(.ref w_INTERVAL_2)])) rfl (by rw [hml]; rfl) (Steps.refl _) (argsL := []) (rest := []) (lenOf pd___I rfl) rfl (by show 2 * 0 + _ ≤ _; exact Nat.le_of_eq rfl) (hb hby d3_1) (fun _ _ => ⟨rfl, e0, (by decide : 0 + 0 ≤ _), (by decide : 0 + 0 ≤ _)⟩)
  dsimp only [Pt.U, Pt.locs, Pt.cells, Pt.slots] at X1 l1 y1 z1 st1 hQ1
  subst l1 y1 z1
  obtain ⟨rfl, N1q, e1⟩ := hQ1
  have N1 := Fr.app N0 N1q
  obtain ⟨fs, hr, hrun, hended, hW, hsame⟩ := X1.leave (v := some (.int (2 : Int32))) (fun h => by rw [Bd.returns] at h; cases h)
  refine ⟨_, _, pre0 _ ?_, hrun, hended, _, _, rfl, ?_, ⟨_, rfl⟩, hW, hsame.mono (by decide) (by decide)⟩
  · show Steps p.tables e below (s₁.setTop (mkF m 0 #[.val (.ref w_INTERVAL_2)] [])) _
    refine XS.aloadN X0.here hx rfl (hb hby d3_0) rfl rfl ?_
    show Steps p.tables e below (s₁.setTop (mkF m 1 #[.val (.ref w_INTERVAL_2)] [(.ref w_INTERVAL_2)])) _
    refine st1.trans ?_
    show Steps p.tables e below (T1.setTop (mkF m 4 #[.val (.ref w_INTERVAL_2)] [(.int (1 : Int32))])) _
    refine XS.iconst X1.here hx rfl (hb hby d3_4) ?_
    show Steps p.tables e below (T1.setTop (mkF m 5 #[.val (.ref w_INTERVAL_2)] [(.int (1 : Int32)), (.int (1 : Int32))])) _
    refine XS.iadd X1.here hx rfl (hb hby d3_5) rfl ?_
    show Steps p.tables e below (T1.setTop (mkF m 6 #[.val (.ref w_INTERVAL_2)] [(.int ((1 : Int32) + (1 : Int32)))])) _
    rw [(show ((1 : Int32) + (1 : Int32)) = (2 : Int32) from by decide)]
    show Steps p.tables e below (T1.setTop (mkF m 6 #[.val (.ref w_INTERVAL_2)] [(.int (2 : Int32))])) _
    exact retOut X1 hx Bd.returns rfl (Or.inl ⟨rfl, Or.inl rfl, _, rfl⟩) (hb hby d3_6) hr
  · show QR _ h0 n0 _ T1.heap _
    rw [e1]
    exact ⟨rfl, N1, rfl⟩
set_option maxRecDepth 65536 in
set_option maxHeartbeats 40000000 in
theorem c5_1 (l : Launch) (Z : State) (a0 : Array Value) (hw : ∀ d ∈ tables_1, d.before a0 Z = true) (ws : List Jvm.Cond) (w_IN_ORDER : Addr) (c_w_IN_ORDER : Cell) (w_INTERVAL_1 : Addr) (w_INTERVAL_4 : Addr) (w_INTERVAL_2 : Addr) (w_INTERVAL_5 : Addr) (w_INTERVAL_3 : Addr) (h0 : Heap) (n0 : Nat) (Z0 : n0 ≤ h0.size) (G : Glob Z h0 w_IN_ORDER c_w_IN_ORDER w_INTERVAL_1 w_INTERVAL_4 w_INTERVAL_2 w_INTERVAL_5 w_INTERVAL_3)  :
    MetFree l (⟨"com/example/gasreckon/gasreckon/model/SchedulingInterval", "firstHour", "()I"⟩ : MethodName) (head1 (Jvm.Cond.code (⟨"com/example/gasreckon/gasreckon/model/SchedulingInterval", "firstHour", "()I"⟩ : MethodName) prog_42_method_14_code 1 (some .int) :: ws) ({ frames := 0, cells := 0, slots := 0, locals := 0 } : Room)) (fun a U => a = #[(.ref w_INTERVAL_2)] ∧ Z.Warmed39 U.vm ∧ U.heap = h0) (fun _ _ _ _ _ => True) (fun _ U o U' => ∃ v L, o = .returned v ∧ QR (some (.int (5 : Int32))) h0 n0 v U'.heap L ∧ FrameEnd U o U' L ({ frames := 0, cells := 0, slots := 0, locals := 0 } : Room).cells ({ frames := 0, cells := 0, slots := 0, locals := 0 } : Room).slots) := by
  refine MetFree.of_bodySF (plainFor_of_name pn_com_example_gasreckon_gasreckon_model_SchedulingInterval) hisR ?_
  intro p e s m args below meth c s₁ Bd hml0 hP hK
  obtain ⟨rfl, hZ, hh⟩ := hP
  have hx := Bd.exec
  have hby := Bd.bytes
  have hml : c.maxLocals = 1 := hml0
  have hown : s.vm.findClass "com/example/gasreckon/gasreckon/model/SchedulingInterval" = some m.cls := findClass_of_methodNamed Bd.named
  have X0 : Stand p l e ({ frames := 0, cells := 0, slots := 0, locals := 0 } : Room) s m #[(.ref w_INTERVAL_2)] below meth c s₁ [] 0 0 := Stand.of_body Bd
  have e0 : s₁.heap = h0 := by rw [← hh, Bd.state]; rfl
  have N0 := Fr.nil n0
  have pre0 : ∀ t, Steps p.tables e below (s₁.setTop (mkF m 0 #[.val (.ref w_INTERVAL_2)] [])) t → Steps p.tables e below (s₁.setTop (entryFrame m #[(.ref w_INTERVAL_2)] 1)) t := fun t k => castTop (ef_5_R m w_INTERVAL_2) k
  have G' := G
  obtain ⟨S_w_IN_ORDER, A_w_IN_ORDER, L_w_IN_ORDER, S_w_INTERVAL_1, E_w_INTERVAL_1, M_w_IN_ORDER_0, F_ordinal_w_INTERVAL_1, F_firstHour_w_INTERVAL_1, S_w_INTERVAL_4, E_w_INTERVAL_4, M_w_IN_ORDER_3, F_ordinal_w_INTERVAL_4, F_firstHour_w_INTERVAL_4, S_w_INTERVAL_2, E_w_INTERVAL_2, M_w_IN_ORDER_1, F_ordinal_w_INTERVAL_2, F_firstHour_w_INTERVAL_2, S_w_INTERVAL_5, E_w_INTERVAL_5, M_w_IN_ORDER_4, F_ordinal_w_INTERVAL_5, F_firstHour_w_INTERVAL_5, S_w_INTERVAL_3, E_w_INTERVAL_3, M_w_IN_ORDER_2, F_ordinal_w_INTERVAL_3, F_firstHour_w_INTERVAL_3⟩ := G'
  obtain ⟨T1, X1, e1, st1⟩ := getF X0 hx hZ hown (host := "") (Or.inl (hw _ (List.mem_of_getElem? (i := 32) rfl))) Via.refl e0 F_firstHour_w_INTERVAL_2 (g := (mkF m 1 #[.val (.ref w_INTERVAL_2)] [(.ref w_INTERVAL_2)])) rfl rfl (hb hby d5_1)
  obtain ⟨fs, hr, hrun, hended, hW, hsame⟩ := X1.leave (v := some (.int (5 : Int32))) (fun h => by rw [Bd.returns] at h; cases h)
  refine ⟨_, _, pre0 _ ?_, hrun, hended, _, _, rfl, ?_, ⟨_, rfl⟩, hW, hsame.mono (by decide) (by decide)⟩
  · show Steps p.tables e below (s₁.setTop (mkF m 0 #[.val (.ref w_INTERVAL_2)] [])) _
    refine XS.aloadN X0.here hx rfl (hb hby d5_0) rfl rfl ?_
    show Steps p.tables e below (s₁.setTop (mkF m 1 #[.val (.ref w_INTERVAL_2)] [(.ref w_INTERVAL_2)])) _
    refine st1 _ ?_
    show Steps p.tables e below (T1.setTop (mkF m 4 #[.val (.ref w_INTERVAL_2)] [(.int (5 : Int32))])) _
    exact retOut X1 hx Bd.returns rfl (Or.inl ⟨rfl, Or.inl rfl, _, rfl⟩) (hb hby d5_4) hr
  · show QR _ h0 n0 _ T1.heap _
    rw [e1]
    exact ⟨rfl, N0, rfl⟩
set_option maxRecDepth 65536 in
set_option maxHeartbeats 40000000 in
theorem law_1 (l : Launch) (Z : State) (a0 : Array Value) (hw : ∀ d ∈ tables_1, d.before a0 Z = true) (ws : List Jvm.Cond) (w_IN_ORDER : Addr) (c_w_IN_ORDER : Cell) (w_INTERVAL_1 : Addr) (w_INTERVAL_4 : Addr) (w_INTERVAL_2 : Addr) (w_INTERVAL_5 : Addr) (w_INTERVAL_3 : Addr) (h0 : Heap) (n0 : Nat) (Z0 : n0 ≤ h0.size) (G : Glob Z h0 w_IN_ORDER c_w_IN_ORDER w_INTERVAL_1 w_INTERVAL_4 w_INTERVAL_2 w_INTERVAL_5 w_INTERVAL_3) (p0 : Int32) (hi1 : ((p0 &&& (2147483647 : Int32)) % (5 : Int32)) = (1 : Int32)) :
    MetFree l x (head1 (Jvm.Cond.code x code maxLocals ret :: ws) room_1) (fun a U => a = #[(.int p0)] ∧ Z.Warmed39 U.vm ∧ U.heap = h0) (fun _ _ _ _ _ => True) (fun _ U o U' => ∃ v L, o = .returned v ∧ QL (some (.int (1 : Int32))) h0 n0 v U'.heap L ∧ FrameEnd U o U' L room_1.cells room_1.slots) := by
  refine MetFree.of_bodySF (plainFor_of_name pn_com_example_gasreckon_gasreckon_model_SchedulingIntervalOfPinLaw) hisR ?_
  intro p e s m args below meth c s₁ Bd hml0 hP hK
  obtain ⟨rfl, hZ, hh⟩ := hP
  have hx := Bd.exec
  have hby := Bd.bytes
  have hml : c.maxLocals = 3 := hml0
  have hown : s.vm.findClass "com/example/gasreckon/gasreckon/model/SchedulingIntervalOfPinLaw" = some m.cls := findClass_of_methodNamed Bd.named
  have X0 : Stand p l e room_1 s m #[(.int p0)] below meth c s₁ [] 0 0 := Stand.of_body Bd
  have e0 : s₁.heap = h0 := by rw [← hh, Bd.state]; rfl
  have N0 := Fr.nil n0
  have pre0 : ∀ t, Steps p.tables e below (s₁.setTop (mkF m 0 #[.val (.int p0), .unset, .unset] [])) t → Steps p.tables e below (s₁.setTop (entryFrame m #[(.int p0)] maxLocals)) t := fun t k => castTop (ef_0_I m p0) k
  have G' := G
  obtain ⟨S_w_IN_ORDER, A_w_IN_ORDER, L_w_IN_ORDER, S_w_INTERVAL_1, E_w_INTERVAL_1, M_w_IN_ORDER_0, F_ordinal_w_INTERVAL_1, F_firstHour_w_INTERVAL_1, S_w_INTERVAL_4, E_w_INTERVAL_4, M_w_IN_ORDER_3, F_ordinal_w_INTERVAL_4, F_firstHour_w_INTERVAL_4, S_w_INTERVAL_2, E_w_INTERVAL_2, M_w_IN_ORDER_1, F_ordinal_w_INTERVAL_2, F_firstHour_w_INTERVAL_2, S_w_INTERVAL_5, E_w_INTERVAL_5, M_w_IN_ORDER_4, F_ordinal_w_INTERVAL_5, F_firstHour_w_INTERVAL_5, S_w_INTERVAL_3, E_w_INTERVAL_3, M_w_IN_ORDER_2, F_ordinal_w_INTERVAL_3, F_firstHour_w_INTERVAL_3⟩ := G'
  obtain ⟨_, _, ⟨T1, L1, k1, n1⟩, -, X1, ⟨Lc1, hQ1, l1, y1, z1⟩, st1⟩ := Jvm.LawKit.callS X0 hx (y := (⟨"com/example/gasreckon/gasreckon/model/SchedulingInterval", "of", "(I)Lcom/example/gasreckon/gasreckon/model/SchedulingInterval;"⟩ : MethodName)) hown (mvT hZ (hw _ (List.mem_of_getElem? (i := 1) rfl))) (mvT hZ (hw _ (List.mem_of_getElem? (i := 2) rfl))) (mvT hZ (hw _ (List.mem_of_getElem? (i := 3) rfl))) (mvT hZ (hw _ (List.mem_of_getElem? (i := 4) rfl))) (by decide) (backOf (W := 0) (c1_1 l Z a0 hw [] w_IN_ORDER c_w_IN_ORDER w_INTERVAL_1 w_INTERVAL_4 w_INTERVAL_2 w_INTERVAL_5 w_INTERVAL_3 h0 n0 Z0 G) hZ (hw _ (List.mem_of_getElem? (i := 4) rfl)) (hw _ (List.mem_of_getElem? (i := 3) rfl)) (by decide) (by decide)) (g := (mkF m 10 #[.val (.int p0), .val (.int (2 : Int32)), .unset] [(.int (2 : Int32))])) rfl (by rw [hml]; rfl) (argsL := [(.int (2 : Int32))]) (rest := []) (lenOf pd__I_Lcom_example_gasreckon_gasreckon_model_SchedulingInterval_ rfl) rfl (by show 2 * 0 + _ ≤ _; exact Nat.le_of_eq rfl) (hb hby at_10) (fun _ _ => ⟨rfl, e0, (by decide : 0 + 0 ≤ _), (by decide : 0 + 0 ≤ _)⟩)
  dsimp only [Pt.U, Pt.locs, Pt.cells, Pt.slots] at X1 l1 y1 z1 st1 hQ1
  subst l1 y1 z1
  obtain ⟨rfl, N1q, e1⟩ := hQ1
  have N1 := Fr.app N0 N1q
  obtain ⟨_, _, ⟨T2, L2, k2, n2⟩, -, X2, ⟨Lc2, hQ2, l2, y2, z2⟩, st2⟩ := Jvm.LawKit.callS X1 hx (y := (⟨"com/example/gasreckon/gasreckon/model/SchedulingIntervalOfPinLaw", "expected", "(I)Lcom/example/gasreckon/gasreckon/model/SchedulingInterval;"⟩ : MethodName)) hown (mvT hZ (hw _ (List.mem_of_getElem? (i := 8) rfl))) (mvT hZ (hw _ (List.mem_of_getElem? (i := 9) rfl))) (mvT hZ (hw _ (List.mem_of_getElem? (i := 10) rfl))) (mvT hZ (hw _ (List.mem_of_getElem? (i := 11) rfl))) (by decide) (backOf (W := 1) (c2_1 l Z a0 hw [] w_IN_ORDER c_w_IN_ORDER w_INTERVAL_1 w_INTERVAL_4 w_INTERVAL_2 w_INTERVAL_5 w_INTERVAL_3 h0 n0 Z0 G) hZ (hw _ (List.mem_of_getElem? (i := 11) rfl)) (hw _ (List.mem_of_getElem? (i := 10) rfl)) (by decide) (by decide)) (g := (mkF m 16 #[.val (.int p0), .val (.int (2 : Int32)), .val (.ref w_INTERVAL_2)] [(.int (2 : Int32)), (.ref w_INTERVAL_2)])) rfl (by rw [hml]; rfl) (argsL := [(.int (2 : Int32))]) (rest := [(.ref w_INTERVAL_2)]) (lenOf pd__I_Lcom_example_gasreckon_gasreckon_model_SchedulingInterval_ rfl) rfl (by show 2 * 0 + _ ≤ _; exact Nat.le_of_eq rfl) (hb hby at_16) (fun _ _ => ⟨rfl, e1, (by decide : 0 + 0 ≤ _), (by decide : 0 + 0 ≤ _)⟩)
  dsimp only [Pt.U, Pt.locs, Pt.cells, Pt.slots] at X2 l2 y2 z2 st2 hQ2
  subst l2 y2 z2
  obtain ⟨rfl, N2q, e2⟩ := hQ2
  have N2 := Fr.app N1 N2q
  obtain ⟨cq3, kq3, q3a, q3b, q3c⟩ := isOf hZ e2 E_w_INTERVAL_2
  obtain ⟨_, _, ⟨T3, L3, k3, n3⟩, -, X3, ⟨Lc3, hQ3, l3, y3, z3⟩, st3⟩ := X2.virtualBack hx (y := (⟨"com/example/gasreckon/gasreckon/model/SchedulingInterval", "number", "()I"⟩ : MethodName)) (z := (⟨"com/example/gasreckon/gasreckon/model/SchedulingInterval", "number", "()I"⟩ : MethodName)) hown (mvT hZ (hw _ (List.mem_of_getElem? (i := 13) rfl))) (mvT hZ (hw _ (List.mem_of_getElem? (i := 14) rfl))) (notFace_of_selects (args := #[]) (mvT hZ (hw _ (List.mem_of_getElem? (i := 16) rfl)))) (mvT hZ (hw _ (List.mem_of_getElem? (i := 16) rfl))) (mvT hZ (hw _ (List.mem_of_getElem? (i := 15) rfl))) (by decide) (backOf (W := 0) (c3_1 l Z a0 hw [] w_IN_ORDER c_w_IN_ORDER w_INTERVAL_1 w_INTERVAL_4 w_INTERVAL_2 w_INTERVAL_5 w_INTERVAL_3 h0 n0 Z0 G) hZ (hw _ (List.mem_of_getElem? (i := 17) rfl)) (hw _ (List.mem_of_getElem? (i := 3) rfl)) (by decide) (by decide)) q3a q3c (g := (mkF m 23 #[.val (.int p0), .val (.int (2 : Int32)), .val (.ref w_INTERVAL_2)] [(.ref w_INTERVAL_2)])) rfl (by rw [hml]; rfl) (Steps.refl _) (argsL := []) (rest := []) (lenOf pd___I rfl) rfl (by show 2 * 0 + _ ≤ _; exact Nat.le_of_eq rfl) (hb hby at_23) (fun _ _ => ⟨rfl, e2, (by decide : 0 + 0 ≤ _), (by decide : 0 + 0 ≤ _)⟩)
  dsimp only [Pt.U, Pt.locs, Pt.cells, Pt.slots] at X3 l3 y3 z3 st3 hQ3
  subst l3 y3 z3
  obtain ⟨rfl, N3q, e3⟩ := hQ3
  have N3 := Fr.app N2 N3q
  obtain ⟨cq4, kq4, q4a, q4b, q4c⟩ := isOf hZ e3 E_w_INTERVAL_2
  obtain ⟨_, _, ⟨T4, L4, k4, n4⟩, -, X4, ⟨Lc4, hQ4, l4, y4, z4⟩, st4⟩ := X3.virtualBack hx (y := (⟨"com/example/gasreckon/gasreckon/model/SchedulingInterval", "firstHour", "()I"⟩ : MethodName)) (z := (⟨"com/example/gasreckon/gasreckon/model/SchedulingInterval", "firstHour", "()I"⟩ : MethodName)) hown (mvT hZ (hw _ (List.mem_of_getElem? (i := 27) rfl))) (mvT hZ (hw _ (List.mem_of_getElem? (i := 28) rfl))) (notFace_of_selects (args := #[]) (mvT hZ (hw _ (List.mem_of_getElem? (i := 30) rfl)))) (mvT hZ (hw _ (List.mem_of_getElem? (i := 30) rfl))) (mvT hZ (hw _ (List.mem_of_getElem? (i := 29) rfl))) (by decide) (backOf (W := 0) (c5_1 l Z a0 hw [] w_IN_ORDER c_w_IN_ORDER w_INTERVAL_1 w_INTERVAL_4 w_INTERVAL_2 w_INTERVAL_5 w_INTERVAL_3 h0 n0 Z0 G) hZ (hw _ (List.mem_of_getElem? (i := 31) rfl)) (hw _ (List.mem_of_getElem? (i := 3) rfl)) (by decide) (by decide)) q4a q4c (g := (mkF m 31 #[.val (.int p0), .val (.int (2 : Int32)), .val (.ref w_INTERVAL_2)] [(.ref w_INTERVAL_2)])) rfl (by rw [hml]; rfl) (Steps.refl _) (argsL := []) (rest := []) (lenOf pd___I rfl) rfl (by show 2 * 0 + _ ≤ _; exact Nat.le_of_eq rfl) (hb hby at_31) (fun _ _ => ⟨rfl, e3, (by decide : 0 + 0 ≤ _), (by decide : 0 + 0 ≤ _)⟩)
  dsimp only [Pt.U, Pt.locs, Pt.cells, Pt.slots] at X4 l4 y4 z4 st4 hQ4
  subst l4 y4 z4
  obtain ⟨rfl, N4q, e4⟩ := hQ4
  have N4 := Fr.app N3 N4q
  obtain ⟨fs, hr, hrun, hended, hW, hsame⟩ := X4.leave (v := some (.int (1 : Int32))) (fun h => by rw [Bd.returns] at h; cases h)
  refine ⟨_, _, pre0 _ ?_, hrun, hended, _, _, rfl, ?_, ⟨_, rfl⟩, hW, hsame.mono (by decide) (by decide)⟩
  · show Steps p.tables e below (s₁.setTop (mkF m 0 #[.val (.int p0), .unset, .unset] [])) _
    refine XS.iloadN X0.here hx rfl (hb hby at_0) rfl ?_
    show Steps p.tables e below (s₁.setTop (mkF m 1 #[.val (.int p0), .unset, .unset] [(.int p0)])) _
    refine X0.ldcInt hx hown (mvT hZ (hw _ (List.mem_of_getElem? (i := 0) rfl))) (g := (mkF m 1 #[.val (.int p0), .unset, .unset] [(.int p0)])) rfl (hb hby at_1) _ ?_
    show Steps p.tables e below (s₁.setTop (mkF m 3 #[.val (.int p0), .unset, .unset] [(.int (2147483647 : Int32)), (.int p0)])) _
    refine XS.iand X0.here hx rfl (hb hby at_3) rfl ?_
    show Steps p.tables e below (s₁.setTop (mkF m 4 #[.val (.int p0), .unset, .unset] [(.int (p0 &&& (2147483647 : Int32)))])) _
    refine XS.iconst X0.here hx rfl (hb hby at_4) ?_
    show Steps p.tables e below (s₁.setTop (mkF m 5 #[.val (.int p0), .unset, .unset] [(.int (5 : Int32)), (.int (p0 &&& (2147483647 : Int32)))])) _
    refine iremM X0 hx rfl (hb hby at_5) rfl (by decide) ?_
    show Steps p.tables e below (s₁.setTop (mkF m 6 #[.val (.int p0), .unset, .unset] [(.int ((p0 &&& (2147483647 : Int32)) % (5 : Int32)))])) _
    rw [hi1]
    show Steps p.tables e below (s₁.setTop (mkF m 6 #[.val (.int p0), .unset, .unset] [(.int (1 : Int32))])) _
    refine XS.iconst X0.here hx rfl (hb hby at_6) ?_
    show Steps p.tables e below (s₁.setTop (mkF m 7 #[.val (.int p0), .unset, .unset] [(.int (1 : Int32)), (.int (1 : Int32))])) _
    refine XS.iadd X0.here hx rfl (hb hby at_7) rfl ?_
    show Steps p.tables e below (s₁.setTop (mkF m 8 #[.val (.int p0), .unset, .unset] [(.int ((1 : Int32) + (1 : Int32)))])) _
    rw [(show ((1 : Int32) + (1 : Int32)) = (2 : Int32) from by decide)]
    show Steps p.tables e below (s₁.setTop (mkF m 8 #[.val (.int p0), .unset, .unset] [(.int (2 : Int32))])) _
    refine XS.istoreN X0.here hx rfl (hb hby at_8) rfl (l' := #[.val (.int p0), .val (.int (2 : Int32)), .unset]) rfl ?_
    show Steps p.tables e below (s₁.setTop (mkF m 9 #[.val (.int p0), .val (.int (2 : Int32)), .unset] [])) _
    refine XS.iloadN X0.here hx rfl (hb hby at_9) rfl ?_
    show Steps p.tables e below (s₁.setTop (mkF m 10 #[.val (.int p0), .val (.int (2 : Int32)), .unset] [(.int (2 : Int32))])) _
    refine st1 _ ?_
    show Steps p.tables e below (T1.setTop (mkF m 13 #[.val (.int p0), .val (.int (2 : Int32)), .unset] [(.ref w_INTERVAL_2)])) _
    refine XS.astoreN X1.here hx rfl (hb hby at_13) rfl rfl (l' := #[.val (.int p0), .val (.int (2 : Int32)), .val (.ref w_INTERVAL_2)]) rfl ?_
    show Steps p.tables e below (T1.setTop (mkF m 14 #[.val (.int p0), .val (.int (2 : Int32)), .val (.ref w_INTERVAL_2)] [])) _
    refine XS.aloadN X1.here hx rfl (hb hby at_14) rfl rfl ?_
    show Steps p.tables e below (T1.setTop (mkF m 15 #[.val (.int p0), .val (.int (2 : Int32)), .val (.ref w_INTERVAL_2)] [(.ref w_INTERVAL_2)])) _
    refine XS.iloadN X1.here hx rfl (hb hby at_15) rfl ?_
    show Steps p.tables e below (T1.setTop (mkF m 16 #[.val (.int p0), .val (.int (2 : Int32)), .val (.ref w_INTERVAL_2)] [(.int (2 : Int32)), (.ref w_INTERVAL_2)])) _
    refine st2 _ ?_
    show Steps p.tables e below (T2.setTop (mkF m 19 #[.val (.int p0), .val (.int (2 : Int32)), .val (.ref w_INTERVAL_2)] [(.ref w_INTERVAL_2), (.ref w_INTERVAL_2)])) _
    refine Jvm.RoadKit.acmp (g := (mkF m 19 #[.val (.int p0), .val (.int (2 : Int32)), .val (.ref w_INTERVAL_2)] [(.ref w_INTERVAL_2), (.ref w_INTERVAL_2)])) X2 hx rfl rfl rfl (pc0 := 19) (pc' := 22) (same := true) rfl (hb hby at_19) rfl (decide_eq_true rfl) (by decide) (by decide) ?_
    show Steps p.tables e below (T2.setTop (mkF m 22 #[.val (.int p0), .val (.int (2 : Int32)), .val (.ref w_INTERVAL_2)] [])) _
    refine XS.aloadN X2.here hx rfl (hb hby at_22) rfl rfl ?_
    show Steps p.tables e below (T2.setTop (mkF m 23 #[.val (.int p0), .val (.int (2 : Int32)), .val (.ref w_INTERVAL_2)] [(.ref w_INTERVAL_2)])) _
    refine st3.trans ?_
    show Steps p.tables e below (T3.setTop (mkF m 26 #[.val (.int p0), .val (.int (2 : Int32)), .val (.ref w_INTERVAL_2)] [(.int (2 : Int32))])) _
    refine XS.iloadN X3.here hx rfl (hb hby at_26) rfl ?_
    show Steps p.tables e below (T3.setTop (mkF m 27 #[.val (.int p0), .val (.int (2 : Int32)), .val (.ref w_INTERVAL_2)] [(.int (2 : Int32)), (.int (2 : Int32))])) _
    refine XS.icmpNo X3.here hx rfl (hb hby at_27) rfl (teq (by decide : (2 : Int32) = (2 : Int32))).2 ?_
    show Steps p.tables e below (T3.setTop (mkF m 30 #[.val (.int p0), .val (.int (2 : Int32)), .val (.ref w_INTERVAL_2)] [])) _
    refine XS.aloadN X3.here hx rfl (hb hby at_30) rfl rfl ?_
    show Steps p.tables e below (T3.setTop (mkF m 31 #[.val (.int p0), .val (.int (2 : Int32)), .val (.ref w_INTERVAL_2)] [(.ref w_INTERVAL_2)])) _
    refine st4.trans ?_
    show Steps p.tables e below (T4.setTop (mkF m 34 #[.val (.int p0), .val (.int (2 : Int32)), .val (.ref w_INTERVAL_2)] [(.int (5 : Int32))])) _
    refine XS.iconst X4.here hx rfl (hb hby at_34) ?_
    show Steps p.tables e below (T4.setTop (mkF m 35 #[.val (.int p0), .val (.int (2 : Int32)), .val (.ref w_INTERVAL_2)] [(.int (4 : Int32)), (.int (5 : Int32))])) _
    refine XS.iloadN X4.here hx rfl (hb hby at_35) rfl ?_
    show Steps p.tables e below (T4.setTop (mkF m 36 #[.val (.int p0), .val (.int (2 : Int32)), .val (.ref w_INTERVAL_2)] [(.int (2 : Int32)), (.int (4 : Int32)), (.int (5 : Int32))])) _
    refine XS.imul X4.here hx rfl (hb hby at_36) rfl ?_
    show Steps p.tables e below (T4.setTop (mkF m 37 #[.val (.int p0), .val (.int (2 : Int32)), .val (.ref w_INTERVAL_2)] [(.int ((4 : Int32) * (2 : Int32))), (.int (5 : Int32))])) _
    rw [(show ((4 : Int32) * (2 : Int32)) = (8 : Int32) from by decide)]
    show Steps p.tables e below (T4.setTop (mkF m 37 #[.val (.int p0), .val (.int (2 : Int32)), .val (.ref w_INTERVAL_2)] [(.int (8 : Int32)), (.int (5 : Int32))])) _
    refine XS.iconst X4.here hx rfl (hb hby at_37) ?_
    show Steps p.tables e below (T4.setTop (mkF m 38 #[.val (.int p0), .val (.int (2 : Int32)), .val (.ref w_INTERVAL_2)] [(.int (3 : Int32)), (.int (8 : Int32)), (.int (5 : Int32))])) _
    refine XS.isub X4.here hx rfl (hb hby at_38) rfl ?_
    show Steps p.tables e below (T4.setTop (mkF m 39 #[.val (.int p0), .val (.int (2 : Int32)), .val (.ref w_INTERVAL_2)] [(.int ((8 : Int32) - (3 : Int32))), (.int (5 : Int32))])) _
    rw [(show ((8 : Int32) - (3 : Int32)) = (5 : Int32) from by decide)]
    show Steps p.tables e below (T4.setTop (mkF m 39 #[.val (.int p0), .val (.int (2 : Int32)), .val (.ref w_INTERVAL_2)] [(.int (5 : Int32)), (.int (5 : Int32))])) _
    refine XS.icmpNo X4.here hx rfl (hb hby at_39) rfl (teq (by decide : (5 : Int32) = (5 : Int32))).2 ?_
    show Steps p.tables e below (T4.setTop (mkF m 42 #[.val (.int p0), .val (.int (2 : Int32)), .val (.ref w_INTERVAL_2)] [])) _
    refine XS.iconst X4.here hx rfl (hb hby at_42) ?_
    show Steps p.tables e below (T4.setTop (mkF m 43 #[.val (.int p0), .val (.int (2 : Int32)), .val (.ref w_INTERVAL_2)] [(.int (1 : Int32))])) _
    refine XS.goto X4.here hx rfl (pc0 := 43) (pc' := 47) rfl (hb hby at_43) (by decide) (by decide) ?_
    show Steps p.tables e below (T4.setTop (mkF m 47 #[.val (.int p0), .val (.int (2 : Int32)), .val (.ref w_INTERVAL_2)] [(.int (1 : Int32))])) _
    exact retOut X4 hx Bd.returns rfl (Or.inl ⟨rfl, Or.inr (Or.inl rfl), _, rfl⟩) (hb hby at_47) hr
  · exact ⟨rfl, N4⟩
set_option maxRecDepth 65536 in
set_option maxHeartbeats 40000000 in
theorem c1_2 (l : Launch) (Z : State) (a0 : Array Value) (hw : ∀ d ∈ tables_1, d.before a0 Z = true) (ws : List Jvm.Cond) (w_IN_ORDER : Addr) (c_w_IN_ORDER : Cell) (w_INTERVAL_1 : Addr) (w_INTERVAL_4 : Addr) (w_INTERVAL_2 : Addr) (w_INTERVAL_5 : Addr) (w_INTERVAL_3 : Addr) (h0 : Heap) (n0 : Nat) (Z0 : n0 ≤ h0.size) (G : Glob Z h0 w_IN_ORDER c_w_IN_ORDER w_INTERVAL_1 w_INTERVAL_4 w_INTERVAL_2 w_INTERVAL_5 w_INTERVAL_3)  :
    MetFree l (⟨"com/example/gasreckon/gasreckon/model/SchedulingInterval", "of", "(I)Lcom/example/gasreckon/gasreckon/model/SchedulingInterval;"⟩ : MethodName) (head1 (Jvm.Cond.code (⟨"com/example/gasreckon/gasreckon/model/SchedulingInterval", "of", "(I)Lcom/example/gasreckon/gasreckon/model/SchedulingInterval;"⟩ : MethodName) prog_42_method_4_code 1 (some (.object "com/example/gasreckon/gasreckon/model/SchedulingInterval")) :: ws) ({ frames := 0, cells := 0, slots := 0, locals := 0 } : Room)) (fun a U => a = #[(.int (3 : Int32))] ∧ Z.Warmed39 U.vm ∧ U.heap = h0) (fun _ _ _ _ _ => True) (fun _ U o U' => ∃ v L, o = .returned v ∧ QR (some (.ref w_INTERVAL_3)) h0 n0 v U'.heap L ∧ FrameEnd U o U' L ({ frames := 0, cells := 0, slots := 0, locals := 0 } : Room).cells ({ frames := 0, cells := 0, slots := 0, locals := 0 } : Room).slots) := by
  refine MetFree.of_bodySF (plainFor_of_name pn_com_example_gasreckon_gasreckon_model_SchedulingInterval) hisR ?_
  intro p e s m args below meth c s₁ Bd hml0 hP hK
  obtain ⟨rfl, hZ, hh⟩ := hP
  have hx := Bd.exec
  have hby := Bd.bytes
  have hml : c.maxLocals = 1 := hml0
  have hown : s.vm.findClass "com/example/gasreckon/gasreckon/model/SchedulingInterval" = some m.cls := findClass_of_methodNamed Bd.named
  have X0 : Stand p l e ({ frames := 0, cells := 0, slots := 0, locals := 0 } : Room) s m #[(.int (3 : Int32))] below meth c s₁ [] 0 0 := Stand.of_body Bd
  have e0 : s₁.heap = h0 := by rw [← hh, Bd.state]; rfl
  have N0 := Fr.nil n0
  have pre0 : ∀ t, Steps p.tables e below (s₁.setTop (mkF m 0 #[.val (.int (3 : Int32))] [])) t → Steps p.tables e below (s₁.setTop (entryFrame m #[(.int (3 : Int32))] 1)) t := fun t k => castTop (ef_1_I m (3 : Int32)) k
  have G' := G
  obtain ⟨S_w_IN_ORDER, A_w_IN_ORDER, L_w_IN_ORDER, S_w_INTERVAL_1, E_w_INTERVAL_1, M_w_IN_ORDER_0, F_ordinal_w_INTERVAL_1, F_firstHour_w_INTERVAL_1, S_w_INTERVAL_4, E_w_INTERVAL_4, M_w_IN_ORDER_3, F_ordinal_w_INTERVAL_4, F_firstHour_w_INTERVAL_4, S_w_INTERVAL_2, E_w_INTERVAL_2, M_w_IN_ORDER_1, F_ordinal_w_INTERVAL_2, F_firstHour_w_INTERVAL_2, S_w_INTERVAL_5, E_w_INTERVAL_5, M_w_IN_ORDER_4, F_ordinal_w_INTERVAL_5, F_firstHour_w_INTERVAL_5, S_w_INTERVAL_3, E_w_INTERVAL_3, M_w_IN_ORDER_2, F_ordinal_w_INTERVAL_3, F_firstHour_w_INTERVAL_3⟩ := G'
  obtain ⟨T1, X1, e1, st1⟩ := getS2 X0 hx hZ hown (host := "") (Or.inl (hw _ (List.mem_of_getElem? (i := 5) rfl))) Via.refl e0 S_w_IN_ORDER (g := (mkF m 6 #[.val (.int (3 : Int32))] [(.int (3 : Int32))])) rfl (hb hby d1_6)
  obtain ⟨T2, X2, e2, st2⟩ := getS2 X1 hx hZ hown (host := "") (Or.inl (hw _ (List.mem_of_getElem? (i := 5) rfl))) Via.refl e1 S_w_IN_ORDER (g := (mkF m 27 #[.val (.int (3 : Int32))] [])) rfl (hb hby d1_27)
  obtain ⟨fs, hr, hrun, hended, hW, hsame⟩ := X2.leave (v := some (.ref w_INTERVAL_3)) (fun h => by rw [Bd.returns] at h; cases h)
  refine ⟨_, _, pre0 _ ?_, hrun, hended, _, _, rfl, ?_, ⟨_, rfl⟩, hW, hsame.mono (by decide) (by decide)⟩
  · show Steps p.tables e below (s₁.setTop (mkF m 0 #[.val (.int (3 : Int32))] [])) _
    refine XS.iloadN X0.here hx rfl (hb hby d1_0) rfl ?_
    show Steps p.tables e below (s₁.setTop (mkF m 1 #[.val (.int (3 : Int32))] [(.int (3 : Int32))])) _
    refine XS.iconst X0.here hx rfl (hb hby d1_1) ?_
    show Steps p.tables e below (s₁.setTop (mkF m 2 #[.val (.int (3 : Int32))] [(.int (1 : Int32)), (.int (3 : Int32))])) _
    refine XS.icmpNo X0.here hx rfl (hb hby d1_2) rfl (flt (by decide : ¬ ((3 : Int32) < (1 : Int32)))).1 ?_
    show Steps p.tables e below (s₁.setTop (mkF m 5 #[.val (.int (3 : Int32))] [])) _
    refine XS.iloadN X0.here hx rfl (hb hby d1_5) rfl ?_
    show Steps p.tables e below (s₁.setTop (mkF m 6 #[.val (.int (3 : Int32))] [(.int (3 : Int32))])) _
    refine st1 _ ?_
    show Steps p.tables e below (T1.setTop (mkF m 9 #[.val (.int (3 : Int32))] [(.ref w_IN_ORDER), (.int (3 : Int32))])) _
    refine X1.arraylength hx (by rw [e1]; exact A_w_IN_ORDER.1) (State.isArrayOf_alike hZ.alike A_w_IN_ORDER.2.1) (g := (mkF m 9 #[.val (.int (3 : Int32))] [(.ref w_IN_ORDER), (.int (3 : Int32))])) rfl rfl (hb hby d1_9) _ ?_
    rw [L_w_IN_ORDER]
    show Steps p.tables e below (T1.setTop (mkF m 10 #[.val (.int (3 : Int32))] [(.int (5 : Int32)), (.int (3 : Int32))])) _
    refine XS.icmpYes X1.here hx rfl (pc0 := 10) (pc' := 27) rfl (hb hby d1_10) rfl (flt (by decide : ¬ ((5 : Int32) < (3 : Int32)))).2.2.2 (by decide) (by decide) ?_
    show Steps p.tables e below (T1.setTop (mkF m 27 #[.val (.int (3 : Int32))] [])) _
    refine st2 _ ?_
    show Steps p.tables e below (T2.setTop (mkF m 30 #[.val (.int (3 : Int32))] [(.ref w_IN_ORDER)])) _
    refine XS.iloadN X2.here hx rfl (hb hby d1_30) rfl ?_
    show Steps p.tables e below (T2.setTop (mkF m 31 #[.val (.int (3 : Int32))] [(.int (3 : Int32)), (.ref w_IN_ORDER)])) _
    refine XS.iconst X2.here hx rfl (hb hby d1_31) ?_
    show Steps p.tables e below (T2.setTop (mkF m 32 #[.val (.int (3 : Int32))] [(.int (1 : Int32)), (.int (3 : Int32)), (.ref w_IN_ORDER)])) _
    refine XS.isub X2.here hx rfl (hb hby d1_32) rfl ?_
    show Steps p.tables e below (T2.setTop (mkF m 33 #[.val (.int (3 : Int32))] [(.int ((3 : Int32) - (1 : Int32))), (.ref w_IN_ORDER)])) _
    rw [(show ((3 : Int32) - (1 : Int32)) = (2 : Int32) from by decide)]
    show Steps p.tables e below (T2.setTop (mkF m 33 #[.val (.int (3 : Int32))] [(.int (2 : Int32)), (.ref w_IN_ORDER)])) _
    refine X2.aaload hx (j := (2 : Int32)) (v := (.ref w_INTERVAL_3)) (by rw [e2]; exact A_w_IN_ORDER.1) (State.isArrayOf_alike hZ.alike A_w_IN_ORDER.2.1) rfl A_w_IN_ORDER.2.2 (by rw [L_w_IN_ORDER]; decide) M_w_IN_ORDER_2 (g := (mkF m 33 #[.val (.int (3 : Int32))] [(.int (2 : Int32)), (.ref w_IN_ORDER)])) rfl rfl (hb hby d1_33) _ ?_
    show Steps p.tables e below (T2.setTop (mkF m 34 #[.val (.int (3 : Int32))] [(.ref w_INTERVAL_3)])) _
    exact retOut X2 hx Bd.returns rfl (Or.inr (Or.inr (Or.inr (Or.inr ⟨rfl, rfl, rfl⟩)))) (hb hby d1_34) hr
  · show QR _ h0 n0 _ T2.heap _
    rw [e2]
    exact ⟨rfl, N0, rfl⟩
theorem d2_18 : decode method_2_code 18 = .ok (.iload_n 0, 1) := by decide +kernel
theorem d2_19 : decode method_2_code 19 = .ok (.iconst 3, 1) := by decide +kernel
theorem d2_20 : decode method_2_code 20 = .ok (.if_icmp .ne 7, 3) := by decide +kernel
theorem d2_23 : decode method_2_code 23 = .ok (.getstatic 16, 3) := by decide +kernel
theorem d2_26 : decode method_2_code 26 = .ok (.areturn, 1) := by decide +kernel
set_option maxRecDepth 65536 in
set_option maxHeartbeats 40000000 in
theorem c2_2 (l : Launch) (Z : State) (a0 : Array Value) (hw : ∀ d ∈ tables_1, d.before a0 Z = true) (ws : List Jvm.Cond) (w_IN_ORDER : Addr) (c_w_IN_ORDER : Cell) (w_INTERVAL_1 : Addr) (w_INTERVAL_4 : Addr) (w_INTERVAL_2 : Addr) (w_INTERVAL_5 : Addr) (w_INTERVAL_3 : Addr) (h0 : Heap) (n0 : Nat) (Z0 : n0 ≤ h0.size) (G : Glob Z h0 w_IN_ORDER c_w_IN_ORDER w_INTERVAL_1 w_INTERVAL_4 w_INTERVAL_2 w_INTERVAL_5 w_INTERVAL_3)  :
    MetFree l (⟨"com/example/gasreckon/gasreckon/model/SchedulingIntervalOfPinLaw", "expected", "(I)Lcom/example/gasreckon/gasreckon/model/SchedulingInterval;"⟩ : MethodName) (head1 (Jvm.Cond.code (⟨"com/example/gasreckon/gasreckon/model/SchedulingIntervalOfPinLaw", "expected", "(I)Lcom/example/gasreckon/gasreckon/model/SchedulingInterval;"⟩ : MethodName) method_2_code 1 (some (.object "com/example/gasreckon/gasreckon/model/SchedulingInterval")) :: ws) ({ frames := 0, cells := 0, slots := 0, locals := 0 } : Room)) (fun a U => a = #[(.int (3 : Int32))] ∧ Z.Warmed39 U.vm ∧ U.heap = h0) (fun _ _ _ _ _ => True) (fun _ U o U' => ∃ v L, o = .returned v ∧ QR (some (.ref w_INTERVAL_3)) h0 n0 v U'.heap L ∧ FrameEnd U o U' L ({ frames := 0, cells := 0, slots := 0, locals := 0 } : Room).cells ({ frames := 0, cells := 0, slots := 0, locals := 0 } : Room).slots) := by
  refine MetFree.of_bodySF (plainFor_of_name pn_com_example_gasreckon_gasreckon_model_SchedulingIntervalOfPinLaw) hisR ?_
  intro p e s m args below meth c s₁ Bd hml0 hP hK
  obtain ⟨rfl, hZ, hh⟩ := hP
  have hx := Bd.exec
  have hby := Bd.bytes
  have hml : c.maxLocals = 1 := hml0
  have hown : s.vm.findClass "com/example/gasreckon/gasreckon/model/SchedulingIntervalOfPinLaw" = some m.cls := findClass_of_methodNamed Bd.named
  have X0 : Stand p l e ({ frames := 0, cells := 0, slots := 0, locals := 0 } : Room) s m #[(.int (3 : Int32))] below meth c s₁ [] 0 0 := Stand.of_body Bd
  have e0 : s₁.heap = h0 := by rw [← hh, Bd.state]; rfl
  have N0 := Fr.nil n0
  have pre0 : ∀ t, Steps p.tables e below (s₁.setTop (mkF m 0 #[.val (.int (3 : Int32))] [])) t → Steps p.tables e below (s₁.setTop (entryFrame m #[(.int (3 : Int32))] 1)) t := fun t k => castTop (ef_2_I m (3 : Int32)) k
  have G' := G
  obtain ⟨S_w_IN_ORDER, A_w_IN_ORDER, L_w_IN_ORDER, S_w_INTERVAL_1, E_w_INTERVAL_1, M_w_IN_ORDER_0, F_ordinal_w_INTERVAL_1, F_firstHour_w_INTERVAL_1, S_w_INTERVAL_4, E_w_INTERVAL_4, M_w_IN_ORDER_3, F_ordinal_w_INTERVAL_4, F_firstHour_w_INTERVAL_4, S_w_INTERVAL_2, E_w_INTERVAL_2, M_w_IN_ORDER_1, F_ordinal_w_INTERVAL_2, F_firstHour_w_INTERVAL_2, S_w_INTERVAL_5, E_w_INTERVAL_5, M_w_IN_ORDER_4, F_ordinal_w_INTERVAL_5, F_firstHour_w_INTERVAL_5, S_w_INTERVAL_3, E_w_INTERVAL_3, M_w_IN_ORDER_2, F_ordinal_w_INTERVAL_3, F_firstHour_w_INTERVAL_3⟩ := G'
  obtain ⟨T1, X1, e1, st1⟩ := getS2 X0 hx hZ hown (host := "") (Or.inl (hw _ (List.mem_of_getElem? (i := 41) rfl))) Via.refl e0 S_w_INTERVAL_3 (g := (mkF m 23 #[.val (.int (3 : Int32))] [])) rfl (hb hby d2_23)
  obtain ⟨fs, hr, hrun, hended, hW, hsame⟩ := X1.leave (v := some (.ref w_INTERVAL_3)) (fun h => by rw [Bd.returns] at h; cases h)
  refine ⟨_, _, pre0 _ ?_, hrun, hended, _, _, rfl, ?_, ⟨_, rfl⟩, hW, hsame.mono (by decide) (by decide)⟩
  · show Steps p.tables e below (s₁.setTop (mkF m 0 #[.val (.int (3 : Int32))] [])) _
    refine XS.iloadN X0.here hx rfl (hb hby d2_0) rfl ?_
    show Steps p.tables e below (s₁.setTop (mkF m 1 #[.val (.int (3 : Int32))] [(.int (3 : Int32))])) _
    refine XS.iconst X0.here hx rfl (hb hby d2_1) ?_
    show Steps p.tables e below (s₁.setTop (mkF m 2 #[.val (.int (3 : Int32))] [(.int (1 : Int32)), (.int (3 : Int32))])) _
    refine XS.icmpYes X0.here hx rfl (pc0 := 2) (pc' := 9) rfl (hb hby d2_2) rfl (feq (by decide : ¬ ((3 : Int32) = (1 : Int32)))).2 (by decide) (by decide) ?_
    show Steps p.tables e below (s₁.setTop (mkF m 9 #[.val (.int (3 : Int32))] [])) _
    refine XS.iloadN X0.here hx rfl (hb hby d2_9) rfl ?_
    show Steps p.tables e below (s₁.setTop (mkF m 10 #[.val (.int (3 : Int32))] [(.int (3 : Int32))])) _
    refine XS.iconst X0.here hx rfl (hb hby d2_10) ?_
    show Steps p.tables e below (s₁.setTop (mkF m 11 #[.val (.int (3 : Int32))] [(.int (2 : Int32)), (.int (3 : Int32))])) _
    refine XS.icmpYes X0.here hx rfl (pc0 := 11) (pc' := 18) rfl (hb hby d2_11) rfl (feq (by decide : ¬ ((3 : Int32) = (2 : Int32)))).2 (by decide) (by decide) ?_
    show Steps p.tables e below (s₁.setTop (mkF m 18 #[.val (.int (3 : Int32))] [])) _
    refine XS.iloadN X0.here hx rfl (hb hby d2_18) rfl ?_
    show Steps p.tables e below (s₁.setTop (mkF m 19 #[.val (.int (3 : Int32))] [(.int (3 : Int32))])) _
    refine XS.iconst X0.here hx rfl (hb hby d2_19) ?_
    show Steps p.tables e below (s₁.setTop (mkF m 20 #[.val (.int (3 : Int32))] [(.int (3 : Int32)), (.int (3 : Int32))])) _
    refine XS.icmpNo X0.here hx rfl (hb hby d2_20) rfl (teq (by decide : (3 : Int32) = (3 : Int32))).2 ?_
    show Steps p.tables e below (s₁.setTop (mkF m 23 #[.val (.int (3 : Int32))] [])) _
    refine st1 _ ?_
    show Steps p.tables e below (T1.setTop (mkF m 26 #[.val (.int (3 : Int32))] [(.ref w_INTERVAL_3)])) _
    exact retOut X1 hx Bd.returns rfl (Or.inr (Or.inr (Or.inr (Or.inr ⟨rfl, rfl, rfl⟩)))) (hb hby d2_26) hr
  · show QR _ h0 n0 _ T1.heap _
    rw [e1]
    exact ⟨rfl, N0, rfl⟩
set_option maxRecDepth 65536 in
set_option maxHeartbeats 40000000 in
theorem c4_2 (l : Launch) (Z : State) (a0 : Array Value) (hw : ∀ d ∈ tables_1, d.before a0 Z = true) (ws : List Jvm.Cond) (w_IN_ORDER : Addr) (c_w_IN_ORDER : Cell) (w_INTERVAL_1 : Addr) (w_INTERVAL_4 : Addr) (w_INTERVAL_2 : Addr) (w_INTERVAL_5 : Addr) (w_INTERVAL_3 : Addr) (h0 : Heap) (n0 : Nat) (Z0 : n0 ≤ h0.size) (G : Glob Z h0 w_IN_ORDER c_w_IN_ORDER w_INTERVAL_1 w_INTERVAL_4 w_INTERVAL_2 w_INTERVAL_5 w_INTERVAL_3)  :
    MetFree l (⟨"java/lang/Enum", "ordinal", "()I"⟩ : MethodName) (head1 (Jvm.Cond.code (⟨"java/lang/Enum", "ordinal", "()I"⟩ : MethodName) jdk_37_method_2_code 1 (some .int) :: ws) ({ frames := 0, cells := 0, slots := 0, locals := 0 } : Room)) (fun a U => a = #[(.ref w_INTERVAL_3)] ∧ Z.Warmed39 U.vm ∧ U.heap = h0) (fun _ _ _ _ _ => True) (fun _ U o U' => ∃ v L, o = .returned v ∧ QR (some (.int (2 : Int32))) h0 n0 v U'.heap L ∧ FrameEnd U o U' L ({ frames := 0, cells := 0, slots := 0, locals := 0 } : Room).cells ({ frames := 0, cells := 0, slots := 0, locals := 0 } : Room).slots) := by
  refine MetFree.of_bodySF (plainFor_of_name pn_java_lang_Enum) hisR ?_
  intro p e s m args below meth c s₁ Bd hml0 hP hK
  obtain ⟨rfl, hZ, hh⟩ := hP
  have hx := Bd.exec
  have hby := Bd.bytes
  have hml : c.maxLocals = 1 := hml0
  have hown : s.vm.findClass "java/lang/Enum" = some m.cls := findClass_of_methodNamed Bd.named
  have X0 : Stand p l e ({ frames := 0, cells := 0, slots := 0, locals := 0 } : Room) s m #[(.ref w_INTERVAL_3)] below meth c s₁ [] 0 0 := Stand.of_body Bd
  have e0 : s₁.heap = h0 := by rw [← hh, Bd.state]; rfl
  have N0 := Fr.nil n0
  have pre0 : ∀ t, Steps p.tables e below (s₁.setTop (mkF m 0 #[.val (.ref w_INTERVAL_3)] [])) t → Steps p.tables e below (s₁.setTop (entryFrame m #[(.ref w_INTERVAL_3)] 1)) t := fun t k => castTop (ef_4_R m w_INTERVAL_3) k
  have G' := G
  obtain ⟨S_w_IN_ORDER, A_w_IN_ORDER, L_w_IN_ORDER, S_w_INTERVAL_1, E_w_INTERVAL_1, M_w_IN_ORDER_0, F_ordinal_w_INTERVAL_1, F_firstHour_w_INTERVAL_1, S_w_INTERVAL_4, E_w_INTERVAL_4, M_w_IN_ORDER_3, F_ordinal_w_INTERVAL_4, F_firstHour_w_INTERVAL_4, S_w_INTERVAL_2, E_w_INTERVAL_2, M_w_IN_ORDER_1, F_ordinal_w_INTERVAL_2, F_firstHour_w_INTERVAL_2, S_w_INTERVAL_5, E_w_INTERVAL_5, M_w_IN_ORDER_4, F_ordinal_w_INTERVAL_5, F_firstHour_w_INTERVAL_5, S_w_INTERVAL_3, E_w_INTERVAL_3, M_w_IN_ORDER_2, F_ordinal_w_INTERVAL_3, F_firstHour_w_INTERVAL_3⟩ := G'
  obtain ⟨T1, X1, e1, st1⟩ := getF X0 hx hZ hown (host := "") (Or.inl (hw _ (List.mem_of_getElem? (i := 25) rfl))) Via.refl e0 F_ordinal_w_INTERVAL_3 (g := (mkF m 1 #[.val (.ref w_INTERVAL_3)] [(.ref w_INTERVAL_3)])) rfl rfl (hb hby d4_1)
  obtain ⟨fs, hr, hrun, hended, hW, hsame⟩ := X1.leave (v := some (.int (2 : Int32))) (fun h => by rw [Bd.returns] at h; cases h)
  refine ⟨_, _, pre0 _ ?_, hrun, hended, _, _, rfl, ?_, ⟨_, rfl⟩, hW, hsame.mono (by decide) (by decide)⟩
  · show Steps p.tables e below (s₁.setTop (mkF m 0 #[.val (.ref w_INTERVAL_3)] [])) _
    refine XS.aloadN X0.here hx rfl (hb hby d4_0) rfl rfl ?_
    show Steps p.tables e below (s₁.setTop (mkF m 1 #[.val (.ref w_INTERVAL_3)] [(.ref w_INTERVAL_3)])) _
    refine st1 _ ?_
    show Steps p.tables e below (T1.setTop (mkF m 4 #[.val (.ref w_INTERVAL_3)] [(.int (2 : Int32))])) _
    exact retOut X1 hx Bd.returns rfl (Or.inl ⟨rfl, Or.inl rfl, _, rfl⟩) (hb hby d4_4) hr
  · show QR _ h0 n0 _ T1.heap _
    rw [e1]
    exact ⟨rfl, N0, rfl⟩
set_option maxRecDepth 65536 in
set_option maxHeartbeats 40000000 in
theorem c3_2 (l : Launch) (Z : State) (a0 : Array Value) (hw : ∀ d ∈ tables_1, d.before a0 Z = true) (ws : List Jvm.Cond) (w_IN_ORDER : Addr) (c_w_IN_ORDER : Cell) (w_INTERVAL_1 : Addr) (w_INTERVAL_4 : Addr) (w_INTERVAL_2 : Addr) (w_INTERVAL_5 : Addr) (w_INTERVAL_3 : Addr) (h0 : Heap) (n0 : Nat) (Z0 : n0 ≤ h0.size) (G : Glob Z h0 w_IN_ORDER c_w_IN_ORDER w_INTERVAL_1 w_INTERVAL_4 w_INTERVAL_2 w_INTERVAL_5 w_INTERVAL_3)  :
    MetFree l (⟨"com/example/gasreckon/gasreckon/model/SchedulingInterval", "number", "()I"⟩ : MethodName) (head1 (Jvm.Cond.code (⟨"com/example/gasreckon/gasreckon/model/SchedulingInterval", "number", "()I"⟩ : MethodName) prog_42_method_11_code 1 (some .int) :: ws) ({ frames := 1, cells := 0, slots := 0, locals := 12 } : Room)) (fun a U => a = #[(.ref w_INTERVAL_3)] ∧ Z.Warmed39 U.vm ∧ U.heap = h0) (fun _ _ _ _ _ => True) (fun _ U o U' => ∃ v L, o = .returned v ∧ QR (some (.int (3 : Int32))) h0 n0 v U'.heap L ∧ FrameEnd U o U' L ({ frames := 1, cells := 0, slots := 0, locals := 12 } : Room).cells ({ frames := 1, cells := 0, slots := 0, locals := 12 } : Room).slots) := by
  refine MetFree.of_bodySF (plainFor_of_name pn_com_example_gasreckon_gasreckon_model_SchedulingInterval) hisR ?_
  intro p e s m args below meth c s₁ Bd hml0 hP hK
  obtain ⟨rfl, hZ, hh⟩ := hP
  have hx := Bd.exec
  have hby := Bd.bytes
  have hml : c.maxLocals = 1 := hml0
  have hown : s.vm.findClass "com/example/gasreckon/gasreckon/model/SchedulingInterval" = some m.cls := findClass_of_methodNamed Bd.named
  have X0 : Stand p l e ({ frames := 1, cells := 0, slots := 0, locals := 12 } : Room) s m #[(.ref w_INTERVAL_3)] below meth c s₁ [] 0 0 := Stand.of_body Bd
  have e0 : s₁.heap = h0 := by rw [← hh, Bd.state]; rfl
  have N0 := Fr.nil n0
  have pre0 : ∀ t, Steps p.tables e below (s₁.setTop (mkF m 0 #[.val (.ref w_INTERVAL_3)] [])) t → Steps p.tables e below (s₁.setTop (entryFrame m #[(.ref w_INTERVAL_3)] 1)) t := fun t k => castTop (ef_3_R m w_INTERVAL_3) k
  have G' := G
  obtain ⟨S_w_IN_ORDER, A_w_IN_ORDER, L_w_IN_ORDER, S_w_INTERVAL_1, E_w_INTERVAL_1, M_w_IN_ORDER_0, F_ordinal_w_INTERVAL_1, F_firstHour_w_INTERVAL_1, S_w_INTERVAL_4, E_w_INTERVAL_4, M_w_IN_ORDER_3, F_ordinal_w_INTERVAL_4, F_firstHour_w_INTERVAL_4, S_w_INTERVAL_2, E_w_INTERVAL_2, M_w_IN_ORDER_1, F_ordinal_w_INTERVAL_2, F_firstHour_w_INTERVAL_2, S_w_INTERVAL_5, E_w_INTERVAL_5, M_w_IN_ORDER_4, F_ordinal_w_INTERVAL_5, F_firstHour_w_INTERVAL_5, S_w_INTERVAL_3, E_w_INTERVAL_3, M_w_IN_ORDER_2, F_ordinal_w_INTERVAL_3, F_firstHour_w_INTERVAL_3⟩ := G'
  obtain ⟨cq1, kq1, q1a, q1b, q1c⟩ := isOf hZ e0 E_w_INTERVAL_3
  obtain ⟨_, _, ⟨T1, L1, k1, n1⟩, -, X1, ⟨Lc1, hQ1, l1, y1, z1⟩, st1⟩ := X0.virtualBackUp hx (x := (⟨"com/example/gasreckon/gasreckon/model/SchedulingInterval", "ordinal", "()I"⟩ : MethodName)) (y := (⟨"java/lang/Enum", "ordinal", "()I"⟩ : MethodName)) hown (mvT hZ (hw _ (List.mem_of_getElem? (i := 18) rfl))) (mvT hZ (hw _ (List.mem_of_getElem? (i := 19) rfl))) (mvT hZ (hw _ (List.mem_of_getElem? (i := 20) rfl))) (by decide) (mvT hZ (hw _ (List.mem_of_getElem? (i := 22) rfl))) (mvT hZ (hw _ (List.mem_of_getElem? (i := 21) rfl))) (backOf (W := 0) (c4_2 l Z a0 hw [] w_IN_ORDER c_w_IN_ORDER w_INTERVAL_1 w_INTERVAL_4 w_INTERVAL_2 w_INTERVAL_5 w_INTERVAL_3 h0 n0 Z0 G) hZ (hw _ (List.mem_of_getElem? (i := 24) rfl)) (hw _ (List.mem_of_getElem? (i := 23) rfl)) (by decide) (by decide)) q1a q1c (g := (mkF m 1 #[.val (.ref w_INTERVAL_3)] [(.ref w_INTERVAL_3)])) rfl (by rw [hml]; rfl) (Steps.refl _) (argsL := []) (rest := []) (lenOf pd___I rfl) rfl (by show 2 * 0 + _ ≤ _; exact Nat.le_of_eq rfl) (hb hby d3_1) (fun _ _ => ⟨rfl, e0, (by decide : 0 + 0 ≤ _), (by decide : 0 + 0 ≤ _)⟩)
  dsimp only [Pt.U, Pt.locs, Pt.cells, Pt.slots] at X1 l1 y1 z1 st1 hQ1
  subst l1 y1 z1
  obtain ⟨rfl, N1q, e1⟩ := hQ1
  have N1 := Fr.app N0 N1q
  obtain ⟨fs, hr, hrun, hended, hW, hsame⟩ := X1.leave (v := some (.int (3 : Int32))) (fun h => by rw [Bd.returns] at h; cases h)
  refine ⟨_, _, pre0 _ ?_, hrun, hended, _, _, rfl, ?_, ⟨_, rfl⟩, hW, hsame.mono (by decide) (by decide)⟩
  · show Steps p.tables e below (s₁.setTop (mkF m 0 #[.val (.ref w_INTERVAL_3)] [])) _
    refine XS.aloadN X0.here hx rfl (hb hby d3_0) rfl rfl ?_
    show Steps p.tables e below (s₁.setTop (mkF m 1 #[.val (.ref w_INTERVAL_3)] [(.ref w_INTERVAL_3)])) _
    refine st1.trans ?_
    show Steps p.tables e below (T1.setTop (mkF m 4 #[.val (.ref w_INTERVAL_3)] [(.int (2 : Int32))])) _
    refine XS.iconst X1.here hx rfl (hb hby d3_4) ?_
    show Steps p.tables e below (T1.setTop (mkF m 5 #[.val (.ref w_INTERVAL_3)] [(.int (1 : Int32)), (.int (2 : Int32))])) _
    refine XS.iadd X1.here hx rfl (hb hby d3_5) rfl ?_
    show Steps p.tables e below (T1.setTop (mkF m 6 #[.val (.ref w_INTERVAL_3)] [(.int ((2 : Int32) + (1 : Int32)))])) _
    rw [(show ((2 : Int32) + (1 : Int32)) = (3 : Int32) from by decide)]
    show Steps p.tables e below (T1.setTop (mkF m 6 #[.val (.ref w_INTERVAL_3)] [(.int (3 : Int32))])) _
    exact retOut X1 hx Bd.returns rfl (Or.inl ⟨rfl, Or.inl rfl, _, rfl⟩) (hb hby d3_6) hr
  · show QR _ h0 n0 _ T1.heap _
    rw [e1]
    exact ⟨rfl, N1, rfl⟩
set_option maxRecDepth 65536 in
set_option maxHeartbeats 40000000 in
theorem c5_2 (l : Launch) (Z : State) (a0 : Array Value) (hw : ∀ d ∈ tables_1, d.before a0 Z = true) (ws : List Jvm.Cond) (w_IN_ORDER : Addr) (c_w_IN_ORDER : Cell) (w_INTERVAL_1 : Addr) (w_INTERVAL_4 : Addr) (w_INTERVAL_2 : Addr) (w_INTERVAL_5 : Addr) (w_INTERVAL_3 : Addr) (h0 : Heap) (n0 : Nat) (Z0 : n0 ≤ h0.size) (G : Glob Z h0 w_IN_ORDER c_w_IN_ORDER w_INTERVAL_1 w_INTERVAL_4 w_INTERVAL_2 w_INTERVAL_5 w_INTERVAL_3)  :
    MetFree l (⟨"com/example/gasreckon/gasreckon/model/SchedulingInterval", "firstHour", "()I"⟩ : MethodName) (head1 (Jvm.Cond.code (⟨"com/example/gasreckon/gasreckon/model/SchedulingInterval", "firstHour", "()I"⟩ : MethodName) prog_42_method_14_code 1 (some .int) :: ws) ({ frames := 0, cells := 0, slots := 0, locals := 0 } : Room)) (fun a U => a = #[(.ref w_INTERVAL_3)] ∧ Z.Warmed39 U.vm ∧ U.heap = h0) (fun _ _ _ _ _ => True) (fun _ U o U' => ∃ v L, o = .returned v ∧ QR (some (.int (9 : Int32))) h0 n0 v U'.heap L ∧ FrameEnd U o U' L ({ frames := 0, cells := 0, slots := 0, locals := 0 } : Room).cells ({ frames := 0, cells := 0, slots := 0, locals := 0 } : Room).slots) := by
  refine MetFree.of_bodySF (plainFor_of_name pn_com_example_gasreckon_gasreckon_model_SchedulingInterval) hisR ?_
  intro p e s m args below meth c s₁ Bd hml0 hP hK
  obtain ⟨rfl, hZ, hh⟩ := hP
  have hx := Bd.exec
  have hby := Bd.bytes
  have hml : c.maxLocals = 1 := hml0
  have hown : s.vm.findClass "com/example/gasreckon/gasreckon/model/SchedulingInterval" = some m.cls := findClass_of_methodNamed Bd.named
  have X0 : Stand p l e ({ frames := 0, cells := 0, slots := 0, locals := 0 } : Room) s m #[(.ref w_INTERVAL_3)] below meth c s₁ [] 0 0 := Stand.of_body Bd
  have e0 : s₁.heap = h0 := by rw [← hh, Bd.state]; rfl
  have N0 := Fr.nil n0
  have pre0 : ∀ t, Steps p.tables e below (s₁.setTop (mkF m 0 #[.val (.ref w_INTERVAL_3)] [])) t → Steps p.tables e below (s₁.setTop (entryFrame m #[(.ref w_INTERVAL_3)] 1)) t := fun t k => castTop (ef_5_R m w_INTERVAL_3) k
  have G' := G
  obtain ⟨S_w_IN_ORDER, A_w_IN_ORDER, L_w_IN_ORDER, S_w_INTERVAL_1, E_w_INTERVAL_1, M_w_IN_ORDER_0, F_ordinal_w_INTERVAL_1, F_firstHour_w_INTERVAL_1, S_w_INTERVAL_4, E_w_INTERVAL_4, M_w_IN_ORDER_3, F_ordinal_w_INTERVAL_4, F_firstHour_w_INTERVAL_4, S_w_INTERVAL_2, E_w_INTERVAL_2, M_w_IN_ORDER_1, F_ordinal_w_INTERVAL_2, F_firstHour_w_INTERVAL_2, S_w_INTERVAL_5, E_w_INTERVAL_5, M_w_IN_ORDER_4, F_ordinal_w_INTERVAL_5, F_firstHour_w_INTERVAL_5, S_w_INTERVAL_3, E_w_INTERVAL_3, M_w_IN_ORDER_2, F_ordinal_w_INTERVAL_3, F_firstHour_w_INTERVAL_3⟩ := G'
  obtain ⟨T1, X1, e1, st1⟩ := getF X0 hx hZ hown (host := "") (Or.inl (hw _ (List.mem_of_getElem? (i := 32) rfl))) Via.refl e0 F_firstHour_w_INTERVAL_3 (g := (mkF m 1 #[.val (.ref w_INTERVAL_3)] [(.ref w_INTERVAL_3)])) rfl rfl (hb hby d5_1)
  obtain ⟨fs, hr, hrun, hended, hW, hsame⟩ := X1.leave (v := some (.int (9 : Int32))) (fun h => by rw [Bd.returns] at h; cases h)
  refine ⟨_, _, pre0 _ ?_, hrun, hended, _, _, rfl, ?_, ⟨_, rfl⟩, hW, hsame.mono (by decide) (by decide)⟩
  · show Steps p.tables e below (s₁.setTop (mkF m 0 #[.val (.ref w_INTERVAL_3)] [])) _
    refine XS.aloadN X0.here hx rfl (hb hby d5_0) rfl rfl ?_
    show Steps p.tables e below (s₁.setTop (mkF m 1 #[.val (.ref w_INTERVAL_3)] [(.ref w_INTERVAL_3)])) _
    refine st1 _ ?_
    show Steps p.tables e below (T1.setTop (mkF m 4 #[.val (.ref w_INTERVAL_3)] [(.int (9 : Int32))])) _
    exact retOut X1 hx Bd.returns rfl (Or.inl ⟨rfl, Or.inl rfl, _, rfl⟩) (hb hby d5_4) hr
  · show QR _ h0 n0 _ T1.heap _
    rw [e1]
    exact ⟨rfl, N0, rfl⟩
set_option maxRecDepth 65536 in
set_option maxHeartbeats 40000000 in
theorem law_2 (l : Launch) (Z : State) (a0 : Array Value) (hw : ∀ d ∈ tables_1, d.before a0 Z = true) (ws : List Jvm.Cond) (w_IN_ORDER : Addr) (c_w_IN_ORDER : Cell) (w_INTERVAL_1 : Addr) (w_INTERVAL_4 : Addr) (w_INTERVAL_2 : Addr) (w_INTERVAL_5 : Addr) (w_INTERVAL_3 : Addr) (h0 : Heap) (n0 : Nat) (Z0 : n0 ≤ h0.size) (G : Glob Z h0 w_IN_ORDER c_w_IN_ORDER w_INTERVAL_1 w_INTERVAL_4 w_INTERVAL_2 w_INTERVAL_5 w_INTERVAL_3) (p0 : Int32) (hi2 : ((p0 &&& (2147483647 : Int32)) % (5 : Int32)) = (2 : Int32)) :
    MetFree l x (head1 (Jvm.Cond.code x code maxLocals ret :: ws) room_1) (fun a U => a = #[(.int p0)] ∧ Z.Warmed39 U.vm ∧ U.heap = h0) (fun _ _ _ _ _ => True) (fun _ U o U' => ∃ v L, o = .returned v ∧ QL (some (.int (1 : Int32))) h0 n0 v U'.heap L ∧ FrameEnd U o U' L room_1.cells room_1.slots) := by
  refine MetFree.of_bodySF (plainFor_of_name pn_com_example_gasreckon_gasreckon_model_SchedulingIntervalOfPinLaw) hisR ?_
  intro p e s m args below meth c s₁ Bd hml0 hP hK
  obtain ⟨rfl, hZ, hh⟩ := hP
  have hx := Bd.exec
  have hby := Bd.bytes
  have hml : c.maxLocals = 3 := hml0
  have hown : s.vm.findClass "com/example/gasreckon/gasreckon/model/SchedulingIntervalOfPinLaw" = some m.cls := findClass_of_methodNamed Bd.named
  have X0 : Stand p l e room_1 s m #[(.int p0)] below meth c s₁ [] 0 0 := Stand.of_body Bd
  have e0 : s₁.heap = h0 := by rw [← hh, Bd.state]; rfl
  have N0 := Fr.nil n0
  have pre0 : ∀ t, Steps p.tables e below (s₁.setTop (mkF m 0 #[.val (.int p0), .unset, .unset] [])) t → Steps p.tables e below (s₁.setTop (entryFrame m #[(.int p0)] maxLocals)) t := fun t k => castTop (ef_0_I m p0) k
  have G' := G
  obtain ⟨S_w_IN_ORDER, A_w_IN_ORDER, L_w_IN_ORDER, S_w_INTERVAL_1, E_w_INTERVAL_1, M_w_IN_ORDER_0, F_ordinal_w_INTERVAL_1, F_firstHour_w_INTERVAL_1, S_w_INTERVAL_4, E_w_INTERVAL_4, M_w_IN_ORDER_3, F_ordinal_w_INTERVAL_4, F_firstHour_w_INTERVAL_4, S_w_INTERVAL_2, E_w_INTERVAL_2, M_w_IN_ORDER_1, F_ordinal_w_INTERVAL_2, F_firstHour_w_INTERVAL_2, S_w_INTERVAL_5, E_w_INTERVAL_5, M_w_IN_ORDER_4, F_ordinal_w_INTERVAL_5, F_firstHour_w_INTERVAL_5, S_w_INTERVAL_3, E_w_INTERVAL_3, M_w_IN_ORDER_2, F_ordinal_w_INTERVAL_3, F_firstHour_w_INTERVAL_3⟩ := G'
  obtain ⟨_, _, ⟨T1, L1, k1, n1⟩, -, X1, ⟨Lc1, hQ1, l1, y1, z1⟩, st1⟩ := Jvm.LawKit.callS X0 hx (y := (⟨"com/example/gasreckon/gasreckon/model/SchedulingInterval", "of", "(I)Lcom/example/gasreckon/gasreckon/model/SchedulingInterval;"⟩ : MethodName)) hown (mvT hZ (hw _ (List.mem_of_getElem? (i := 1) rfl))) (mvT hZ (hw _ (List.mem_of_getElem? (i := 2) rfl))) (mvT hZ (hw _ (List.mem_of_getElem? (i := 3) rfl))) (mvT hZ (hw _ (List.mem_of_getElem? (i := 4) rfl))) (by decide) (backOf (W := 0) (c1_2 l Z a0 hw [] w_IN_ORDER c_w_IN_ORDER w_INTERVAL_1 w_INTERVAL_4 w_INTERVAL_2 w_INTERVAL_5 w_INTERVAL_3 h0 n0 Z0 G) hZ (hw _ (List.mem_of_getElem? (i := 4) rfl)) (hw _ (List.mem_of_getElem? (i := 3) rfl)) (by decide) (by decide)) (g := (mkF m 10 #[.val (.int p0), .val (.int (3 : Int32)), .unset] [(.int (3 : Int32))])) rfl (by rw [hml]; rfl) (argsL := [(.int (3 : Int32))]) (rest := []) (lenOf pd__I_Lcom_example_gasreckon_gasreckon_model_SchedulingInterval_ rfl) rfl (by show 2 * 0 + _ ≤ _; exact Nat.le_of_eq rfl) (hb hby at_10) (fun _ _ => ⟨rfl, e0, (by decide : 0 + 0 ≤ _), (by decide : 0 + 0 ≤ _)⟩)
  dsimp only [Pt.U, Pt.locs, Pt.cells, Pt.slots] at X1 l1 y1 z1 st1 hQ1
  subst l1 y1 z1
  obtain ⟨rfl, N1q, e1⟩ := hQ1
  have N1 := Fr.app N0 N1q
  obtain ⟨_, _, ⟨T2, L2, k2, n2⟩, -, X2, ⟨Lc2, hQ2, l2, y2, z2⟩, st2⟩ := Jvm.LawKit.callS X1 hx (y := (⟨"com/example/gasreckon/gasreckon/model/SchedulingIntervalOfPinLaw", "expected", "(I)Lcom/example/gasreckon/gasreckon/model/SchedulingInterval;"⟩ : MethodName)) hown (mvT hZ (hw _ (List.mem_of_getElem? (i := 8) rfl))) (mvT hZ (hw _ (List.mem_of_getElem? (i := 9) rfl))) (mvT hZ (hw _ (List.mem_of_getElem? (i := 10) rfl))) (mvT hZ (hw _ (List.mem_of_getElem? (i := 11) rfl))) (by decide) (backOf (W := 1) (c2_2 l Z a0 hw [] w_IN_ORDER c_w_IN_ORDER w_INTERVAL_1 w_INTERVAL_4 w_INTERVAL_2 w_INTERVAL_5 w_INTERVAL_3 h0 n0 Z0 G) hZ (hw _ (List.mem_of_getElem? (i := 11) rfl)) (hw _ (List.mem_of_getElem? (i := 10) rfl)) (by decide) (by decide)) (g := (mkF m 16 #[.val (.int p0), .val (.int (3 : Int32)), .val (.ref w_INTERVAL_3)] [(.int (3 : Int32)), (.ref w_INTERVAL_3)])) rfl (by rw [hml]; rfl) (argsL := [(.int (3 : Int32))]) (rest := [(.ref w_INTERVAL_3)]) (lenOf pd__I_Lcom_example_gasreckon_gasreckon_model_SchedulingInterval_ rfl) rfl (by show 2 * 0 + _ ≤ _; exact Nat.le_of_eq rfl) (hb hby at_16) (fun _ _ => ⟨rfl, e1, (by decide : 0 + 0 ≤ _), (by decide : 0 + 0 ≤ _)⟩)
  dsimp only [Pt.U, Pt.locs, Pt.cells, Pt.slots] at X2 l2 y2 z2 st2 hQ2
  subst l2 y2 z2
  obtain ⟨rfl, N2q, e2⟩ := hQ2
  have N2 := Fr.app N1 N2q
  obtain ⟨cq3, kq3, q3a, q3b, q3c⟩ := isOf hZ e2 E_w_INTERVAL_3
  obtain ⟨_, _, ⟨T3, L3, k3, n3⟩, -, X3, ⟨Lc3, hQ3, l3, y3, z3⟩, st3⟩ := X2.virtualBack hx (y := (⟨"com/example/gasreckon/gasreckon/model/SchedulingInterval", "number", "()I"⟩ : MethodName)) (z := (⟨"com/example/gasreckon/gasreckon/model/SchedulingInterval", "number", "()I"⟩ : MethodName)) hown (mvT hZ (hw _ (List.mem_of_getElem? (i := 13) rfl))) (mvT hZ (hw _ (List.mem_of_getElem? (i := 14) rfl))) (notFace_of_selects (args := #[]) (mvT hZ (hw _ (List.mem_of_getElem? (i := 16) rfl)))) (mvT hZ (hw _ (List.mem_of_getElem? (i := 16) rfl))) (mvT hZ (hw _ (List.mem_of_getElem? (i := 15) rfl))) (by decide) (backOf (W := 0) (c3_2 l Z a0 hw [] w_IN_ORDER c_w_IN_ORDER w_INTERVAL_1 w_INTERVAL_4 w_INTERVAL_2 w_INTERVAL_5 w_INTERVAL_3 h0 n0 Z0 G) hZ (hw _ (List.mem_of_getElem? (i := 17) rfl)) (hw _ (List.mem_of_getElem? (i := 3) rfl)) (by decide) (by decide)) q3a q3c (g := (mkF m 23 #[.val (.int p0), .val (.int (3 : Int32)), .val (.ref w_INTERVAL_3)] [(.ref w_INTERVAL_3)])) rfl (by rw [hml]; rfl) (Steps.refl _) (argsL := []) (rest := []) (lenOf pd___I rfl) rfl (by show 2 * 0 + _ ≤ _; exact Nat.le_of_eq rfl) (hb hby at_23) (fun _ _ => ⟨rfl, e2, (by decide : 0 + 0 ≤ _), (by decide : 0 + 0 ≤ _)⟩)
  dsimp only [Pt.U, Pt.locs, Pt.cells, Pt.slots] at X3 l3 y3 z3 st3 hQ3
  subst l3 y3 z3
  obtain ⟨rfl, N3q, e3⟩ := hQ3
  have N3 := Fr.app N2 N3q
  obtain ⟨cq4, kq4, q4a, q4b, q4c⟩ := isOf hZ e3 E_w_INTERVAL_3
  obtain ⟨_, _, ⟨T4, L4, k4, n4⟩, -, X4, ⟨Lc4, hQ4, l4, y4, z4⟩, st4⟩ := X3.virtualBack hx (y := (⟨"com/example/gasreckon/gasreckon/model/SchedulingInterval", "firstHour", "()I"⟩ : MethodName)) (z := (⟨"com/example/gasreckon/gasreckon/model/SchedulingInterval", "firstHour", "()I"⟩ : MethodName)) hown (mvT hZ (hw _ (List.mem_of_getElem? (i := 27) rfl))) (mvT hZ (hw _ (List.mem_of_getElem? (i := 28) rfl))) (notFace_of_selects (args := #[]) (mvT hZ (hw _ (List.mem_of_getElem? (i := 30) rfl)))) (mvT hZ (hw _ (List.mem_of_getElem? (i := 30) rfl))) (mvT hZ (hw _ (List.mem_of_getElem? (i := 29) rfl))) (by decide) (backOf (W := 0) (c5_2 l Z a0 hw [] w_IN_ORDER c_w_IN_ORDER w_INTERVAL_1 w_INTERVAL_4 w_INTERVAL_2 w_INTERVAL_5 w_INTERVAL_3 h0 n0 Z0 G) hZ (hw _ (List.mem_of_getElem? (i := 31) rfl)) (hw _ (List.mem_of_getElem? (i := 3) rfl)) (by decide) (by decide)) q4a q4c (g := (mkF m 31 #[.val (.int p0), .val (.int (3 : Int32)), .val (.ref w_INTERVAL_3)] [(.ref w_INTERVAL_3)])) rfl (by rw [hml]; rfl) (Steps.refl _) (argsL := []) (rest := []) (lenOf pd___I rfl) rfl (by show 2 * 0 + _ ≤ _; exact Nat.le_of_eq rfl) (hb hby at_31) (fun _ _ => ⟨rfl, e3, (by decide : 0 + 0 ≤ _), (by decide : 0 + 0 ≤ _)⟩)
  dsimp only [Pt.U, Pt.locs, Pt.cells, Pt.slots] at X4 l4 y4 z4 st4 hQ4
  subst l4 y4 z4
  obtain ⟨rfl, N4q, e4⟩ := hQ4
  have N4 := Fr.app N3 N4q
  obtain ⟨fs, hr, hrun, hended, hW, hsame⟩ := X4.leave (v := some (.int (1 : Int32))) (fun h => by rw [Bd.returns] at h; cases h)
  refine ⟨_, _, pre0 _ ?_, hrun, hended, _, _, rfl, ?_, ⟨_, rfl⟩, hW, hsame.mono (by decide) (by decide)⟩
  · show Steps p.tables e below (s₁.setTop (mkF m 0 #[.val (.int p0), .unset, .unset] [])) _
    refine XS.iloadN X0.here hx rfl (hb hby at_0) rfl ?_
    show Steps p.tables e below (s₁.setTop (mkF m 1 #[.val (.int p0), .unset, .unset] [(.int p0)])) _
    refine X0.ldcInt hx hown (mvT hZ (hw _ (List.mem_of_getElem? (i := 0) rfl))) (g := (mkF m 1 #[.val (.int p0), .unset, .unset] [(.int p0)])) rfl (hb hby at_1) _ ?_
    show Steps p.tables e below (s₁.setTop (mkF m 3 #[.val (.int p0), .unset, .unset] [(.int (2147483647 : Int32)), (.int p0)])) _
    refine XS.iand X0.here hx rfl (hb hby at_3) rfl ?_
    show Steps p.tables e below (s₁.setTop (mkF m 4 #[.val (.int p0), .unset, .unset] [(.int (p0 &&& (2147483647 : Int32)))])) _
    refine XS.iconst X0.here hx rfl (hb hby at_4) ?_
    show Steps p.tables e below (s₁.setTop (mkF m 5 #[.val (.int p0), .unset, .unset] [(.int (5 : Int32)), (.int (p0 &&& (2147483647 : Int32)))])) _
    refine iremM X0 hx rfl (hb hby at_5) rfl (by decide) ?_
    show Steps p.tables e below (s₁.setTop (mkF m 6 #[.val (.int p0), .unset, .unset] [(.int ((p0 &&& (2147483647 : Int32)) % (5 : Int32)))])) _
    rw [hi2]
    show Steps p.tables e below (s₁.setTop (mkF m 6 #[.val (.int p0), .unset, .unset] [(.int (2 : Int32))])) _
    refine XS.iconst X0.here hx rfl (hb hby at_6) ?_
    show Steps p.tables e below (s₁.setTop (mkF m 7 #[.val (.int p0), .unset, .unset] [(.int (1 : Int32)), (.int (2 : Int32))])) _
    refine XS.iadd X0.here hx rfl (hb hby at_7) rfl ?_
    show Steps p.tables e below (s₁.setTop (mkF m 8 #[.val (.int p0), .unset, .unset] [(.int ((2 : Int32) + (1 : Int32)))])) _
    rw [(show ((2 : Int32) + (1 : Int32)) = (3 : Int32) from by decide)]
    show Steps p.tables e below (s₁.setTop (mkF m 8 #[.val (.int p0), .unset, .unset] [(.int (3 : Int32))])) _
    refine XS.istoreN X0.here hx rfl (hb hby at_8) rfl (l' := #[.val (.int p0), .val (.int (3 : Int32)), .unset]) rfl ?_
    show Steps p.tables e below (s₁.setTop (mkF m 9 #[.val (.int p0), .val (.int (3 : Int32)), .unset] [])) _
    refine XS.iloadN X0.here hx rfl (hb hby at_9) rfl ?_
    show Steps p.tables e below (s₁.setTop (mkF m 10 #[.val (.int p0), .val (.int (3 : Int32)), .unset] [(.int (3 : Int32))])) _
    refine st1 _ ?_
    show Steps p.tables e below (T1.setTop (mkF m 13 #[.val (.int p0), .val (.int (3 : Int32)), .unset] [(.ref w_INTERVAL_3)])) _
    refine XS.astoreN X1.here hx rfl (hb hby at_13) rfl rfl (l' := #[.val (.int p0), .val (.int (3 : Int32)), .val (.ref w_INTERVAL_3)]) rfl ?_
    show Steps p.tables e below (T1.setTop (mkF m 14 #[.val (.int p0), .val (.int (3 : Int32)), .val (.ref w_INTERVAL_3)] [])) _
    refine XS.aloadN X1.here hx rfl (hb hby at_14) rfl rfl ?_
    show Steps p.tables e below (T1.setTop (mkF m 15 #[.val (.int p0), .val (.int (3 : Int32)), .val (.ref w_INTERVAL_3)] [(.ref w_INTERVAL_3)])) _
    refine XS.iloadN X1.here hx rfl (hb hby at_15) rfl ?_
    show Steps p.tables e below (T1.setTop (mkF m 16 #[.val (.int p0), .val (.int (3 : Int32)), .val (.ref w_INTERVAL_3)] [(.int (3 : Int32)), (.ref w_INTERVAL_3)])) _
    refine st2 _ ?_
    show Steps p.tables e below (T2.setTop (mkF m 19 #[.val (.int p0), .val (.int (3 : Int32)), .val (.ref w_INTERVAL_3)] [(.ref w_INTERVAL_3), (.ref w_INTERVAL_3)])) _
    refine Jvm.RoadKit.acmp (g := (mkF m 19 #[.val (.int p0), .val (.int (3 : Int32)), .val (.ref w_INTERVAL_3)] [(.ref w_INTERVAL_3), (.ref w_INTERVAL_3)])) X2 hx rfl rfl rfl (pc0 := 19) (pc' := 22) (same := true) rfl (hb hby at_19) rfl (decide_eq_true rfl) (by decide) (by decide) ?_
    show Steps p.tables e below (T2.setTop (mkF m 22 #[.val (.int p0), .val (.int (3 : Int32)), .val (.ref w_INTERVAL_3)] [])) _
    refine XS.aloadN X2.here hx rfl (hb hby at_22) rfl rfl ?_
    show Steps p.tables e below (T2.setTop (mkF m 23 #[.val (.int p0), .val (.int (3 : Int32)), .val (.ref w_INTERVAL_3)] [(.ref w_INTERVAL_3)])) _
    refine st3.trans ?_
    show Steps p.tables e below (T3.setTop (mkF m 26 #[.val (.int p0), .val (.int (3 : Int32)), .val (.ref w_INTERVAL_3)] [(.int (3 : Int32))])) _
    refine XS.iloadN X3.here hx rfl (hb hby at_26) rfl ?_
    show Steps p.tables e below (T3.setTop (mkF m 27 #[.val (.int p0), .val (.int (3 : Int32)), .val (.ref w_INTERVAL_3)] [(.int (3 : Int32)), (.int (3 : Int32))])) _
    refine XS.icmpNo X3.here hx rfl (hb hby at_27) rfl (teq (by decide : (3 : Int32) = (3 : Int32))).2 ?_
    show Steps p.tables e below (T3.setTop (mkF m 30 #[.val (.int p0), .val (.int (3 : Int32)), .val (.ref w_INTERVAL_3)] [])) _
    refine XS.aloadN X3.here hx rfl (hb hby at_30) rfl rfl ?_
    show Steps p.tables e below (T3.setTop (mkF m 31 #[.val (.int p0), .val (.int (3 : Int32)), .val (.ref w_INTERVAL_3)] [(.ref w_INTERVAL_3)])) _
    refine st4.trans ?_
    show Steps p.tables e below (T4.setTop (mkF m 34 #[.val (.int p0), .val (.int (3 : Int32)), .val (.ref w_INTERVAL_3)] [(.int (9 : Int32))])) _
    refine XS.iconst X4.here hx rfl (hb hby at_34) ?_
    show Steps p.tables e below (T4.setTop (mkF m 35 #[.val (.int p0), .val (.int (3 : Int32)), .val (.ref w_INTERVAL_3)] [(.int (4 : Int32)), (.int (9 : Int32))])) _
    refine XS.iloadN X4.here hx rfl (hb hby at_35) rfl ?_
    show Steps p.tables e below (T4.setTop (mkF m 36 #[.val (.int p0), .val (.int (3 : Int32)), .val (.ref w_INTERVAL_3)] [(.int (3 : Int32)), (.int (4 : Int32)), (.int (9 : Int32))])) _
    refine XS.imul X4.here hx rfl (hb hby at_36) rfl ?_
    show Steps p.tables e below (T4.setTop (mkF m 37 #[.val (.int p0), .val (.int (3 : Int32)), .val (.ref w_INTERVAL_3)] [(.int ((4 : Int32) * (3 : Int32))), (.int (9 : Int32))])) _
    rw [(show ((4 : Int32) * (3 : Int32)) = (12 : Int32) from by decide)]
    show Steps p.tables e below (T4.setTop (mkF m 37 #[.val (.int p0), .val (.int (3 : Int32)), .val (.ref w_INTERVAL_3)] [(.int (12 : Int32)), (.int (9 : Int32))])) _
    refine XS.iconst X4.here hx rfl (hb hby at_37) ?_
    show Steps p.tables e below (T4.setTop (mkF m 38 #[.val (.int p0), .val (.int (3 : Int32)), .val (.ref w_INTERVAL_3)] [(.int (3 : Int32)), (.int (12 : Int32)), (.int (9 : Int32))])) _
    refine XS.isub X4.here hx rfl (hb hby at_38) rfl ?_
    show Steps p.tables e below (T4.setTop (mkF m 39 #[.val (.int p0), .val (.int (3 : Int32)), .val (.ref w_INTERVAL_3)] [(.int ((12 : Int32) - (3 : Int32))), (.int (9 : Int32))])) _
    rw [(show ((12 : Int32) - (3 : Int32)) = (9 : Int32) from by decide)]
    show Steps p.tables e below (T4.setTop (mkF m 39 #[.val (.int p0), .val (.int (3 : Int32)), .val (.ref w_INTERVAL_3)] [(.int (9 : Int32)), (.int (9 : Int32))])) _
    refine XS.icmpNo X4.here hx rfl (hb hby at_39) rfl (teq (by decide : (9 : Int32) = (9 : Int32))).2 ?_
    show Steps p.tables e below (T4.setTop (mkF m 42 #[.val (.int p0), .val (.int (3 : Int32)), .val (.ref w_INTERVAL_3)] [])) _
    refine XS.iconst X4.here hx rfl (hb hby at_42) ?_
    show Steps p.tables e below (T4.setTop (mkF m 43 #[.val (.int p0), .val (.int (3 : Int32)), .val (.ref w_INTERVAL_3)] [(.int (1 : Int32))])) _
    refine XS.goto X4.here hx rfl (pc0 := 43) (pc' := 47) rfl (hb hby at_43) (by decide) (by decide) ?_
    show Steps p.tables e below (T4.setTop (mkF m 47 #[.val (.int p0), .val (.int (3 : Int32)), .val (.ref w_INTERVAL_3)] [(.int (1 : Int32))])) _
    exact retOut X4 hx Bd.returns rfl (Or.inl ⟨rfl, Or.inr (Or.inl rfl), _, rfl⟩) (hb hby at_47) hr
  · exact ⟨rfl, N4⟩
set_option maxRecDepth 65536 in
set_option maxHeartbeats 40000000 in
theorem c1_3 (l : Launch) (Z : State) (a0 : Array Value) (hw : ∀ d ∈ tables_1, d.before a0 Z = true) (ws : List Jvm.Cond) (w_IN_ORDER : Addr) (c_w_IN_ORDER : Cell) (w_INTERVAL_1 : Addr) (w_INTERVAL_4 : Addr) (w_INTERVAL_2 : Addr) (w_INTERVAL_5 : Addr) (w_INTERVAL_3 : Addr) (h0 : Heap) (n0 : Nat) (Z0 : n0 ≤ h0.size) (G : Glob Z h0 w_IN_ORDER c_w_IN_ORDER w_INTERVAL_1 w_INTERVAL_4 w_INTERVAL_2 w_INTERVAL_5 w_INTERVAL_3)  :
    MetFree l (⟨"com/example/gasreckon/gasreckon/model/SchedulingInterval", "of", "(I)Lcom/example/gasreckon/gasreckon/model/SchedulingInterval;"⟩ : MethodName) (head1 (Jvm.Cond.code (⟨"com/example/gasreckon/gasreckon/model/SchedulingInterval", "of", "(I)Lcom/example/gasreckon/gasreckon/model/SchedulingInterval;"⟩ : MethodName) prog_42_method_4_code 1 (some (.object "com/example/gasreckon/gasreckon/model/SchedulingInterval")) :: ws) ({ frames := 0, cells := 0, slots := 0, locals := 0 } : Room)) (fun a U => a = #[(.int (4 : Int32))] ∧ Z.Warmed39 U.vm ∧ U.heap = h0) (fun _ _ _ _ _ => True) (fun _ U o U' => ∃ v L, o = .returned v ∧ QR (some (.ref w_INTERVAL_4)) h0 n0 v U'.heap L ∧ FrameEnd U o U' L ({ frames := 0, cells := 0, slots := 0, locals := 0 } : Room).cells ({ frames := 0, cells := 0, slots := 0, locals := 0 } : Room).slots) := by
  refine MetFree.of_bodySF (plainFor_of_name pn_com_example_gasreckon_gasreckon_model_SchedulingInterval) hisR ?_
  intro p e s m args below meth c s₁ Bd hml0 hP hK
  obtain ⟨rfl, hZ, hh⟩ := hP
  have hx := Bd.exec
  have hby := Bd.bytes
  have hml : c.maxLocals = 1 := hml0
  have hown : s.vm.findClass "com/example/gasreckon/gasreckon/model/SchedulingInterval" = some m.cls := findClass_of_methodNamed Bd.named
  have X0 : Stand p l e ({ frames := 0, cells := 0, slots := 0, locals := 0 } : Room) s m #[(.int (4 : Int32))] below meth c s₁ [] 0 0 := Stand.of_body Bd
  have e0 : s₁.heap = h0 := by rw [← hh, Bd.state]; rfl
  have N0 := Fr.nil n0
  have pre0 : ∀ t, Steps p.tables e below (s₁.setTop (mkF m 0 #[.val (.int (4 : Int32))] [])) t → Steps p.tables e below (s₁.setTop (entryFrame m #[(.int (4 : Int32))] 1)) t := fun t k => castTop (ef_1_I m (4 : Int32)) k
  have G' := G
  obtain ⟨S_w_IN_ORDER, A_w_IN_ORDER, L_w_IN_ORDER, S_w_INTERVAL_1, E_w_INTERVAL_1, M_w_IN_ORDER_0, F_ordinal_w_INTERVAL_1, F_firstHour_w_INTERVAL_1, S_w_INTERVAL_4, E_w_INTERVAL_4, M_w_IN_ORDER_3, F_ordinal_w_INTERVAL_4, F_firstHour_w_INTERVAL_4, S_w_INTERVAL_2, E_w_INTERVAL_2, M_w_IN_ORDER_1, F_ordinal_w_INTERVAL_2, F_firstHour_w_INTERVAL_2, S_w_INTERVAL_5, E_w_INTERVAL_5, M_w_IN_ORDER_4, F_ordinal_w_INTERVAL_5, F_firstHour_w_INTERVAL_5, S_w_INTERVAL_3, E_w_INTERVAL_3, M_w_IN_ORDER_2, F_ordinal_w_INTERVAL_3, F_firstHour_w_INTERVAL_3⟩ := G'
  obtain ⟨T1, X1, e1, st1⟩ := getS2 X0 hx hZ hown (host := "") (Or.inl (hw _ (List.mem_of_getElem? (i := 5) rfl))) Via.refl e0 S_w_IN_ORDER (g := (mkF m 6 #[.val (.int (4 : Int32))] [(.int (4 : Int32))])) rfl (hb hby d1_6)
  obtain ⟨T2, X2, e2, st2⟩ := getS2 X1 hx hZ hown (host := "") (Or.inl (hw _ (List.mem_of_getElem? (i := 5) rfl))) Via.refl e1 S_w_IN_ORDER (g := (mkF m 27 #[.val (.int (4 : Int32))] [])) rfl (hb hby d1_27)
  obtain ⟨fs, hr, hrun, hended, hW, hsame⟩ := X2.leave (v := some (.ref w_INTERVAL_4)) (fun h => by rw [Bd.returns] at h; cases h)
  refine ⟨_, _, pre0 _ ?_, hrun, hended, _, _, rfl, ?_, ⟨_, rfl⟩, hW, hsame.mono (by decide) (by decide)⟩
  · show Steps p.tables e below (s₁.setTop (mkF m 0 #[.val (.int (4 : Int32))] [])) _
    refine XS.iloadN X0.here hx rfl (hb hby d1_0) rfl ?_
    show Steps p.tables e below (s₁.setTop (mkF m 1 #[.val (.int (4 : Int32))] [(.int (4 : Int32))])) _
    refine XS.iconst X0.here hx rfl (hb hby d1_1) ?_
    show Steps p.tables e below (s₁.setTop (mkF m 2 #[.val (.int (4 : Int32))] [(.int (1 : Int32)), (.int (4 : Int32))])) _
    refine XS.icmpNo X0.here hx rfl (hb hby d1_2) rfl (flt (by decide : ¬ ((4 : Int32) < (1 : Int32)))).1 ?_
    show Steps p.tables e below (s₁.setTop (mkF m 5 #[.val (.int (4 : Int32))] [])) _
    refine XS.iloadN X0.here hx rfl (hb hby d1_5) rfl ?_
    show Steps p.tables e below (s₁.setTop (mkF m 6 #[.val (.int (4 : Int32))] [(.int (4 : Int32))])) _
    refine st1 _ ?_
    show Steps p.tables e below (T1.setTop (mkF m 9 #[.val (.int (4 : Int32))] [(.ref w_IN_ORDER), (.int (4 : Int32))])) _
    refine X1.arraylength hx (by rw [e1]; exact A_w_IN_ORDER.1) (State.isArrayOf_alike hZ.alike A_w_IN_ORDER.2.1) (g := (mkF m 9 #[.val (.int (4 : Int32))] [(.ref w_IN_ORDER), (.int (4 : Int32))])) rfl rfl (hb hby d1_9) _ ?_
    rw [L_w_IN_ORDER]
    show Steps p.tables e below (T1.setTop (mkF m 10 #[.val (.int (4 : Int32))] [(.int (5 : Int32)), (.int (4 : Int32))])) _
    refine XS.icmpYes X1.here hx rfl (pc0 := 10) (pc' := 27) rfl (hb hby d1_10) rfl (flt (by decide : ¬ ((5 : Int32) < (4 : Int32)))).2.2.2 (by decide) (by decide) ?_
    show Steps p.tables e below (T1.setTop (mkF m 27 #[.val (.int (4 : Int32))] [])) _
    refine st2 _ ?_
    show Steps p.tables e below (T2.setTop (mkF m 30 #[.val (.int (4 : Int32))] [(.ref w_IN_ORDER)])) _
    refine XS.iloadN X2.here hx rfl (hb hby d1_30) rfl ?_
    show Steps p.tables e below (T2.setTop (mkF m 31 #[.val (.int (4 : Int32))] [(.int (4 : Int32)), (.ref w_IN_ORDER)])) _
    refine XS.iconst X2.here hx rfl (hb hby d1_31) ?_
    show Steps p.tables e below (T2.setTop (mkF m 32 #[.val (.int (4 : Int32))] [(.int (1 : Int32)), (.int (4 : Int32)), (.ref w_IN_ORDER)])) _
    refine XS.isub X2.here hx rfl (hb hby d1_32) rfl ?_
    show Steps p.tables e below (T2.setTop (mkF m 33 #[.val (.int (4 : Int32))] [(.int ((4 : Int32) - (1 : Int32))), (.ref w_IN_ORDER)])) _
    rw [(show ((4 : Int32) - (1 : Int32)) = (3 : Int32) from by decide)]
    show Steps p.tables e below (T2.setTop (mkF m 33 #[.val (.int (4 : Int32))] [(.int (3 : Int32)), (.ref w_IN_ORDER)])) _
    refine X2.aaload hx (j := (3 : Int32)) (v := (.ref w_INTERVAL_4)) (by rw [e2]; exact A_w_IN_ORDER.1) (State.isArrayOf_alike hZ.alike A_w_IN_ORDER.2.1) rfl A_w_IN_ORDER.2.2 (by rw [L_w_IN_ORDER]; decide) M_w_IN_ORDER_3 (g := (mkF m 33 #[.val (.int (4 : Int32))] [(.int (3 : Int32)), (.ref w_IN_ORDER)])) rfl rfl (hb hby d1_33) _ ?_
    show Steps p.tables e below (T2.setTop (mkF m 34 #[.val (.int (4 : Int32))] [(.ref w_INTERVAL_4)])) _
    exact retOut X2 hx Bd.returns rfl (Or.inr (Or.inr (Or.inr (Or.inr ⟨rfl, rfl, rfl⟩)))) (hb hby d1_34) hr
  · show QR _ h0 n0 _ T2.heap _
    rw [e2]
    exact ⟨rfl, N0, rfl⟩
theorem d2_27 : decode method_2_code 27 = .ok (.iload_n 0, 1) := by decide +kernel
theorem d2_28 : decode method_2_code 28 = .ok (.iconst 4, 1) := by decide +kernel
theorem d2_29 : decode method_2_code 29 = .ok (.if_icmp .ne 7, 3) := by decide +kernel
theorem d2_32 : decode method_2_code 32 = .ok (.getstatic 19, 3) := by decide +kernel
theorem d2_35 : decode method_2_code 35 = .ok (.areturn, 1) := by decide +kernel
set_option maxRecDepth 65536 in
set_option maxHeartbeats 40000000 in
theorem c2_3 (l : Launch) (Z : State) (a0 : Array Value) (hw : ∀ d ∈ tables_1, d.before a0 Z = true) (ws : List Jvm.Cond) (w_IN_ORDER : Addr) (c_w_IN_ORDER : Cell) (w_INTERVAL_1 : Addr) (w_INTERVAL_4 : Addr) (w_INTERVAL_2 : Addr) (w_INTERVAL_5 : Addr) (w_INTERVAL_3 : Addr) (h0 : Heap) (n0 : Nat) (Z0 : n0 ≤ h0.size) (G : Glob Z h0 w_IN_ORDER c_w_IN_ORDER w_INTERVAL_1 w_INTERVAL_4 w_INTERVAL_2 w_INTERVAL_5 w_INTERVAL_3)  :
    MetFree l (⟨"com/example/gasreckon/gasreckon/model/SchedulingIntervalOfPinLaw", "expected", "(I)Lcom/example/gasreckon/gasreckon/model/SchedulingInterval;"⟩ : MethodName) (head1 (Jvm.Cond.code (⟨"com/example/gasreckon/gasreckon/model/SchedulingIntervalOfPinLaw", "expected", "(I)Lcom/example/gasreckon/gasreckon/model/SchedulingInterval;"⟩ : MethodName) method_2_code 1 (some (.object "com/example/gasreckon/gasreckon/model/SchedulingInterval")) :: ws) ({ frames := 0, cells := 0, slots := 0, locals := 0 } : Room)) (fun a U => a = #[(.int (4 : Int32))] ∧ Z.Warmed39 U.vm ∧ U.heap = h0) (fun _ _ _ _ _ => True) (fun _ U o U' => ∃ v L, o = .returned v ∧ QR (some (.ref w_INTERVAL_4)) h0 n0 v U'.heap L ∧ FrameEnd U o U' L ({ frames := 0, cells := 0, slots := 0, locals := 0 } : Room).cells ({ frames := 0, cells := 0, slots := 0, locals := 0 } : Room).slots) := by
  refine MetFree.of_bodySF (plainFor_of_name pn_com_example_gasreckon_gasreckon_model_SchedulingIntervalOfPinLaw) hisR ?_
  intro p e s m args below meth c s₁ Bd hml0 hP hK
  obtain ⟨rfl, hZ, hh⟩ := hP
  have hx := Bd.exec
  have hby := Bd.bytes
  have hml : c.maxLocals = 1 := hml0
  have hown : s.vm.findClass "com/example/gasreckon/gasreckon/model/SchedulingIntervalOfPinLaw" = some m.cls := findClass_of_methodNamed Bd.named
  have X0 : Stand p l e ({ frames := 0, cells := 0, slots := 0, locals := 0 } : Room) s m #[(.int (4 : Int32))] below meth c s₁ [] 0 0 := Stand.of_body Bd
  have e0 : s₁.heap = h0 := by rw [← hh, Bd.state]; rfl
  have N0 := Fr.nil n0
  have pre0 : ∀ t, Steps p.tables e below (s₁.setTop (mkF m 0 #[.val (.int (4 : Int32))] [])) t → Steps p.tables e below (s₁.setTop (entryFrame m #[(.int (4 : Int32))] 1)) t := fun t k => castTop (ef_2_I m (4 : Int32)) k
  have G' := G
  obtain ⟨S_w_IN_ORDER, A_w_IN_ORDER, L_w_IN_ORDER, S_w_INTERVAL_1, E_w_INTERVAL_1, M_w_IN_ORDER_0, F_ordinal_w_INTERVAL_1, F_firstHour_w_INTERVAL_1, S_w_INTERVAL_4, E_w_INTERVAL_4, M_w_IN_ORDER_3, F_ordinal_w_INTERVAL_4, F_firstHour_w_INTERVAL_4, S_w_INTERVAL_2, E_w_INTERVAL_2, M_w_IN_ORDER_1, F_ordinal_w_INTERVAL_2, F_firstHour_w_INTERVAL_2, S_w_INTERVAL_5, E_w_INTERVAL_5, M_w_IN_ORDER_4, F_ordinal_w_INTERVAL_5, F_firstHour_w_INTERVAL_5, S_w_INTERVAL_3, E_w_INTERVAL_3, M_w_IN_ORDER_2, F_ordinal_w_INTERVAL_3, F_firstHour_w_INTERVAL_3⟩ := G'
  obtain ⟨T1, X1, e1, st1⟩ := getS2 X0 hx hZ hown (host := "") (Or.inl (hw _ (List.mem_of_getElem? (i := 35) rfl))) Via.refl e0 S_w_INTERVAL_4 (g := (mkF m 32 #[.val (.int (4 : Int32))] [])) rfl (hb hby d2_32)
  obtain ⟨fs, hr, hrun, hended, hW, hsame⟩ := X1.leave (v := some (.ref w_INTERVAL_4)) (fun h => by rw [Bd.returns] at h; cases h)
  refine ⟨_, _, pre0 _ ?_, hrun, hended, _, _, rfl, ?_, ⟨_, rfl⟩, hW, hsame.mono (by decide) (by decide)⟩
  · show Steps p.tables e below (s₁.setTop (mkF m 0 #[.val (.int (4 : Int32))] [])) _
    refine XS.iloadN X0.here hx rfl (hb hby d2_0) rfl ?_
    show Steps p.tables e below (s₁.setTop (mkF m 1 #[.val (.int (4 : Int32))] [(.int (4 : Int32))])) _
    refine XS.iconst X0.here hx rfl (hb hby d2_1) ?_
    show Steps p.tables e below (s₁.setTop (mkF m 2 #[.val (.int (4 : Int32))] [(.int (1 : Int32)), (.int (4 : Int32))])) _
    refine XS.icmpYes X0.here hx rfl (pc0 := 2) (pc' := 9) rfl (hb hby d2_2) rfl (feq (by decide : ¬ ((4 : Int32) = (1 : Int32)))).2 (by decide) (by decide) ?_
    show Steps p.tables e below (s₁.setTop (mkF m 9 #[.val (.int (4 : Int32))] [])) _
    refine XS.iloadN X0.here hx rfl (hb hby d2_9) rfl ?_
    show Steps p.tables e below (s₁.setTop (mkF m 10 #[.val (.int (4 : Int32))] [(.int (4 : Int32))])) _
    refine XS.iconst X0.here hx rfl (hb hby d2_10) ?_
    show Steps p.tables e below (s₁.setTop (mkF m 11 #[.val (.int (4 : Int32))] [(.int (2 : Int32)), (.int (4 : Int32))])) _
    refine XS.icmpYes X0.here hx rfl (pc0 := 11) (pc' := 18) rfl (hb hby d2_11) rfl (feq (by decide : ¬ ((4 : Int32) = (2 : Int32)))).2 (by decide) (by decide) ?_
    show Steps p.tables e below (s₁.setTop (mkF m 18 #[.val (.int (4 : Int32))] [])) _
    refine XS.iloadN X0.here hx rfl (hb hby d2_18) rfl ?_
    show Steps p.tables e below (s₁.setTop (mkF m 19 #[.val (.int (4 : Int32))] [(.int (4 : Int32))])) _
    refine XS.iconst X0.here hx rfl (hb hby d2_19) ?_
    show Steps p.tables e below (s₁.setTop (mkF m 20 #[.val (.int (4 : Int32))] [(.int (3 : Int32)), (.int (4 : Int32))])) _
    refine XS.icmpYes X0.here hx rfl (pc0 := 20) (pc' := 27) rfl (hb hby d2_20) rfl (feq (by decide : ¬ ((4 : Int32) = (3 : Int32)))).2 (by decide) (by decide) ?_
    show Steps p.tables e below (s₁.setTop (mkF m 27 #[.val (.int (4 : Int32))] [])) _
    refine XS.iloadN X0.here hx rfl (hb hby d2_27) rfl ?_
    show Steps p.tables e below (s₁.setTop (mkF m 28 #[.val (.int (4 : Int32))] [(.int (4 : Int32))])) _
    refine XS.iconst X0.here hx rfl (hb hby d2_28) ?_
    show Steps p.tables e below (s₁.setTop (mkF m 29 #[.val (.int (4 : Int32))] [(.int (4 : Int32)), (.int (4 : Int32))])) _
    refine XS.icmpNo X0.here hx rfl (hb hby d2_29) rfl (teq (by decide : (4 : Int32) = (4 : Int32))).2 ?_
    show Steps p.tables e below (s₁.setTop (mkF m 32 #[.val (.int (4 : Int32))] [])) _
    refine st1 _ ?_
    show Steps p.tables e below (T1.setTop (mkF m 35 #[.val (.int (4 : Int32))] [(.ref w_INTERVAL_4)])) _
    exact retOut X1 hx Bd.returns rfl (Or.inr (Or.inr (Or.inr (Or.inr ⟨rfl, rfl, rfl⟩)))) (hb hby d2_35) hr
  · show QR _ h0 n0 _ T1.heap _
    rw [e1]
    exact ⟨rfl, N0, rfl⟩
set_option maxRecDepth 65536 in
set_option maxHeartbeats 40000000 in
theorem c4_3 (l : Launch) (Z : State) (a0 : Array Value) (hw : ∀ d ∈ tables_1, d.before a0 Z = true) (ws : List Jvm.Cond) (w_IN_ORDER : Addr) (c_w_IN_ORDER : Cell) (w_INTERVAL_1 : Addr) (w_INTERVAL_4 : Addr) (w_INTERVAL_2 : Addr) (w_INTERVAL_5 : Addr) (w_INTERVAL_3 : Addr) (h0 : Heap) (n0 : Nat) (Z0 : n0 ≤ h0.size) (G : Glob Z h0 w_IN_ORDER c_w_IN_ORDER w_INTERVAL_1 w_INTERVAL_4 w_INTERVAL_2 w_INTERVAL_5 w_INTERVAL_3)  :
    MetFree l (⟨"java/lang/Enum", "ordinal", "()I"⟩ : MethodName) (head1 (Jvm.Cond.code (⟨"java/lang/Enum", "ordinal", "()I"⟩ : MethodName) jdk_37_method_2_code 1 (some .int) :: ws) ({ frames := 0, cells := 0, slots := 0, locals := 0 } : Room)) (fun a U => a = #[(.ref w_INTERVAL_4)] ∧ Z.Warmed39 U.vm ∧ U.heap = h0) (fun _ _ _ _ _ => True) (fun _ U o U' => ∃ v L, o = .returned v ∧ QR (some (.int (3 : Int32))) h0 n0 v U'.heap L ∧ FrameEnd U o U' L ({ frames := 0, cells := 0, slots := 0, locals := 0 } : Room).cells ({ frames := 0, cells := 0, slots := 0, locals := 0 } : Room).slots) := by
  refine MetFree.of_bodySF (plainFor_of_name pn_java_lang_Enum) hisR ?_
  intro p e s m args below meth c s₁ Bd hml0 hP hK
  obtain ⟨rfl, hZ, hh⟩ := hP
  have hx := Bd.exec
  have hby := Bd.bytes
  have hml : c.maxLocals = 1 := hml0
  have hown : s.vm.findClass "java/lang/Enum" = some m.cls := findClass_of_methodNamed Bd.named
  have X0 : Stand p l e ({ frames := 0, cells := 0, slots := 0, locals := 0 } : Room) s m #[(.ref w_INTERVAL_4)] below meth c s₁ [] 0 0 := Stand.of_body Bd
  have e0 : s₁.heap = h0 := by rw [← hh, Bd.state]; rfl
  have N0 := Fr.nil n0
  have pre0 : ∀ t, Steps p.tables e below (s₁.setTop (mkF m 0 #[.val (.ref w_INTERVAL_4)] [])) t → Steps p.tables e below (s₁.setTop (entryFrame m #[(.ref w_INTERVAL_4)] 1)) t := fun t k => castTop (ef_4_R m w_INTERVAL_4) k
  have G' := G
  obtain ⟨S_w_IN_ORDER, A_w_IN_ORDER, L_w_IN_ORDER, S_w_INTERVAL_1, E_w_INTERVAL_1, M_w_IN_ORDER_0, F_ordinal_w_INTERVAL_1, F_firstHour_w_INTERVAL_1, S_w_INTERVAL_4, E_w_INTERVAL_4, M_w_IN_ORDER_3, F_ordinal_w_INTERVAL_4, F_firstHour_w_INTERVAL_4, S_w_INTERVAL_2, E_w_INTERVAL_2, M_w_IN_ORDER_1, F_ordinal_w_INTERVAL_2, F_firstHour_w_INTERVAL_2, S_w_INTERVAL_5, E_w_INTERVAL_5, M_w_IN_ORDER_4, F_ordinal_w_INTERVAL_5, F_firstHour_w_INTERVAL_5, S_w_INTERVAL_3, E_w_INTERVAL_3, M_w_IN_ORDER_2, F_ordinal_w_INTERVAL_3, F_firstHour_w_INTERVAL_3⟩ := G'
  obtain ⟨T1, X1, e1, st1⟩ := getF X0 hx hZ hown (host := "") (Or.inl (hw _ (List.mem_of_getElem? (i := 25) rfl))) Via.refl e0 F_ordinal_w_INTERVAL_4 (g := (mkF m 1 #[.val (.ref w_INTERVAL_4)] [(.ref w_INTERVAL_4)])) rfl rfl (hb hby d4_1)
  obtain ⟨fs, hr, hrun, hended, hW, hsame⟩ := X1.leave (v := some (.int (3 : Int32))) (fun h => by rw [Bd.returns] at h; cases h)
  refine ⟨_, _, pre0 _ ?_, hrun, hended, _, _, rfl, ?_, ⟨_, rfl⟩, hW, hsame.mono (by decide) (by decide)⟩
  · show Steps p.tables e below (s₁.setTop (mkF m 0 #[.val (.ref w_INTERVAL_4)] [])) _
    refine XS.aloadN X0.here hx rfl (hb hby d4_0) rfl rfl ?_
    show Steps p.tables e below (s₁.setTop (mkF m 1 #[.val (.ref w_INTERVAL_4)] [(.ref w_INTERVAL_4)])) _
    refine st1 _ ?_
    show Steps p.tables e below (T1.setTop (mkF m 4 #[.val (.ref w_INTERVAL_4)] [(.int (3 : Int32))])) _
    exact retOut X1 hx Bd.returns rfl (Or.inl ⟨rfl, Or.inl rfl, _, rfl⟩) (hb hby d4_4) hr
  · show QR _ h0 n0 _ T1.heap _
    rw [e1]
    exact ⟨rfl, N0, rfl⟩
set_option maxRecDepth 65536 in
set_option maxHeartbeats 40000000 in
theorem c3_3 (l : Launch) (Z : State) (a0 : Array Value) (hw : ∀ d ∈ tables_1, d.before a0 Z = true) (ws : List Jvm.Cond) (w_IN_ORDER : Addr) (c_w_IN_ORDER : Cell) (w_INTERVAL_1 : Addr) (w_INTERVAL_4 : Addr) (w_INTERVAL_2 : Addr) (w_INTERVAL_5 : Addr) (w_INTERVAL_3 : Addr) (h0 : Heap) (n0 : Nat) (Z0 : n0 ≤ h0.size) (G : Glob Z h0 w_IN_ORDER c_w_IN_ORDER w_INTERVAL_1 w_INTERVAL_4 w_INTERVAL_2 w_INTERVAL_5 w_INTERVAL_3)  :
    MetFree l (⟨"com/example/gasreckon/gasreckon/model/SchedulingInterval", "number", "()I"⟩ : MethodName) (head1 (Jvm.Cond.code (⟨"com/example/gasreckon/gasreckon/model/SchedulingInterval", "number", "()I"⟩ : MethodName) prog_42_method_11_code 1 (some .int) :: ws) ({ frames := 1, cells := 0, slots := 0, locals := 12 } : Room)) (fun a U => a = #[(.ref w_INTERVAL_4)] ∧ Z.Warmed39 U.vm ∧ U.heap = h0) (fun _ _ _ _ _ => True) (fun _ U o U' => ∃ v L, o = .returned v ∧ QR (some (.int (4 : Int32))) h0 n0 v U'.heap L ∧ FrameEnd U o U' L ({ frames := 1, cells := 0, slots := 0, locals := 12 } : Room).cells ({ frames := 1, cells := 0, slots := 0, locals := 12 } : Room).slots) := by
  refine MetFree.of_bodySF (plainFor_of_name pn_com_example_gasreckon_gasreckon_model_SchedulingInterval) hisR ?_
  intro p e s m args below meth c s₁ Bd hml0 hP hK
  obtain ⟨rfl, hZ, hh⟩ := hP
  have hx := Bd.exec
  have hby := Bd.bytes
  have hml : c.maxLocals = 1 := hml0
  have hown : s.vm.findClass "com/example/gasreckon/gasreckon/model/SchedulingInterval" = some m.cls := findClass_of_methodNamed Bd.named
  have X0 : Stand p l e ({ frames := 1, cells := 0, slots := 0, locals := 12 } : Room) s m #[(.ref w_INTERVAL_4)] below meth c s₁ [] 0 0 := Stand.of_body Bd
  have e0 : s₁.heap = h0 := by rw [← hh, Bd.state]; rfl
  have N0 := Fr.nil n0
  have pre0 : ∀ t, Steps p.tables e below (s₁.setTop (mkF m 0 #[.val (.ref w_INTERVAL_4)] [])) t → Steps p.tables e below (s₁.setTop (entryFrame m #[(.ref w_INTERVAL_4)] 1)) t := fun t k => castTop (ef_3_R m w_INTERVAL_4) k
  have G' := G
  obtain ⟨S_w_IN_ORDER, A_w_IN_ORDER, L_w_IN_ORDER, S_w_INTERVAL_1, E_w_INTERVAL_1, M_w_IN_ORDER_0, F_ordinal_w_INTERVAL_1, F_firstHour_w_INTERVAL_1, S_w_INTERVAL_4, E_w_INTERVAL_4, M_w_IN_ORDER_3, F_ordinal_w_INTERVAL_4, F_firstHour_w_INTERVAL_4, S_w_INTERVAL_2, E_w_INTERVAL_2, M_w_IN_ORDER_1, F_ordinal_w_INTERVAL_2, F_firstHour_w_INTERVAL_2, S_w_INTERVAL_5, E_w_INTERVAL_5, M_w_IN_ORDER_4, F_ordinal_w_INTERVAL_5, F_firstHour_w_INTERVAL_5, S_w_INTERVAL_3, E_w_INTERVAL_3, M_w_IN_ORDER_2, F_ordinal_w_INTERVAL_3, F_firstHour_w_INTERVAL_3⟩ := G'
  obtain ⟨cq1, kq1, q1a, q1b, q1c⟩ := isOf hZ e0 E_w_INTERVAL_4
  obtain ⟨_, _, ⟨T1, L1, k1, n1⟩, -, X1, ⟨Lc1, hQ1, l1, y1, z1⟩, st1⟩ := X0.virtualBackUp hx (x := (⟨"com/example/gasreckon/gasreckon/model/SchedulingInterval", "ordinal", "()I"⟩ : MethodName)) (y := (⟨"java/lang/Enum", "ordinal", "()I"⟩ : MethodName)) hown (mvT hZ (hw _ (List.mem_of_getElem? (i := 18) rfl))) (mvT hZ (hw _ (List.mem_of_getElem? (i := 19) rfl))) (mvT hZ (hw _ (List.mem_of_getElem? (i := 20) rfl))) (by decide) (mvT hZ (hw _ (List.mem_of_getElem? (i := 22) rfl))) (mvT hZ (hw _ (List.mem_of_getElem? (i := 21) rfl))) (backOf (W := 0) (c4_3 l Z a0 hw [] w_IN_ORDER c_w_IN_ORDER w_INTERVAL_1 w_INTERVAL_4 w_INTERVAL_2 w_INTERVAL_5 w_INTERVAL_3 h0 n0 Z0 G) hZ (hw _ (List.mem_of_getElem? (i := 24) rfl)) (hw _ (List.mem_of_getElem? (i := 23) rfl)) (by decide) (by decide)) q1a q1c (g := (mkF m 1 #[.val (.ref w_INTERVAL_4)] [(.ref w_INTERVAL_4)])) rfl (by rw [hml]; rfl) (Steps.refl _) (argsL := []) (rest := []) (lenOf pd___I rfl) rfl (by show 2 * 0 + _ ≤ _; exact Nat.le_of_eq rfl) (hb hby d3_1) (fun _ _ => ⟨rfl, e0, (by decide : 0 + 0 ≤ _), (by decide : 0 + 0 ≤ _)⟩)
  dsimp only [Pt.U, Pt.locs, Pt.cells, Pt.slots] at X1 l1 y1 z1 st1 hQ1
  subst l1 y1 z1
  obtain ⟨rfl, N1q, e1⟩ := hQ1
  have N1 := Fr.app N0 N1q
  obtain ⟨fs, hr, hrun, hended, hW, hsame⟩ := X1.leave (v := some (.int (4 : Int32))) (fun h => by rw [Bd.returns] at h; cases h)
  refine ⟨_, _, pre0 _ ?_, hrun, hended, _, _, rfl, ?_, ⟨_, rfl⟩, hW, hsame.mono (by decide) (by decide)⟩
  · show Steps p.tables e below (s₁.setTop (mkF m 0 #[.val (.ref w_INTERVAL_4)] [])) _
    refine XS.aloadN X0.here hx rfl (hb hby d3_0) rfl rfl ?_
    show Steps p.tables e below (s₁.setTop (mkF m 1 #[.val (.ref w_INTERVAL_4)] [(.ref w_INTERVAL_4)])) _
    refine st1.trans ?_
    show Steps p.tables e below (T1.setTop (mkF m 4 #[.val (.ref w_INTERVAL_4)] [(.int (3 : Int32))])) _
    refine XS.iconst X1.here hx rfl (hb hby d3_4) ?_
    show Steps p.tables e below (T1.setTop (mkF m 5 #[.val (.ref w_INTERVAL_4)] [(.int (1 : Int32)), (.int (3 : Int32))])) _
    refine XS.iadd X1.here hx rfl (hb hby d3_5) rfl ?_
    show Steps p.tables e below (T1.setTop (mkF m 6 #[.val (.ref w_INTERVAL_4)] [(.int ((3 : Int32) + (1 : Int32)))])) _
    rw [(show ((3 : Int32) + (1 : Int32)) = (4 : Int32) from by decide)]
    show Steps p.tables e below (T1.setTop (mkF m 6 #[.val (.ref w_INTERVAL_4)] [(.int (4 : Int32))])) _
    exact retOut X1 hx Bd.returns rfl (Or.inl ⟨rfl, Or.inl rfl, _, rfl⟩) (hb hby d3_6) hr
  · show QR _ h0 n0 _ T1.heap _
    rw [e1]
    exact ⟨rfl, N1, rfl⟩
set_option maxRecDepth 65536 in
set_option maxHeartbeats 40000000 in
theorem c5_3 (l : Launch) (Z : State) (a0 : Array Value) (hw : ∀ d ∈ tables_1, d.before a0 Z = true) (ws : List Jvm.Cond) (w_IN_ORDER : Addr) (c_w_IN_ORDER : Cell) (w_INTERVAL_1 : Addr) (w_INTERVAL_4 : Addr) (w_INTERVAL_2 : Addr) (w_INTERVAL_5 : Addr) (w_INTERVAL_3 : Addr) (h0 : Heap) (n0 : Nat) (Z0 : n0 ≤ h0.size) (G : Glob Z h0 w_IN_ORDER c_w_IN_ORDER w_INTERVAL_1 w_INTERVAL_4 w_INTERVAL_2 w_INTERVAL_5 w_INTERVAL_3)  :
    MetFree l (⟨"com/example/gasreckon/gasreckon/model/SchedulingInterval", "firstHour", "()I"⟩ : MethodName) (head1 (Jvm.Cond.code (⟨"com/example/gasreckon/gasreckon/model/SchedulingInterval", "firstHour", "()I"⟩ : MethodName) prog_42_method_14_code 1 (some .int) :: ws) ({ frames := 0, cells := 0, slots := 0, locals := 0 } : Room)) (fun a U => a = #[(.ref w_INTERVAL_4)] ∧ Z.Warmed39 U.vm ∧ U.heap = h0) (fun _ _ _ _ _ => True) (fun _ U o U' => ∃ v L, o = .returned v ∧ QR (some (.int (13 : Int32))) h0 n0 v U'.heap L ∧ FrameEnd U o U' L ({ frames := 0, cells := 0, slots := 0, locals := 0 } : Room).cells ({ frames := 0, cells := 0, slots := 0, locals := 0 } : Room).slots) := by
  refine MetFree.of_bodySF (plainFor_of_name pn_com_example_gasreckon_gasreckon_model_SchedulingInterval) hisR ?_
  intro p e s m args below meth c s₁ Bd hml0 hP hK
  obtain ⟨rfl, hZ, hh⟩ := hP
  have hx := Bd.exec
  have hby := Bd.bytes
  have hml : c.maxLocals = 1 := hml0
  have hown : s.vm.findClass "com/example/gasreckon/gasreckon/model/SchedulingInterval" = some m.cls := findClass_of_methodNamed Bd.named
  have X0 : Stand p l e ({ frames := 0, cells := 0, slots := 0, locals := 0 } : Room) s m #[(.ref w_INTERVAL_4)] below meth c s₁ [] 0 0 := Stand.of_body Bd
  have e0 : s₁.heap = h0 := by rw [← hh, Bd.state]; rfl
  have N0 := Fr.nil n0
  have pre0 : ∀ t, Steps p.tables e below (s₁.setTop (mkF m 0 #[.val (.ref w_INTERVAL_4)] [])) t → Steps p.tables e below (s₁.setTop (entryFrame m #[(.ref w_INTERVAL_4)] 1)) t := fun t k => castTop (ef_5_R m w_INTERVAL_4) k
  have G' := G
  obtain ⟨S_w_IN_ORDER, A_w_IN_ORDER, L_w_IN_ORDER, S_w_INTERVAL_1, E_w_INTERVAL_1, M_w_IN_ORDER_0, F_ordinal_w_INTERVAL_1, F_firstHour_w_INTERVAL_1, S_w_INTERVAL_4, E_w_INTERVAL_4, M_w_IN_ORDER_3, F_ordinal_w_INTERVAL_4, F_firstHour_w_INTERVAL_4, S_w_INTERVAL_2, E_w_INTERVAL_2, M_w_IN_ORDER_1, F_ordinal_w_INTERVAL_2, F_firstHour_w_INTERVAL_2, S_w_INTERVAL_5, E_w_INTERVAL_5, M_w_IN_ORDER_4, F_ordinal_w_INTERVAL_5, F_firstHour_w_INTERVAL_5, S_w_INTERVAL_3, E_w_INTERVAL_3, M_w_IN_ORDER_2, F_ordinal_w_INTERVAL_3, F_firstHour_w_INTERVAL_3⟩ := G'
  obtain ⟨T1, X1, e1, st1⟩ := getF X0 hx hZ hown (host := "") (Or.inl (hw _ (List.mem_of_getElem? (i := 32) rfl))) Via.refl e0 F_firstHour_w_INTERVAL_4 (g := (mkF m 1 #[.val (.ref w_INTERVAL_4)] [(.ref w_INTERVAL_4)])) rfl rfl (hb hby d5_1)
  obtain ⟨fs, hr, hrun, hended, hW, hsame⟩ := X1.leave (v := some (.int (13 : Int32))) (fun h => by rw [Bd.returns] at h; cases h)
  refine ⟨_, _, pre0 _ ?_, hrun, hended, _, _, rfl, ?_, ⟨_, rfl⟩, hW, hsame.mono (by decide) (by decide)⟩
  · show Steps p.tables e below (s₁.setTop (mkF m 0 #[.val (.ref w_INTERVAL_4)] [])) _
    refine XS.aloadN X0.here hx rfl (hb hby d5_0) rfl rfl ?_
    show Steps p.tables e below (s₁.setTop (mkF m 1 #[.val (.ref w_INTERVAL_4)] [(.ref w_INTERVAL_4)])) _
    refine st1 _ ?_
    show Steps p.tables e below (T1.setTop (mkF m 4 #[.val (.ref w_INTERVAL_4)] [(.int (13 : Int32))])) _
    exact retOut X1 hx Bd.returns rfl (Or.inl ⟨rfl, Or.inl rfl, _, rfl⟩) (hb hby d5_4) hr
  · show QR _ h0 n0 _ T1.heap _
    rw [e1]
    exact ⟨rfl, N0, rfl⟩
set_option maxRecDepth 65536 in
set_option maxHeartbeats 40000000 in
theorem law_3 (l : Launch) (Z : State) (a0 : Array Value) (hw : ∀ d ∈ tables_1, d.before a0 Z = true) (ws : List Jvm.Cond) (w_IN_ORDER : Addr) (c_w_IN_ORDER : Cell) (w_INTERVAL_1 : Addr) (w_INTERVAL_4 : Addr) (w_INTERVAL_2 : Addr) (w_INTERVAL_5 : Addr) (w_INTERVAL_3 : Addr) (h0 : Heap) (n0 : Nat) (Z0 : n0 ≤ h0.size) (G : Glob Z h0 w_IN_ORDER c_w_IN_ORDER w_INTERVAL_1 w_INTERVAL_4 w_INTERVAL_2 w_INTERVAL_5 w_INTERVAL_3) (p0 : Int32) (hi3 : ((p0 &&& (2147483647 : Int32)) % (5 : Int32)) = (3 : Int32)) :
    MetFree l x (head1 (Jvm.Cond.code x code maxLocals ret :: ws) room_1) (fun a U => a = #[(.int p0)] ∧ Z.Warmed39 U.vm ∧ U.heap = h0) (fun _ _ _ _ _ => True) (fun _ U o U' => ∃ v L, o = .returned v ∧ QL (some (.int (1 : Int32))) h0 n0 v U'.heap L ∧ FrameEnd U o U' L room_1.cells room_1.slots) := by
  refine MetFree.of_bodySF (plainFor_of_name pn_com_example_gasreckon_gasreckon_model_SchedulingIntervalOfPinLaw) hisR ?_
  intro p e s m args below meth c s₁ Bd hml0 hP hK
  obtain ⟨rfl, hZ, hh⟩ := hP
  have hx := Bd.exec
  have hby := Bd.bytes
  have hml : c.maxLocals = 3 := hml0
  have hown : s.vm.findClass "com/example/gasreckon/gasreckon/model/SchedulingIntervalOfPinLaw" = some m.cls := findClass_of_methodNamed Bd.named
  have X0 : Stand p l e room_1 s m #[(.int p0)] below meth c s₁ [] 0 0 := Stand.of_body Bd
  have e0 : s₁.heap = h0 := by rw [← hh, Bd.state]; rfl
  have N0 := Fr.nil n0
  have pre0 : ∀ t, Steps p.tables e below (s₁.setTop (mkF m 0 #[.val (.int p0), .unset, .unset] [])) t → Steps p.tables e below (s₁.setTop (entryFrame m #[(.int p0)] maxLocals)) t := fun t k => castTop (ef_0_I m p0) k
  have G' := G
  obtain ⟨S_w_IN_ORDER, A_w_IN_ORDER, L_w_IN_ORDER, S_w_INTERVAL_1, E_w_INTERVAL_1, M_w_IN_ORDER_0, F_ordinal_w_INTERVAL_1, F_firstHour_w_INTERVAL_1, S_w_INTERVAL_4, E_w_INTERVAL_4, M_w_IN_ORDER_3, F_ordinal_w_INTERVAL_4, F_firstHour_w_INTERVAL_4, S_w_INTERVAL_2, E_w_INTERVAL_2, M_w_IN_ORDER_1, F_ordinal_w_INTERVAL_2, F_firstHour_w_INTERVAL_2, S_w_INTERVAL_5, E_w_INTERVAL_5, M_w_IN_ORDER_4, F_ordinal_w_INTERVAL_5, F_firstHour_w_INTERVAL_5, S_w_INTERVAL_3, E_w_INTERVAL_3, M_w_IN_ORDER_2, F_ordinal_w_INTERVAL_3, F_firstHour_w_INTERVAL_3⟩ := G'
  obtain ⟨_, _, ⟨T1, L1, k1, n1⟩, -, X1, ⟨Lc1, hQ1, l1, y1, z1⟩, st1⟩ := Jvm.LawKit.callS X0 hx (y := (⟨"com/example/gasreckon/gasreckon/model/SchedulingInterval", "of", "(I)Lcom/example/gasreckon/gasreckon/model/SchedulingInterval;"⟩ : MethodName)) hown (mvT hZ (hw _ (List.mem_of_getElem? (i := 1) rfl))) (mvT hZ (hw _ (List.mem_of_getElem? (i := 2) rfl))) (mvT hZ (hw _ (List.mem_of_getElem? (i := 3) rfl))) (mvT hZ (hw _ (List.mem_of_getElem? (i := 4) rfl))) (by decide) (backOf (W := 0) (c1_3 l Z a0 hw [] w_IN_ORDER c_w_IN_ORDER w_INTERVAL_1 w_INTERVAL_4 w_INTERVAL_2 w_INTERVAL_5 w_INTERVAL_3 h0 n0 Z0 G) hZ (hw _ (List.mem_of_getElem? (i := 4) rfl)) (hw _ (List.mem_of_getElem? (i := 3) rfl)) (by decide) (by decide)) (g := (mkF m 10 #[.val (.int p0), .val (.int (4 : Int32)), .unset] [(.int (4 : Int32))])) rfl (by rw [hml]; rfl) (argsL := [(.int (4 : Int32))]) (rest := []) (lenOf pd__I_Lcom_example_gasreckon_gasreckon_model_SchedulingInterval_ rfl) rfl (by show 2 * 0 + _ ≤ _; exact Nat.le_of_eq rfl) (hb hby at_10) (fun _ _ => ⟨rfl, e0, (by decide : 0 + 0 ≤ _), (by decide : 0 + 0 ≤ _)⟩)
  dsimp only [Pt.U, Pt.locs, Pt.cells, Pt.slots] at X1 l1 y1 z1 st1 hQ1
  subst l1 y1 z1
  obtain ⟨rfl, N1q, e1⟩ := hQ1
  have N1 := Fr.app N0 N1q
  obtain ⟨_, _, ⟨T2, L2, k2, n2⟩, -, X2, ⟨Lc2, hQ2, l2, y2, z2⟩, st2⟩ := Jvm.LawKit.callS X1 hx (y := (⟨"com/example/gasreckon/gasreckon/model/SchedulingIntervalOfPinLaw", "expected", "(I)Lcom/example/gasreckon/gasreckon/model/SchedulingInterval;"⟩ : MethodName)) hown (mvT hZ (hw _ (List.mem_of_getElem? (i := 8) rfl))) (mvT hZ (hw _ (List.mem_of_getElem? (i := 9) rfl))) (mvT hZ (hw _ (List.mem_of_getElem? (i := 10) rfl))) (mvT hZ (hw _ (List.mem_of_getElem? (i := 11) rfl))) (by decide) (backOf (W := 1) (c2_3 l Z a0 hw [] w_IN_ORDER c_w_IN_ORDER w_INTERVAL_1 w_INTERVAL_4 w_INTERVAL_2 w_INTERVAL_5 w_INTERVAL_3 h0 n0 Z0 G) hZ (hw _ (List.mem_of_getElem? (i := 11) rfl)) (hw _ (List.mem_of_getElem? (i := 10) rfl)) (by decide) (by decide)) (g := (mkF m 16 #[.val (.int p0), .val (.int (4 : Int32)), .val (.ref w_INTERVAL_4)] [(.int (4 : Int32)), (.ref w_INTERVAL_4)])) rfl (by rw [hml]; rfl) (argsL := [(.int (4 : Int32))]) (rest := [(.ref w_INTERVAL_4)]) (lenOf pd__I_Lcom_example_gasreckon_gasreckon_model_SchedulingInterval_ rfl) rfl (by show 2 * 0 + _ ≤ _; exact Nat.le_of_eq rfl) (hb hby at_16) (fun _ _ => ⟨rfl, e1, (by decide : 0 + 0 ≤ _), (by decide : 0 + 0 ≤ _)⟩)
  dsimp only [Pt.U, Pt.locs, Pt.cells, Pt.slots] at X2 l2 y2 z2 st2 hQ2
  subst l2 y2 z2
  obtain ⟨rfl, N2q, e2⟩ := hQ2
  have N2 := Fr.app N1 N2q
  obtain ⟨cq3, kq3, q3a, q3b, q3c⟩ := isOf hZ e2 E_w_INTERVAL_4
  obtain ⟨_, _, ⟨T3, L3, k3, n3⟩, -, X3, ⟨Lc3, hQ3, l3, y3, z3⟩, st3⟩ := X2.virtualBack hx (y := (⟨"com/example/gasreckon/gasreckon/model/SchedulingInterval", "number", "()I"⟩ : MethodName)) (z := (⟨"com/example/gasreckon/gasreckon/model/SchedulingInterval", "number", "()I"⟩ : MethodName)) hown (mvT hZ (hw _ (List.mem_of_getElem? (i := 13) rfl))) (mvT hZ (hw _ (List.mem_of_getElem? (i := 14) rfl))) (notFace_of_selects (args := #[]) (mvT hZ (hw _ (List.mem_of_getElem? (i := 16) rfl)))) (mvT hZ (hw _ (List.mem_of_getElem? (i := 16) rfl))) (mvT hZ (hw _ (List.mem_of_getElem? (i := 15) rfl))) (by decide) (backOf (W := 0) (c3_3 l Z a0 hw [] w_IN_ORDER c_w_IN_ORDER w_INTERVAL_1 w_INTERVAL_4 w_INTERVAL_2 w_INTERVAL_5 w_INTERVAL_3 h0 n0 Z0 G) hZ (hw _ (List.mem_of_getElem? (i := 17) rfl)) (hw _ (List.mem_of_getElem? (i := 3) rfl)) (by decide) (by decide)) q3a q3c (g := (mkF m 23 #[.val (.int p0), .val (.int (4 : Int32)), .val (.ref w_INTERVAL_4)] [(.ref w_INTERVAL_4)])) rfl (by rw [hml]; rfl) (Steps.refl _) (argsL := []) (rest := []) (lenOf pd___I rfl) rfl (by show 2 * 0 + _ ≤ _; exact Nat.le_of_eq rfl) (hb hby at_23) (fun _ _ => ⟨rfl, e2, (by decide : 0 + 0 ≤ _), (by decide : 0 + 0 ≤ _)⟩)
  dsimp only [Pt.U, Pt.locs, Pt.cells, Pt.slots] at X3 l3 y3 z3 st3 hQ3
  subst l3 y3 z3
  obtain ⟨rfl, N3q, e3⟩ := hQ3
  have N3 := Fr.app N2 N3q
  obtain ⟨cq4, kq4, q4a, q4b, q4c⟩ := isOf hZ e3 E_w_INTERVAL_4
  obtain ⟨_, _, ⟨T4, L4, k4, n4⟩, -, X4, ⟨Lc4, hQ4, l4, y4, z4⟩, st4⟩ := X3.virtualBack hx (y := (⟨"com/example/gasreckon/gasreckon/model/SchedulingInterval", "firstHour", "()I"⟩ : MethodName)) (z := (⟨"com/example/gasreckon/gasreckon/model/SchedulingInterval", "firstHour", "()I"⟩ : MethodName)) hown (mvT hZ (hw _ (List.mem_of_getElem? (i := 27) rfl))) (mvT hZ (hw _ (List.mem_of_getElem? (i := 28) rfl))) (notFace_of_selects (args := #[]) (mvT hZ (hw _ (List.mem_of_getElem? (i := 30) rfl)))) (mvT hZ (hw _ (List.mem_of_getElem? (i := 30) rfl))) (mvT hZ (hw _ (List.mem_of_getElem? (i := 29) rfl))) (by decide) (backOf (W := 0) (c5_3 l Z a0 hw [] w_IN_ORDER c_w_IN_ORDER w_INTERVAL_1 w_INTERVAL_4 w_INTERVAL_2 w_INTERVAL_5 w_INTERVAL_3 h0 n0 Z0 G) hZ (hw _ (List.mem_of_getElem? (i := 31) rfl)) (hw _ (List.mem_of_getElem? (i := 3) rfl)) (by decide) (by decide)) q4a q4c (g := (mkF m 31 #[.val (.int p0), .val (.int (4 : Int32)), .val (.ref w_INTERVAL_4)] [(.ref w_INTERVAL_4)])) rfl (by rw [hml]; rfl) (Steps.refl _) (argsL := []) (rest := []) (lenOf pd___I rfl) rfl (by show 2 * 0 + _ ≤ _; exact Nat.le_of_eq rfl) (hb hby at_31) (fun _ _ => ⟨rfl, e3, (by decide : 0 + 0 ≤ _), (by decide : 0 + 0 ≤ _)⟩)
  dsimp only [Pt.U, Pt.locs, Pt.cells, Pt.slots] at X4 l4 y4 z4 st4 hQ4
  subst l4 y4 z4
  obtain ⟨rfl, N4q, e4⟩ := hQ4
  have N4 := Fr.app N3 N4q
  obtain ⟨fs, hr, hrun, hended, hW, hsame⟩ := X4.leave (v := some (.int (1 : Int32))) (fun h => by rw [Bd.returns] at h; cases h)
  refine ⟨_, _, pre0 _ ?_, hrun, hended, _, _, rfl, ?_, ⟨_, rfl⟩, hW, hsame.mono (by decide) (by decide)⟩
  · show Steps p.tables e below (s₁.setTop (mkF m 0 #[.val (.int p0), .unset, .unset] [])) _
    refine XS.iloadN X0.here hx rfl (hb hby at_0) rfl ?_
    show Steps p.tables e below (s₁.setTop (mkF m 1 #[.val (.int p0), .unset, .unset] [(.int p0)])) _
    refine X0.ldcInt hx hown (mvT hZ (hw _ (List.mem_of_getElem? (i := 0) rfl))) (g := (mkF m 1 #[.val (.int p0), .unset, .unset] [(.int p0)])) rfl (hb hby at_1) _ ?_
    show Steps p.tables e below (s₁.setTop (mkF m 3 #[.val (.int p0), .unset, .unset] [(.int (2147483647 : Int32)), (.int p0)])) _
    refine XS.iand X0.here hx rfl (hb hby at_3) rfl ?_
    show Steps p.tables e below (s₁.setTop (mkF m 4 #[.val (.int p0), .unset, .unset] [(.int (p0 &&& (2147483647 : Int32)))])) _
    refine XS.iconst X0.here hx rfl (hb hby at_4) ?_
    show Steps p.tables e below (s₁.setTop (mkF m 5 #[.val (.int p0), .unset, .unset] [(.int (5 : Int32)), (.int (p0 &&& (2147483647 : Int32)))])) _
    refine iremM X0 hx rfl (hb hby at_5) rfl (by decide) ?_
    show Steps p.tables e below (s₁.setTop (mkF m 6 #[.val (.int p0), .unset, .unset] [(.int ((p0 &&& (2147483647 : Int32)) % (5 : Int32)))])) _
    rw [hi3]
    show Steps p.tables e below (s₁.setTop (mkF m 6 #[.val (.int p0), .unset, .unset] [(.int (3 : Int32))])) _
    refine XS.iconst X0.here hx rfl (hb hby at_6) ?_
    show Steps p.tables e below (s₁.setTop (mkF m 7 #[.val (.int p0), .unset, .unset] [(.int (1 : Int32)), (.int (3 : Int32))])) _
    refine XS.iadd X0.here hx rfl (hb hby at_7) rfl ?_
    show Steps p.tables e below (s₁.setTop (mkF m 8 #[.val (.int p0), .unset, .unset] [(.int ((3 : Int32) + (1 : Int32)))])) _
    rw [(show ((3 : Int32) + (1 : Int32)) = (4 : Int32) from by decide)]
    show Steps p.tables e below (s₁.setTop (mkF m 8 #[.val (.int p0), .unset, .unset] [(.int (4 : Int32))])) _
    refine XS.istoreN X0.here hx rfl (hb hby at_8) rfl (l' := #[.val (.int p0), .val (.int (4 : Int32)), .unset]) rfl ?_
    show Steps p.tables e below (s₁.setTop (mkF m 9 #[.val (.int p0), .val (.int (4 : Int32)), .unset] [])) _
    refine XS.iloadN X0.here hx rfl (hb hby at_9) rfl ?_
    show Steps p.tables e below (s₁.setTop (mkF m 10 #[.val (.int p0), .val (.int (4 : Int32)), .unset] [(.int (4 : Int32))])) _
    refine st1 _ ?_
    show Steps p.tables e below (T1.setTop (mkF m 13 #[.val (.int p0), .val (.int (4 : Int32)), .unset] [(.ref w_INTERVAL_4)])) _
    refine XS.astoreN X1.here hx rfl (hb hby at_13) rfl rfl (l' := #[.val (.int p0), .val (.int (4 : Int32)), .val (.ref w_INTERVAL_4)]) rfl ?_
    show Steps p.tables e below (T1.setTop (mkF m 14 #[.val (.int p0), .val (.int (4 : Int32)), .val (.ref w_INTERVAL_4)] [])) _
    refine XS.aloadN X1.here hx rfl (hb hby at_14) rfl rfl ?_
    show Steps p.tables e below (T1.setTop (mkF m 15 #[.val (.int p0), .val (.int (4 : Int32)), .val (.ref w_INTERVAL_4)] [(.ref w_INTERVAL_4)])) _
    refine XS.iloadN X1.here hx rfl (hb hby at_15) rfl ?_
    show Steps p.tables e below (T1.setTop (mkF m 16 #[.val (.int p0), .val (.int (4 : Int32)), .val (.ref w_INTERVAL_4)] [(.int (4 : Int32)), (.ref w_INTERVAL_4)])) _
    refine st2 _ ?_
    show Steps p.tables e below (T2.setTop (mkF m 19 #[.val (.int p0), .val (.int (4 : Int32)), .val (.ref w_INTERVAL_4)] [(.ref w_INTERVAL_4), (.ref w_INTERVAL_4)])) _
    refine Jvm.RoadKit.acmp (g := (mkF m 19 #[.val (.int p0), .val (.int (4 : Int32)), .val (.ref w_INTERVAL_4)] [(.ref w_INTERVAL_4), (.ref w_INTERVAL_4)])) X2 hx rfl rfl rfl (pc0 := 19) (pc' := 22) (same := true) rfl (hb hby at_19) rfl (decide_eq_true rfl) (by decide) (by decide) ?_
    show Steps p.tables e below (T2.setTop (mkF m 22 #[.val (.int p0), .val (.int (4 : Int32)), .val (.ref w_INTERVAL_4)] [])) _
    refine XS.aloadN X2.here hx rfl (hb hby at_22) rfl rfl ?_
    show Steps p.tables e below (T2.setTop (mkF m 23 #[.val (.int p0), .val (.int (4 : Int32)), .val (.ref w_INTERVAL_4)] [(.ref w_INTERVAL_4)])) _
    refine st3.trans ?_
    show Steps p.tables e below (T3.setTop (mkF m 26 #[.val (.int p0), .val (.int (4 : Int32)), .val (.ref w_INTERVAL_4)] [(.int (4 : Int32))])) _
    refine XS.iloadN X3.here hx rfl (hb hby at_26) rfl ?_
    show Steps p.tables e below (T3.setTop (mkF m 27 #[.val (.int p0), .val (.int (4 : Int32)), .val (.ref w_INTERVAL_4)] [(.int (4 : Int32)), (.int (4 : Int32))])) _
    refine XS.icmpNo X3.here hx rfl (hb hby at_27) rfl (teq (by decide : (4 : Int32) = (4 : Int32))).2 ?_
    show Steps p.tables e below (T3.setTop (mkF m 30 #[.val (.int p0), .val (.int (4 : Int32)), .val (.ref w_INTERVAL_4)] [])) _
    refine XS.aloadN X3.here hx rfl (hb hby at_30) rfl rfl ?_
    show Steps p.tables e below (T3.setTop (mkF m 31 #[.val (.int p0), .val (.int (4 : Int32)), .val (.ref w_INTERVAL_4)] [(.ref w_INTERVAL_4)])) _
    refine st4.trans ?_
    show Steps p.tables e below (T4.setTop (mkF m 34 #[.val (.int p0), .val (.int (4 : Int32)), .val (.ref w_INTERVAL_4)] [(.int (13 : Int32))])) _
    refine XS.iconst X4.here hx rfl (hb hby at_34) ?_
    show Steps p.tables e below (T4.setTop (mkF m 35 #[.val (.int p0), .val (.int (4 : Int32)), .val (.ref w_INTERVAL_4)] [(.int (4 : Int32)), (.int (13 : Int32))])) _
    refine XS.iloadN X4.here hx rfl (hb hby at_35) rfl ?_
    show Steps p.tables e below (T4.setTop (mkF m 36 #[.val (.int p0), .val (.int (4 : Int32)), .val (.ref w_INTERVAL_4)] [(.int (4 : Int32)), (.int (4 : Int32)), (.int (13 : Int32))])) _
    refine XS.imul X4.here hx rfl (hb hby at_36) rfl ?_
    show Steps p.tables e below (T4.setTop (mkF m 37 #[.val (.int p0), .val (.int (4 : Int32)), .val (.ref w_INTERVAL_4)] [(.int ((4 : Int32) * (4 : Int32))), (.int (13 : Int32))])) _
    rw [(show ((4 : Int32) * (4 : Int32)) = (16 : Int32) from by decide)]
    show Steps p.tables e below (T4.setTop (mkF m 37 #[.val (.int p0), .val (.int (4 : Int32)), .val (.ref w_INTERVAL_4)] [(.int (16 : Int32)), (.int (13 : Int32))])) _
    refine XS.iconst X4.here hx rfl (hb hby at_37) ?_
    show Steps p.tables e below (T4.setTop (mkF m 38 #[.val (.int p0), .val (.int (4 : Int32)), .val (.ref w_INTERVAL_4)] [(.int (3 : Int32)), (.int (16 : Int32)), (.int (13 : Int32))])) _
    refine XS.isub X4.here hx rfl (hb hby at_38) rfl ?_
    show Steps p.tables e below (T4.setTop (mkF m 39 #[.val (.int p0), .val (.int (4 : Int32)), .val (.ref w_INTERVAL_4)] [(.int ((16 : Int32) - (3 : Int32))), (.int (13 : Int32))])) _
    rw [(show ((16 : Int32) - (3 : Int32)) = (13 : Int32) from by decide)]
    show Steps p.tables e below (T4.setTop (mkF m 39 #[.val (.int p0), .val (.int (4 : Int32)), .val (.ref w_INTERVAL_4)] [(.int (13 : Int32)), (.int (13 : Int32))])) _
    refine XS.icmpNo X4.here hx rfl (hb hby at_39) rfl (teq (by decide : (13 : Int32) = (13 : Int32))).2 ?_
    show Steps p.tables e below (T4.setTop (mkF m 42 #[.val (.int p0), .val (.int (4 : Int32)), .val (.ref w_INTERVAL_4)] [])) _
    refine XS.iconst X4.here hx rfl (hb hby at_42) ?_
    show Steps p.tables e below (T4.setTop (mkF m 43 #[.val (.int p0), .val (.int (4 : Int32)), .val (.ref w_INTERVAL_4)] [(.int (1 : Int32))])) _
    refine XS.goto X4.here hx rfl (pc0 := 43) (pc' := 47) rfl (hb hby at_43) (by decide) (by decide) ?_
    show Steps p.tables e below (T4.setTop (mkF m 47 #[.val (.int p0), .val (.int (4 : Int32)), .val (.ref w_INTERVAL_4)] [(.int (1 : Int32))])) _
    exact retOut X4 hx Bd.returns rfl (Or.inl ⟨rfl, Or.inr (Or.inl rfl), _, rfl⟩) (hb hby at_47) hr
  · exact ⟨rfl, N4⟩
set_option maxRecDepth 65536 in
set_option maxHeartbeats 40000000 in
theorem c1_4 (l : Launch) (Z : State) (a0 : Array Value) (hw : ∀ d ∈ tables_1, d.before a0 Z = true) (ws : List Jvm.Cond) (w_IN_ORDER : Addr) (c_w_IN_ORDER : Cell) (w_INTERVAL_1 : Addr) (w_INTERVAL_4 : Addr) (w_INTERVAL_2 : Addr) (w_INTERVAL_5 : Addr) (w_INTERVAL_3 : Addr) (h0 : Heap) (n0 : Nat) (Z0 : n0 ≤ h0.size) (G : Glob Z h0 w_IN_ORDER c_w_IN_ORDER w_INTERVAL_1 w_INTERVAL_4 w_INTERVAL_2 w_INTERVAL_5 w_INTERVAL_3)  :
    MetFree l (⟨"com/example/gasreckon/gasreckon/model/SchedulingInterval", "of", "(I)Lcom/example/gasreckon/gasreckon/model/SchedulingInterval;"⟩ : MethodName) (head1 (Jvm.Cond.code (⟨"com/example/gasreckon/gasreckon/model/SchedulingInterval", "of", "(I)Lcom/example/gasreckon/gasreckon/model/SchedulingInterval;"⟩ : MethodName) prog_42_method_4_code 1 (some (.object "com/example/gasreckon/gasreckon/model/SchedulingInterval")) :: ws) ({ frames := 0, cells := 0, slots := 0, locals := 0 } : Room)) (fun a U => a = #[(.int (5 : Int32))] ∧ Z.Warmed39 U.vm ∧ U.heap = h0) (fun _ _ _ _ _ => True) (fun _ U o U' => ∃ v L, o = .returned v ∧ QR (some (.ref w_INTERVAL_5)) h0 n0 v U'.heap L ∧ FrameEnd U o U' L ({ frames := 0, cells := 0, slots := 0, locals := 0 } : Room).cells ({ frames := 0, cells := 0, slots := 0, locals := 0 } : Room).slots) := by
  refine MetFree.of_bodySF (plainFor_of_name pn_com_example_gasreckon_gasreckon_model_SchedulingInterval) hisR ?_
  intro p e s m args below meth c s₁ Bd hml0 hP hK
  obtain ⟨rfl, hZ, hh⟩ := hP
  have hx := Bd.exec
  have hby := Bd.bytes
  have hml : c.maxLocals = 1 := hml0
  have hown : s.vm.findClass "com/example/gasreckon/gasreckon/model/SchedulingInterval" = some m.cls := findClass_of_methodNamed Bd.named
  have X0 : Stand p l e ({ frames := 0, cells := 0, slots := 0, locals := 0 } : Room) s m #[(.int (5 : Int32))] below meth c s₁ [] 0 0 := Stand.of_body Bd
  have e0 : s₁.heap = h0 := by rw [← hh, Bd.state]; rfl
  have N0 := Fr.nil n0
  have pre0 : ∀ t, Steps p.tables e below (s₁.setTop (mkF m 0 #[.val (.int (5 : Int32))] [])) t → Steps p.tables e below (s₁.setTop (entryFrame m #[(.int (5 : Int32))] 1)) t := fun t k => castTop (ef_1_I m (5 : Int32)) k
  have G' := G
  obtain ⟨S_w_IN_ORDER, A_w_IN_ORDER, L_w_IN_ORDER, S_w_INTERVAL_1, E_w_INTERVAL_1, M_w_IN_ORDER_0, F_ordinal_w_INTERVAL_1, F_firstHour_w_INTERVAL_1, S_w_INTERVAL_4, E_w_INTERVAL_4, M_w_IN_ORDER_3, F_ordinal_w_INTERVAL_4, F_firstHour_w_INTERVAL_4, S_w_INTERVAL_2, E_w_INTERVAL_2, M_w_IN_ORDER_1, F_ordinal_w_INTERVAL_2, F_firstHour_w_INTERVAL_2, S_w_INTERVAL_5, E_w_INTERVAL_5, M_w_IN_ORDER_4, F_ordinal_w_INTERVAL_5, F_firstHour_w_INTERVAL_5, S_w_INTERVAL_3, E_w_INTERVAL_3, M_w_IN_ORDER_2, F_ordinal_w_INTERVAL_3, F_firstHour_w_INTERVAL_3⟩ := G'
  obtain ⟨T1, X1, e1, st1⟩ := getS2 X0 hx hZ hown (host := "") (Or.inl (hw _ (List.mem_of_getElem? (i := 5) rfl))) Via.refl e0 S_w_IN_ORDER (g := (mkF m 6 #[.val (.int (5 : Int32))] [(.int (5 : Int32))])) rfl (hb hby d1_6)
  obtain ⟨T2, X2, e2, st2⟩ := getS2 X1 hx hZ hown (host := "") (Or.inl (hw _ (List.mem_of_getElem? (i := 5) rfl))) Via.refl e1 S_w_IN_ORDER (g := (mkF m 27 #[.val (.int (5 : Int32))] [])) rfl (hb hby d1_27)
  obtain ⟨fs, hr, hrun, hended, hW, hsame⟩ := X2.leave (v := some (.ref w_INTERVAL_5)) (fun h => by rw [Bd.returns] at h; cases h)
  refine ⟨_, _, pre0 _ ?_, hrun, hended, _, _, rfl, ?_, ⟨_, rfl⟩, hW, hsame.mono (by decide) (by decide)⟩
  · show Steps p.tables e below (s₁.setTop (mkF m 0 #[.val (.int (5 : Int32))] [])) _
    refine XS.iloadN X0.here hx rfl (hb hby d1_0) rfl ?_
    show Steps p.tables e below (s₁.setTop (mkF m 1 #[.val (.int (5 : Int32))] [(.int (5 : Int32))])) _
    refine XS.iconst X0.here hx rfl (hb hby d1_1) ?_
    show Steps p.tables e below (s₁.setTop (mkF m 2 #[.val (.int (5 : Int32))] [(.int (1 : Int32)), (.int (5 : Int32))])) _
    refine XS.icmpNo X0.here hx rfl (hb hby d1_2) rfl (flt (by decide : ¬ ((5 : Int32) < (1 : Int32)))).1 ?_
    show Steps p.tables e below (s₁.setTop (mkF m 5 #[.val (.int (5 : Int32))] [])) _
    refine XS.iloadN X0.here hx rfl (hb hby d1_5) rfl ?_
    show Steps p.tables e below (s₁.setTop (mkF m 6 #[.val (.int (5 : Int32))] [(.int (5 : Int32))])) _
    refine st1 _ ?_
    show Steps p.tables e below (T1.setTop (mkF m 9 #[.val (.int (5 : Int32))] [(.ref w_IN_ORDER), (.int (5 : Int32))])) _
    refine X1.arraylength hx (by rw [e1]; exact A_w_IN_ORDER.1) (State.isArrayOf_alike hZ.alike A_w_IN_ORDER.2.1) (g := (mkF m 9 #[.val (.int (5 : Int32))] [(.ref w_IN_ORDER), (.int (5 : Int32))])) rfl rfl (hb hby d1_9) _ ?_
    rw [L_w_IN_ORDER]
    show Steps p.tables e below (T1.setTop (mkF m 10 #[.val (.int (5 : Int32))] [(.int (5 : Int32)), (.int (5 : Int32))])) _
    refine XS.icmpYes X1.here hx rfl (pc0 := 10) (pc' := 27) rfl (hb hby d1_10) rfl (flt (by decide : ¬ ((5 : Int32) < (5 : Int32)))).2.2.2 (by decide) (by decide) ?_
    show Steps p.tables e below (T1.setTop (mkF m 27 #[.val (.int (5 : Int32))] [])) _
    refine st2 _ ?_
    show Steps p.tables e below (T2.setTop (mkF m 30 #[.val (.int (5 : Int32))] [(.ref w_IN_ORDER)])) _
    refine XS.iloadN X2.here hx rfl (hb hby d1_30) rfl ?_
    show Steps p.tables e below (T2.setTop (mkF m 31 #[.val (.int (5 : Int32))] [(.int (5 : Int32)), (.ref w_IN_ORDER)])) _
    refine XS.iconst X2.here hx rfl (hb hby d1_31) ?_
    show Steps p.tables e below (T2.setTop (mkF m 32 #[.val (.int (5 : Int32))] [(.int (1 : Int32)), (.int (5 : Int32)), (.ref w_IN_ORDER)])) _
    refine XS.isub X2.here hx rfl (hb hby d1_32) rfl ?_
    show Steps p.tables e below (T2.setTop (mkF m 33 #[.val (.int (5 : Int32))] [(.int ((5 : Int32) - (1 : Int32))), (.ref w_IN_ORDER)])) _
    rw [(show ((5 : Int32) - (1 : Int32)) = (4 : Int32) from by decide)]
    show Steps p.tables e below (T2.setTop (mkF m 33 #[.val (.int (5 : Int32))] [(.int (4 : Int32)), (.ref w_IN_ORDER)])) _
    refine X2.aaload hx (j := (4 : Int32)) (v := (.ref w_INTERVAL_5)) (by rw [e2]; exact A_w_IN_ORDER.1) (State.isArrayOf_alike hZ.alike A_w_IN_ORDER.2.1) rfl A_w_IN_ORDER.2.2 (by rw [L_w_IN_ORDER]; decide) M_w_IN_ORDER_4 (g := (mkF m 33 #[.val (.int (5 : Int32))] [(.int (4 : Int32)), (.ref w_IN_ORDER)])) rfl rfl (hb hby d1_33) _ ?_
    show Steps p.tables e below (T2.setTop (mkF m 34 #[.val (.int (5 : Int32))] [(.ref w_INTERVAL_5)])) _
    exact retOut X2 hx Bd.returns rfl (Or.inr (Or.inr (Or.inr (Or.inr ⟨rfl, rfl, rfl⟩)))) (hb hby d1_34) hr
  · show QR _ h0 n0 _ T2.heap _
    rw [e2]
    exact ⟨rfl, N0, rfl⟩
theorem d2_36 : decode method_2_code 36 = .ok (.getstatic 22, 3) := by decide +kernel
theorem d2_39 : decode method_2_code 39 = .ok (.areturn, 1) := by decide +kernel
set_option maxRecDepth 65536 in
set_option maxHeartbeats 40000000 in
theorem c2_4 (l : Launch) (Z : State) (a0 : Array Value) (hw : ∀ d ∈ tables_1, d.before a0 Z = true) (ws : List Jvm.Cond) (w_IN_ORDER : Addr) (c_w_IN_ORDER : Cell) (w_INTERVAL_1 : Addr) (w_INTERVAL_4 : Addr) (w_INTERVAL_2 : Addr) (w_INTERVAL_5 : Addr) (w_INTERVAL_3 : Addr) (h0 : Heap) (n0 : Nat) (Z0 : n0 ≤ h0.size) (G : Glob Z h0 w_IN_ORDER c_w_IN_ORDER w_INTERVAL_1 w_INTERVAL_4 w_INTERVAL_2 w_INTERVAL_5 w_INTERVAL_3)  :
    MetFree l (⟨"com/example/gasreckon/gasreckon/model/SchedulingIntervalOfPinLaw", "expected", "(I)Lcom/example/gasreckon/gasreckon/model/SchedulingInterval;"⟩ : MethodName) (head1 (Jvm.Cond.code (⟨"com/example/gasreckon/gasreckon/model/SchedulingIntervalOfPinLaw", "expected", "(I)Lcom/example/gasreckon/gasreckon/model/SchedulingInterval;"⟩ : MethodName) method_2_code 1 (some (.object "com/example/gasreckon/gasreckon/model/SchedulingInterval")) :: ws) ({ frames := 0, cells := 0, slots := 0, locals := 0 } : Room)) (fun a U => a = #[(.int (5 : Int32))] ∧ Z.Warmed39 U.vm ∧ U.heap = h0) (fun _ _ _ _ _ => True) (fun _ U o U' => ∃ v L, o = .returned v ∧ QR (some (.ref w_INTERVAL_5)) h0 n0 v U'.heap L ∧ FrameEnd U o U' L ({ frames := 0, cells := 0, slots := 0, locals := 0 } : Room).cells ({ frames := 0, cells := 0, slots := 0, locals := 0 } : Room).slots) := by
  refine MetFree.of_bodySF (plainFor_of_name pn_com_example_gasreckon_gasreckon_model_SchedulingIntervalOfPinLaw) hisR ?_
  intro p e s m args below meth c s₁ Bd hml0 hP hK
  obtain ⟨rfl, hZ, hh⟩ := hP
  have hx := Bd.exec
  have hby := Bd.bytes
  have hml : c.maxLocals = 1 := hml0
  have hown : s.vm.findClass "com/example/gasreckon/gasreckon/model/SchedulingIntervalOfPinLaw" = some m.cls := findClass_of_methodNamed Bd.named
  have X0 : Stand p l e ({ frames := 0, cells := 0, slots := 0, locals := 0 } : Room) s m #[(.int (5 : Int32))] below meth c s₁ [] 0 0 := Stand.of_body Bd
  have e0 : s₁.heap = h0 := by rw [← hh, Bd.state]; rfl
  have N0 := Fr.nil n0
  have pre0 : ∀ t, Steps p.tables e below (s₁.setTop (mkF m 0 #[.val (.int (5 : Int32))] [])) t → Steps p.tables e below (s₁.setTop (entryFrame m #[(.int (5 : Int32))] 1)) t := fun t k => castTop (ef_2_I m (5 : Int32)) k
  have G' := G
  obtain ⟨S_w_IN_ORDER, A_w_IN_ORDER, L_w_IN_ORDER, S_w_INTERVAL_1, E_w_INTERVAL_1, M_w_IN_ORDER_0, F_ordinal_w_INTERVAL_1, F_firstHour_w_INTERVAL_1, S_w_INTERVAL_4, E_w_INTERVAL_4, M_w_IN_ORDER_3, F_ordinal_w_INTERVAL_4, F_firstHour_w_INTERVAL_4, S_w_INTERVAL_2, E_w_INTERVAL_2, M_w_IN_ORDER_1, F_ordinal_w_INTERVAL_2, F_firstHour_w_INTERVAL_2, S_w_INTERVAL_5, E_w_INTERVAL_5, M_w_IN_ORDER_4, F_ordinal_w_INTERVAL_5, F_firstHour_w_INTERVAL_5, S_w_INTERVAL_3, E_w_INTERVAL_3, M_w_IN_ORDER_2, F_ordinal_w_INTERVAL_3, F_firstHour_w_INTERVAL_3⟩ := G'
  obtain ⟨T1, X1, e1, st1⟩ := getS2 X0 hx hZ hown (host := "") (Or.inl (hw _ (List.mem_of_getElem? (i := 39) rfl))) Via.refl e0 S_w_INTERVAL_5 (g := (mkF m 36 #[.val (.int (5 : Int32))] [])) rfl (hb hby d2_36)
  obtain ⟨fs, hr, hrun, hended, hW, hsame⟩ := X1.leave (v := some (.ref w_INTERVAL_5)) (fun h => by rw [Bd.returns] at h; cases h)
  refine ⟨_, _, pre0 _ ?_, hrun, hended, _, _, rfl, ?_, ⟨_, rfl⟩, hW, hsame.mono (by decide) (by decide)⟩
  · show Steps p.tables e below (s₁.setTop (mkF m 0 #[.val (.int (5 : Int32))] [])) _
    refine XS.iloadN X0.here hx rfl (hb hby d2_0) rfl ?_
    show Steps p.tables e below (s₁.setTop (mkF m 1 #[.val (.int (5 : Int32))] [(.int (5 : Int32))])) _
    refine XS.iconst X0.here hx rfl (hb hby d2_1) ?_
    show Steps p.tables e below (s₁.setTop (mkF m 2 #[.val (.int (5 : Int32))] [(.int (1 : Int32)), (.int (5 : Int32))])) _
    refine XS.icmpYes X0.here hx rfl (pc0 := 2) (pc' := 9) rfl (hb hby d2_2) rfl (feq (by decide : ¬ ((5 : Int32) = (1 : Int32)))).2 (by decide) (by decide) ?_
    show Steps p.tables e below (s₁.setTop (mkF m 9 #[.val (.int (5 : Int32))] [])) _
    refine XS.iloadN X0.here hx rfl (hb hby d2_9) rfl ?_
    show Steps p.tables e below (s₁.setTop (mkF m 10 #[.val (.int (5 : Int32))] [(.int (5 : Int32))])) _
    refine XS.iconst X0.here hx rfl (hb hby d2_10) ?_
    show Steps p.tables e below (s₁.setTop (mkF m 11 #[.val (.int (5 : Int32))] [(.int (2 : Int32)), (.int (5 : Int32))])) _
    refine XS.icmpYes X0.here hx rfl (pc0 := 11) (pc' := 18) rfl (hb hby d2_11) rfl (feq (by decide : ¬ ((5 : Int32) = (2 : Int32)))).2 (by decide) (by decide) ?_
    show Steps p.tables e below (s₁.setTop (mkF m 18 #[.val (.int (5 : Int32))] [])) _
    refine XS.iloadN X0.here hx rfl (hb hby d2_18) rfl ?_
    show Steps p.tables e below (s₁.setTop (mkF m 19 #[.val (.int (5 : Int32))] [(.int (5 : Int32))])) _
    refine XS.iconst X0.here hx rfl (hb hby d2_19) ?_
    show Steps p.tables e below (s₁.setTop (mkF m 20 #[.val (.int (5 : Int32))] [(.int (3 : Int32)), (.int (5 : Int32))])) _
    refine XS.icmpYes X0.here hx rfl (pc0 := 20) (pc' := 27) rfl (hb hby d2_20) rfl (feq (by decide : ¬ ((5 : Int32) = (3 : Int32)))).2 (by decide) (by decide) ?_
    show Steps p.tables e below (s₁.setTop (mkF m 27 #[.val (.int (5 : Int32))] [])) _
    refine XS.iloadN X0.here hx rfl (hb hby d2_27) rfl ?_
    show Steps p.tables e below (s₁.setTop (mkF m 28 #[.val (.int (5 : Int32))] [(.int (5 : Int32))])) _
    refine XS.iconst X0.here hx rfl (hb hby d2_28) ?_
    show Steps p.tables e below (s₁.setTop (mkF m 29 #[.val (.int (5 : Int32))] [(.int (4 : Int32)), (.int (5 : Int32))])) _
    refine XS.icmpYes X0.here hx rfl (pc0 := 29) (pc' := 36) rfl (hb hby d2_29) rfl (feq (by decide : ¬ ((5 : Int32) = (4 : Int32)))).2 (by decide) (by decide) ?_
    show Steps p.tables e below (s₁.setTop (mkF m 36 #[.val (.int (5 : Int32))] [])) _
    refine st1 _ ?_
    show Steps p.tables e below (T1.setTop (mkF m 39 #[.val (.int (5 : Int32))] [(.ref w_INTERVAL_5)])) _
    exact retOut X1 hx Bd.returns rfl (Or.inr (Or.inr (Or.inr (Or.inr ⟨rfl, rfl, rfl⟩)))) (hb hby d2_39) hr
  · show QR _ h0 n0 _ T1.heap _
    rw [e1]
    exact ⟨rfl, N0, rfl⟩
set_option maxRecDepth 65536 in
set_option maxHeartbeats 40000000 in
theorem c4_4 (l : Launch) (Z : State) (a0 : Array Value) (hw : ∀ d ∈ tables_1, d.before a0 Z = true) (ws : List Jvm.Cond) (w_IN_ORDER : Addr) (c_w_IN_ORDER : Cell) (w_INTERVAL_1 : Addr) (w_INTERVAL_4 : Addr) (w_INTERVAL_2 : Addr) (w_INTERVAL_5 : Addr) (w_INTERVAL_3 : Addr) (h0 : Heap) (n0 : Nat) (Z0 : n0 ≤ h0.size) (G : Glob Z h0 w_IN_ORDER c_w_IN_ORDER w_INTERVAL_1 w_INTERVAL_4 w_INTERVAL_2 w_INTERVAL_5 w_INTERVAL_3)  :
    MetFree l (⟨"java/lang/Enum", "ordinal", "()I"⟩ : MethodName) (head1 (Jvm.Cond.code (⟨"java/lang/Enum", "ordinal", "()I"⟩ : MethodName) jdk_37_method_2_code 1 (some .int) :: ws) ({ frames := 0, cells := 0, slots := 0, locals := 0 } : Room)) (fun a U => a = #[(.ref w_INTERVAL_5)] ∧ Z.Warmed39 U.vm ∧ U.heap = h0) (fun _ _ _ _ _ => True) (fun _ U o U' => ∃ v L, o = .returned v ∧ QR (some (.int (4 : Int32))) h0 n0 v U'.heap L ∧ FrameEnd U o U' L ({ frames := 0, cells := 0, slots := 0, locals := 0 } : Room).cells ({ frames := 0, cells := 0, slots := 0, locals := 0 } : Room).slots) := by
  refine MetFree.of_bodySF (plainFor_of_name pn_java_lang_Enum) hisR ?_
  intro p e s m args below meth c s₁ Bd hml0 hP hK
  obtain ⟨rfl, hZ, hh⟩ := hP
  have hx := Bd.exec
  have hby := Bd.bytes
  have hml : c.maxLocals = 1 := hml0
  have hown : s.vm.findClass "java/lang/Enum" = some m.cls := findClass_of_methodNamed Bd.named
  have X0 : Stand p l e ({ frames := 0, cells := 0, slots := 0, locals := 0 } : Room) s m #[(.ref w_INTERVAL_5)] below meth c s₁ [] 0 0 := Stand.of_body Bd
  have e0 : s₁.heap = h0 := by rw [← hh, Bd.state]; rfl
  have N0 := Fr.nil n0
  have pre0 : ∀ t, Steps p.tables e below (s₁.setTop (mkF m 0 #[.val (.ref w_INTERVAL_5)] [])) t → Steps p.tables e below (s₁.setTop (entryFrame m #[(.ref w_INTERVAL_5)] 1)) t := fun t k => castTop (ef_4_R m w_INTERVAL_5) k
  have G' := G
  obtain ⟨S_w_IN_ORDER, A_w_IN_ORDER, L_w_IN_ORDER, S_w_INTERVAL_1, E_w_INTERVAL_1, M_w_IN_ORDER_0, F_ordinal_w_INTERVAL_1, F_firstHour_w_INTERVAL_1, S_w_INTERVAL_4, E_w_INTERVAL_4, M_w_IN_ORDER_3, F_ordinal_w_INTERVAL_4, F_firstHour_w_INTERVAL_4, S_w_INTERVAL_2, E_w_INTERVAL_2, M_w_IN_ORDER_1, F_ordinal_w_INTERVAL_2, F_firstHour_w_INTERVAL_2, S_w_INTERVAL_5, E_w_INTERVAL_5, M_w_IN_ORDER_4, F_ordinal_w_INTERVAL_5, F_firstHour_w_INTERVAL_5, S_w_INTERVAL_3, E_w_INTERVAL_3, M_w_IN_ORDER_2, F_ordinal_w_INTERVAL_3, F_firstHour_w_INTERVAL_3⟩ := G'
  obtain ⟨T1, X1, e1, st1⟩ := getF X0 hx hZ hown (host := "") (Or.inl (hw _ (List.mem_of_getElem? (i := 25) rfl))) Via.refl e0 F_ordinal_w_INTERVAL_5 (g := (mkF m 1 #[.val (.ref w_INTERVAL_5)] [(.ref w_INTERVAL_5)])) rfl rfl (hb hby d4_1)
  obtain ⟨fs, hr, hrun, hended, hW, hsame⟩ := X1.leave (v := some (.int (4 : Int32))) (fun h => by rw [Bd.returns] at h; cases h)
  refine ⟨_, _, pre0 _ ?_, hrun, hended, _, _, rfl, ?_, ⟨_, rfl⟩, hW, hsame.mono (by decide) (by decide)⟩
  · show Steps p.tables e below (s₁.setTop (mkF m 0 #[.val (.ref w_INTERVAL_5)] [])) _
    refine XS.aloadN X0.here hx rfl (hb hby d4_0) rfl rfl ?_
    show Steps p.tables e below (s₁.setTop (mkF m 1 #[.val (.ref w_INTERVAL_5)] [(.ref w_INTERVAL_5)])) _
    refine st1 _ ?_
    show Steps p.tables e below (T1.setTop (mkF m 4 #[.val (.ref w_INTERVAL_5)] [(.int (4 : Int32))])) _
    exact retOut X1 hx Bd.returns rfl (Or.inl ⟨rfl, Or.inl rfl, _, rfl⟩) (hb hby d4_4) hr
  · show QR _ h0 n0 _ T1.heap _
    rw [e1]
    exact ⟨rfl, N0, rfl⟩
set_option maxRecDepth 65536 in
set_option maxHeartbeats 40000000 in
theorem c3_4 (l : Launch) (Z : State) (a0 : Array Value) (hw : ∀ d ∈ tables_1, d.before a0 Z = true) (ws : List Jvm.Cond) (w_IN_ORDER : Addr) (c_w_IN_ORDER : Cell) (w_INTERVAL_1 : Addr) (w_INTERVAL_4 : Addr) (w_INTERVAL_2 : Addr) (w_INTERVAL_5 : Addr) (w_INTERVAL_3 : Addr) (h0 : Heap) (n0 : Nat) (Z0 : n0 ≤ h0.size) (G : Glob Z h0 w_IN_ORDER c_w_IN_ORDER w_INTERVAL_1 w_INTERVAL_4 w_INTERVAL_2 w_INTERVAL_5 w_INTERVAL_3)  :
    MetFree l (⟨"com/example/gasreckon/gasreckon/model/SchedulingInterval", "number", "()I"⟩ : MethodName) (head1 (Jvm.Cond.code (⟨"com/example/gasreckon/gasreckon/model/SchedulingInterval", "number", "()I"⟩ : MethodName) prog_42_method_11_code 1 (some .int) :: ws) ({ frames := 1, cells := 0, slots := 0, locals := 12 } : Room)) (fun a U => a = #[(.ref w_INTERVAL_5)] ∧ Z.Warmed39 U.vm ∧ U.heap = h0) (fun _ _ _ _ _ => True) (fun _ U o U' => ∃ v L, o = .returned v ∧ QR (some (.int (5 : Int32))) h0 n0 v U'.heap L ∧ FrameEnd U o U' L ({ frames := 1, cells := 0, slots := 0, locals := 12 } : Room).cells ({ frames := 1, cells := 0, slots := 0, locals := 12 } : Room).slots) := by
  refine MetFree.of_bodySF (plainFor_of_name pn_com_example_gasreckon_gasreckon_model_SchedulingInterval) hisR ?_
  intro p e s m args below meth c s₁ Bd hml0 hP hK
  obtain ⟨rfl, hZ, hh⟩ := hP
  have hx := Bd.exec
  have hby := Bd.bytes
  have hml : c.maxLocals = 1 := hml0
  have hown : s.vm.findClass "com/example/gasreckon/gasreckon/model/SchedulingInterval" = some m.cls := findClass_of_methodNamed Bd.named
  have X0 : Stand p l e ({ frames := 1, cells := 0, slots := 0, locals := 12 } : Room) s m #[(.ref w_INTERVAL_5)] below meth c s₁ [] 0 0 := Stand.of_body Bd
  have e0 : s₁.heap = h0 := by rw [← hh, Bd.state]; rfl
  have N0 := Fr.nil n0
  have pre0 : ∀ t, Steps p.tables e below (s₁.setTop (mkF m 0 #[.val (.ref w_INTERVAL_5)] [])) t → Steps p.tables e below (s₁.setTop (entryFrame m #[(.ref w_INTERVAL_5)] 1)) t := fun t k => castTop (ef_3_R m w_INTERVAL_5) k
  have G' := G
  obtain ⟨S_w_IN_ORDER, A_w_IN_ORDER, L_w_IN_ORDER, S_w_INTERVAL_1, E_w_INTERVAL_1, M_w_IN_ORDER_0, F_ordinal_w_INTERVAL_1, F_firstHour_w_INTERVAL_1, S_w_INTERVAL_4, E_w_INTERVAL_4, M_w_IN_ORDER_3, F_ordinal_w_INTERVAL_4, F_firstHour_w_INTERVAL_4, S_w_INTERVAL_2, E_w_INTERVAL_2, M_w_IN_ORDER_1, F_ordinal_w_INTERVAL_2, F_firstHour_w_INTERVAL_2, S_w_INTERVAL_5, E_w_INTERVAL_5, M_w_IN_ORDER_4, F_ordinal_w_INTERVAL_5, F_firstHour_w_INTERVAL_5, S_w_INTERVAL_3, E_w_INTERVAL_3, M_w_IN_ORDER_2, F_ordinal_w_INTERVAL_3, F_firstHour_w_INTERVAL_3⟩ := G'
  obtain ⟨cq1, kq1, q1a, q1b, q1c⟩ := isOf hZ e0 E_w_INTERVAL_5
  obtain ⟨_, _, ⟨T1, L1, k1, n1⟩, -, X1, ⟨Lc1, hQ1, l1, y1, z1⟩, st1⟩ := X0.virtualBackUp hx (x := (⟨"com/example/gasreckon/gasreckon/model/SchedulingInterval", "ordinal", "()I"⟩ : MethodName)) (y := (⟨"java/lang/Enum", "ordinal", "()I"⟩ : MethodName)) hown (mvT hZ (hw _ (List.mem_of_getElem? (i := 18) rfl))) (mvT hZ (hw _ (List.mem_of_getElem? (i := 19) rfl))) (mvT hZ (hw _ (List.mem_of_getElem? (i := 20) rfl))) (by decide) (mvT hZ (hw _ (List.mem_of_getElem? (i := 22) rfl))) (mvT hZ (hw _ (List.mem_of_getElem? (i := 21) rfl))) (backOf (W := 0) (c4_4 l Z a0 hw [] w_IN_ORDER c_w_IN_ORDER w_INTERVAL_1 w_INTERVAL_4 w_INTERVAL_2 w_INTERVAL_5 w_INTERVAL_3 h0 n0 Z0 G) hZ (hw _ (List.mem_of_getElem? (i := 24) rfl)) (hw _ (List.mem_of_getElem? (i := 23) rfl)) (by decide) (by decide)) q1a q1c (g := (mkF m 1 #[.val (.ref w_INTERVAL_5)] [(.ref w_INTERVAL_5)])) rfl (by rw [hml]; rfl) (Steps.refl _) (argsL := []) (rest := []) (lenOf pd___I rfl) rfl (by show 2 * 0 + _ ≤ _; exact Nat.le_of_eq rfl) (hb hby d3_1) (fun _ _ => ⟨rfl, e0, (by decide : 0 + 0 ≤ _), (by decide : 0 + 0 ≤ _)⟩)
  dsimp only [Pt.U, Pt.locs, Pt.cells, Pt.slots] at X1 l1 y1 z1 st1 hQ1
  subst l1 y1 z1
  obtain ⟨rfl, N1q, e1⟩ := hQ1
  have N1 := Fr.app N0 N1q
  obtain ⟨fs, hr, hrun, hended, hW, hsame⟩ := X1.leave (v := some (.int (5 : Int32))) (fun h => by rw [Bd.returns] at h; cases h)
  refine ⟨_, _, pre0 _ ?_, hrun, hended, _, _, rfl, ?_, ⟨_, rfl⟩, hW, hsame.mono (by decide) (by decide)⟩
  · show Steps p.tables e below (s₁.setTop (mkF m 0 #[.val (.ref w_INTERVAL_5)] [])) _
    refine XS.aloadN X0.here hx rfl (hb hby d3_0) rfl rfl ?_
    show Steps p.tables e below (s₁.setTop (mkF m 1 #[.val (.ref w_INTERVAL_5)] [(.ref w_INTERVAL_5)])) _
    refine st1.trans ?_
    show Steps p.tables e below (T1.setTop (mkF m 4 #[.val (.ref w_INTERVAL_5)] [(.int (4 : Int32))])) _
    refine XS.iconst X1.here hx rfl (hb hby d3_4) ?_
    show Steps p.tables e below (T1.setTop (mkF m 5 #[.val (.ref w_INTERVAL_5)] [(.int (1 : Int32)), (.int (4 : Int32))])) _
    refine XS.iadd X1.here hx rfl (hb hby d3_5) rfl ?_
    show Steps p.tables e below (T1.setTop (mkF m 6 #[.val (.ref w_INTERVAL_5)] [(.int ((4 : Int32) + (1 : Int32)))])) _
    rw [(show ((4 : Int32) + (1 : Int32)) = (5 : Int32) from by decide)]
    show Steps p.tables e below (T1.setTop (mkF m 6 #[.val (.ref w_INTERVAL_5)] [(.int (5 : Int32))])) _
    exact retOut X1 hx Bd.returns rfl (Or.inl ⟨rfl, Or.inl rfl, _, rfl⟩) (hb hby d3_6) hr
  · show QR _ h0 n0 _ T1.heap _
    rw [e1]
    exact ⟨rfl, N1, rfl⟩
set_option maxRecDepth 65536 in
set_option maxHeartbeats 40000000 in
theorem c5_4 (l : Launch) (Z : State) (a0 : Array Value) (hw : ∀ d ∈ tables_1, d.before a0 Z = true) (ws : List Jvm.Cond) (w_IN_ORDER : Addr) (c_w_IN_ORDER : Cell) (w_INTERVAL_1 : Addr) (w_INTERVAL_4 : Addr) (w_INTERVAL_2 : Addr) (w_INTERVAL_5 : Addr) (w_INTERVAL_3 : Addr) (h0 : Heap) (n0 : Nat) (Z0 : n0 ≤ h0.size) (G : Glob Z h0 w_IN_ORDER c_w_IN_ORDER w_INTERVAL_1 w_INTERVAL_4 w_INTERVAL_2 w_INTERVAL_5 w_INTERVAL_3)  :
    MetFree l (⟨"com/example/gasreckon/gasreckon/model/SchedulingInterval", "firstHour", "()I"⟩ : MethodName) (head1 (Jvm.Cond.code (⟨"com/example/gasreckon/gasreckon/model/SchedulingInterval", "firstHour", "()I"⟩ : MethodName) prog_42_method_14_code 1 (some .int) :: ws) ({ frames := 0, cells := 0, slots := 0, locals := 0 } : Room)) (fun a U => a = #[(.ref w_INTERVAL_5)] ∧ Z.Warmed39 U.vm ∧ U.heap = h0) (fun _ _ _ _ _ => True) (fun _ U o U' => ∃ v L, o = .returned v ∧ QR (some (.int (17 : Int32))) h0 n0 v U'.heap L ∧ FrameEnd U o U' L ({ frames := 0, cells := 0, slots := 0, locals := 0 } : Room).cells ({ frames := 0, cells := 0, slots := 0, locals := 0 } : Room).slots) := by
  refine MetFree.of_bodySF (plainFor_of_name pn_com_example_gasreckon_gasreckon_model_SchedulingInterval) hisR ?_
  intro p e s m args below meth c s₁ Bd hml0 hP hK
  obtain ⟨rfl, hZ, hh⟩ := hP
  have hx := Bd.exec
  have hby := Bd.bytes
  have hml : c.maxLocals = 1 := hml0
  have hown : s.vm.findClass "com/example/gasreckon/gasreckon/model/SchedulingInterval" = some m.cls := findClass_of_methodNamed Bd.named
  have X0 : Stand p l e ({ frames := 0, cells := 0, slots := 0, locals := 0 } : Room) s m #[(.ref w_INTERVAL_5)] below meth c s₁ [] 0 0 := Stand.of_body Bd
  have e0 : s₁.heap = h0 := by rw [← hh, Bd.state]; rfl
  have N0 := Fr.nil n0
  have pre0 : ∀ t, Steps p.tables e below (s₁.setTop (mkF m 0 #[.val (.ref w_INTERVAL_5)] [])) t → Steps p.tables e below (s₁.setTop (entryFrame m #[(.ref w_INTERVAL_5)] 1)) t := fun t k => castTop (ef_5_R m w_INTERVAL_5) k
  have G' := G
  obtain ⟨S_w_IN_ORDER, A_w_IN_ORDER, L_w_IN_ORDER, S_w_INTERVAL_1, E_w_INTERVAL_1, M_w_IN_ORDER_0, F_ordinal_w_INTERVAL_1, F_firstHour_w_INTERVAL_1, S_w_INTERVAL_4, E_w_INTERVAL_4, M_w_IN_ORDER_3, F_ordinal_w_INTERVAL_4, F_firstHour_w_INTERVAL_4, S_w_INTERVAL_2, E_w_INTERVAL_2, M_w_IN_ORDER_1, F_ordinal_w_INTERVAL_2, F_firstHour_w_INTERVAL_2, S_w_INTERVAL_5, E_w_INTERVAL_5, M_w_IN_ORDER_4, F_ordinal_w_INTERVAL_5, F_firstHour_w_INTERVAL_5, S_w_INTERVAL_3, E_w_INTERVAL_3, M_w_IN_ORDER_2, F_ordinal_w_INTERVAL_3, F_firstHour_w_INTERVAL_3⟩ := G'
  obtain ⟨T1, X1, e1, st1⟩ := getF X0 hx hZ hown (host := "") (Or.inl (hw _ (List.mem_of_getElem? (i := 32) rfl))) Via.refl e0 F_firstHour_w_INTERVAL_5 (g := (mkF m 1 #[.val (.ref w_INTERVAL_5)] [(.ref w_INTERVAL_5)])) rfl rfl (hb hby d5_1)
  obtain ⟨fs, hr, hrun, hended, hW, hsame⟩ := X1.leave (v := some (.int (17 : Int32))) (fun h => by rw [Bd.returns] at h; cases h)
  refine ⟨_, _, pre0 _ ?_, hrun, hended, _, _, rfl, ?_, ⟨_, rfl⟩, hW, hsame.mono (by decide) (by decide)⟩
  · show Steps p.tables e below (s₁.setTop (mkF m 0 #[.val (.ref w_INTERVAL_5)] [])) _
    refine XS.aloadN X0.here hx rfl (hb hby d5_0) rfl rfl ?_
    show Steps p.tables e below (s₁.setTop (mkF m 1 #[.val (.ref w_INTERVAL_5)] [(.ref w_INTERVAL_5)])) _
    refine st1 _ ?_
    show Steps p.tables e below (T1.setTop (mkF m 4 #[.val (.ref w_INTERVAL_5)] [(.int (17 : Int32))])) _
    exact retOut X1 hx Bd.returns rfl (Or.inl ⟨rfl, Or.inl rfl, _, rfl⟩) (hb hby d5_4) hr
  · show QR _ h0 n0 _ T1.heap _
    rw [e1]
    exact ⟨rfl, N0, rfl⟩
set_option maxRecDepth 65536 in
set_option maxHeartbeats 40000000 in
theorem law_4 (l : Launch) (Z : State) (a0 : Array Value) (hw : ∀ d ∈ tables_1, d.before a0 Z = true) (ws : List Jvm.Cond) (w_IN_ORDER : Addr) (c_w_IN_ORDER : Cell) (w_INTERVAL_1 : Addr) (w_INTERVAL_4 : Addr) (w_INTERVAL_2 : Addr) (w_INTERVAL_5 : Addr) (w_INTERVAL_3 : Addr) (h0 : Heap) (n0 : Nat) (Z0 : n0 ≤ h0.size) (G : Glob Z h0 w_IN_ORDER c_w_IN_ORDER w_INTERVAL_1 w_INTERVAL_4 w_INTERVAL_2 w_INTERVAL_5 w_INTERVAL_3) (p0 : Int32) (hi4 : ((p0 &&& (2147483647 : Int32)) % (5 : Int32)) = (4 : Int32)) :
    MetFree l x (head1 (Jvm.Cond.code x code maxLocals ret :: ws) room_1) (fun a U => a = #[(.int p0)] ∧ Z.Warmed39 U.vm ∧ U.heap = h0) (fun _ _ _ _ _ => True) (fun _ U o U' => ∃ v L, o = .returned v ∧ QL (some (.int (1 : Int32))) h0 n0 v U'.heap L ∧ FrameEnd U o U' L room_1.cells room_1.slots) := by
  refine MetFree.of_bodySF (plainFor_of_name pn_com_example_gasreckon_gasreckon_model_SchedulingIntervalOfPinLaw) hisR ?_
  intro p e s m args below meth c s₁ Bd hml0 hP hK
  obtain ⟨rfl, hZ, hh⟩ := hP
  have hx := Bd.exec
  have hby := Bd.bytes
  have hml : c.maxLocals = 3 := hml0
  have hown : s.vm.findClass "com/example/gasreckon/gasreckon/model/SchedulingIntervalOfPinLaw" = some m.cls := findClass_of_methodNamed Bd.named
  have X0 : Stand p l e room_1 s m #[(.int p0)] below meth c s₁ [] 0 0 := Stand.of_body Bd
  have e0 : s₁.heap = h0 := by rw [← hh, Bd.state]; rfl
  have N0 := Fr.nil n0
  have pre0 : ∀ t, Steps p.tables e below (s₁.setTop (mkF m 0 #[.val (.int p0), .unset, .unset] [])) t → Steps p.tables e below (s₁.setTop (entryFrame m #[(.int p0)] maxLocals)) t := fun t k => castTop (ef_0_I m p0) k
  have G' := G
  obtain ⟨S_w_IN_ORDER, A_w_IN_ORDER, L_w_IN_ORDER, S_w_INTERVAL_1, E_w_INTERVAL_1, M_w_IN_ORDER_0, F_ordinal_w_INTERVAL_1, F_firstHour_w_INTERVAL_1, S_w_INTERVAL_4, E_w_INTERVAL_4, M_w_IN_ORDER_3, F_ordinal_w_INTERVAL_4, F_firstHour_w_INTERVAL_4, S_w_INTERVAL_2, E_w_INTERVAL_2, M_w_IN_ORDER_1, F_ordinal_w_INTERVAL_2, F_firstHour_w_INTERVAL_2, S_w_INTERVAL_5, E_w_INTERVAL_5, M_w_IN_ORDER_4, F_ordinal_w_INTERVAL_5, F_firstHour_w_INTERVAL_5, S_w_INTERVAL_3, E_w_INTERVAL_3, M_w_IN_ORDER_2, F_ordinal_w_INTERVAL_3, F_firstHour_w_INTERVAL_3⟩ := G'
  obtain ⟨_, _, ⟨T1, L1, k1, n1⟩, -, X1, ⟨Lc1, hQ1, l1, y1, z1⟩, st1⟩ := Jvm.LawKit.callS X0 hx (y := (⟨"com/example/gasreckon/gasreckon/model/SchedulingInterval", "of", "(I)Lcom/example/gasreckon/gasreckon/model/SchedulingInterval;"⟩ : MethodName)) hown (mvT hZ (hw _ (List.mem_of_getElem? (i := 1) rfl))) (mvT hZ (hw _ (List.mem_of_getElem? (i := 2) rfl))) (mvT hZ (hw _ (List.mem_of_getElem? (i := 3) rfl))) (mvT hZ (hw _ (List.mem_of_getElem? (i := 4) rfl))) (by decide) (backOf (W := 0) (c1_4 l Z a0 hw [] w_IN_ORDER c_w_IN_ORDER w_INTERVAL_1 w_INTERVAL_4 w_INTERVAL_2 w_INTERVAL_5 w_INTERVAL_3 h0 n0 Z0 G) hZ (hw _ (List.mem_of_getElem? (i := 4) rfl)) (hw _ (List.mem_of_getElem? (i := 3) rfl)) (by decide) (by decide)) (g := (mkF m 10 #[.val (.int p0), .val (.int (5 : Int32)), .unset] [(.int (5 : Int32))])) rfl (by rw [hml]; rfl) (argsL := [(.int (5 : Int32))]) (rest := []) (lenOf pd__I_Lcom_example_gasreckon_gasreckon_model_SchedulingInterval_ rfl) rfl (by show 2 * 0 + _ ≤ _; exact Nat.le_of_eq rfl) (hb hby at_10) (fun _ _ => ⟨rfl, e0, (by decide : 0 + 0 ≤ _), (by decide : 0 + 0 ≤ _)⟩)
  dsimp only [Pt.U, Pt.locs, Pt.cells, Pt.slots] at X1 l1 y1 z1 st1 hQ1
  subst l1 y1 z1
  obtain ⟨rfl, N1q, e1⟩ := hQ1
  have N1 := Fr.app N0 N1q
  obtain ⟨_, _, ⟨T2, L2, k2, n2⟩, -, X2, ⟨Lc2, hQ2, l2, y2, z2⟩, st2⟩ := Jvm.LawKit.callS X1 hx (y := (⟨"com/example/gasreckon/gasreckon/model/SchedulingIntervalOfPinLaw", "expected", "(I)Lcom/example/gasreckon/gasreckon/model/SchedulingInterval;"⟩ : MethodName)) hown (mvT hZ (hw _ (List.mem_of_getElem? (i := 8) rfl))) (mvT hZ (hw _ (List.mem_of_getElem? (i := 9) rfl))) (mvT hZ (hw _ (List.mem_of_getElem? (i := 10) rfl))) (mvT hZ (hw _ (List.mem_of_getElem? (i := 11) rfl))) (by decide) (backOf (W := 1) (c2_4 l Z a0 hw [] w_IN_ORDER c_w_IN_ORDER w_INTERVAL_1 w_INTERVAL_4 w_INTERVAL_2 w_INTERVAL_5 w_INTERVAL_3 h0 n0 Z0 G) hZ (hw _ (List.mem_of_getElem? (i := 11) rfl)) (hw _ (List.mem_of_getElem? (i := 10) rfl)) (by decide) (by decide)) (g := (mkF m 16 #[.val (.int p0), .val (.int (5 : Int32)), .val (.ref w_INTERVAL_5)] [(.int (5 : Int32)), (.ref w_INTERVAL_5)])) rfl (by rw [hml]; rfl) (argsL := [(.int (5 : Int32))]) (rest := [(.ref w_INTERVAL_5)]) (lenOf pd__I_Lcom_example_gasreckon_gasreckon_model_SchedulingInterval_ rfl) rfl (by show 2 * 0 + _ ≤ _; exact Nat.le_of_eq rfl) (hb hby at_16) (fun _ _ => ⟨rfl, e1, (by decide : 0 + 0 ≤ _), (by decide : 0 + 0 ≤ _)⟩)
  dsimp only [Pt.U, Pt.locs, Pt.cells, Pt.slots] at X2 l2 y2 z2 st2 hQ2
  subst l2 y2 z2
  obtain ⟨rfl, N2q, e2⟩ := hQ2
  have N2 := Fr.app N1 N2q
  obtain ⟨cq3, kq3, q3a, q3b, q3c⟩ := isOf hZ e2 E_w_INTERVAL_5
  obtain ⟨_, _, ⟨T3, L3, k3, n3⟩, -, X3, ⟨Lc3, hQ3, l3, y3, z3⟩, st3⟩ := X2.virtualBack hx (y := (⟨"com/example/gasreckon/gasreckon/model/SchedulingInterval", "number", "()I"⟩ : MethodName)) (z := (⟨"com/example/gasreckon/gasreckon/model/SchedulingInterval", "number", "()I"⟩ : MethodName)) hown (mvT hZ (hw _ (List.mem_of_getElem? (i := 13) rfl))) (mvT hZ (hw _ (List.mem_of_getElem? (i := 14) rfl))) (notFace_of_selects (args := #[]) (mvT hZ (hw _ (List.mem_of_getElem? (i := 16) rfl)))) (mvT hZ (hw _ (List.mem_of_getElem? (i := 16) rfl))) (mvT hZ (hw _ (List.mem_of_getElem? (i := 15) rfl))) (by decide) (backOf (W := 0) (c3_4 l Z a0 hw [] w_IN_ORDER c_w_IN_ORDER w_INTERVAL_1 w_INTERVAL_4 w_INTERVAL_2 w_INTERVAL_5 w_INTERVAL_3 h0 n0 Z0 G) hZ (hw _ (List.mem_of_getElem? (i := 17) rfl)) (hw _ (List.mem_of_getElem? (i := 3) rfl)) (by decide) (by decide)) q3a q3c (g := (mkF m 23 #[.val (.int p0), .val (.int (5 : Int32)), .val (.ref w_INTERVAL_5)] [(.ref w_INTERVAL_5)])) rfl (by rw [hml]; rfl) (Steps.refl _) (argsL := []) (rest := []) (lenOf pd___I rfl) rfl (by show 2 * 0 + _ ≤ _; exact Nat.le_of_eq rfl) (hb hby at_23) (fun _ _ => ⟨rfl, e2, (by decide : 0 + 0 ≤ _), (by decide : 0 + 0 ≤ _)⟩)
  dsimp only [Pt.U, Pt.locs, Pt.cells, Pt.slots] at X3 l3 y3 z3 st3 hQ3
  subst l3 y3 z3
  obtain ⟨rfl, N3q, e3⟩ := hQ3
  have N3 := Fr.app N2 N3q
  obtain ⟨cq4, kq4, q4a, q4b, q4c⟩ := isOf hZ e3 E_w_INTERVAL_5
  obtain ⟨_, _, ⟨T4, L4, k4, n4⟩, -, X4, ⟨Lc4, hQ4, l4, y4, z4⟩, st4⟩ := X3.virtualBack hx (y := (⟨"com/example/gasreckon/gasreckon/model/SchedulingInterval", "firstHour", "()I"⟩ : MethodName)) (z := (⟨"com/example/gasreckon/gasreckon/model/SchedulingInterval", "firstHour", "()I"⟩ : MethodName)) hown (mvT hZ (hw _ (List.mem_of_getElem? (i := 27) rfl))) (mvT hZ (hw _ (List.mem_of_getElem? (i := 28) rfl))) (notFace_of_selects (args := #[]) (mvT hZ (hw _ (List.mem_of_getElem? (i := 30) rfl)))) (mvT hZ (hw _ (List.mem_of_getElem? (i := 30) rfl))) (mvT hZ (hw _ (List.mem_of_getElem? (i := 29) rfl))) (by decide) (backOf (W := 0) (c5_4 l Z a0 hw [] w_IN_ORDER c_w_IN_ORDER w_INTERVAL_1 w_INTERVAL_4 w_INTERVAL_2 w_INTERVAL_5 w_INTERVAL_3 h0 n0 Z0 G) hZ (hw _ (List.mem_of_getElem? (i := 31) rfl)) (hw _ (List.mem_of_getElem? (i := 3) rfl)) (by decide) (by decide)) q4a q4c (g := (mkF m 31 #[.val (.int p0), .val (.int (5 : Int32)), .val (.ref w_INTERVAL_5)] [(.ref w_INTERVAL_5)])) rfl (by rw [hml]; rfl) (Steps.refl _) (argsL := []) (rest := []) (lenOf pd___I rfl) rfl (by show 2 * 0 + _ ≤ _; exact Nat.le_of_eq rfl) (hb hby at_31) (fun _ _ => ⟨rfl, e3, (by decide : 0 + 0 ≤ _), (by decide : 0 + 0 ≤ _)⟩)
  dsimp only [Pt.U, Pt.locs, Pt.cells, Pt.slots] at X4 l4 y4 z4 st4 hQ4
  subst l4 y4 z4
  obtain ⟨rfl, N4q, e4⟩ := hQ4
  have N4 := Fr.app N3 N4q
  obtain ⟨fs, hr, hrun, hended, hW, hsame⟩ := X4.leave (v := some (.int (1 : Int32))) (fun h => by rw [Bd.returns] at h; cases h)
  refine ⟨_, _, pre0 _ ?_, hrun, hended, _, _, rfl, ?_, ⟨_, rfl⟩, hW, hsame.mono (by decide) (by decide)⟩
  · show Steps p.tables e below (s₁.setTop (mkF m 0 #[.val (.int p0), .unset, .unset] [])) _
    refine XS.iloadN X0.here hx rfl (hb hby at_0) rfl ?_
    show Steps p.tables e below (s₁.setTop (mkF m 1 #[.val (.int p0), .unset, .unset] [(.int p0)])) _
    refine X0.ldcInt hx hown (mvT hZ (hw _ (List.mem_of_getElem? (i := 0) rfl))) (g := (mkF m 1 #[.val (.int p0), .unset, .unset] [(.int p0)])) rfl (hb hby at_1) _ ?_
    show Steps p.tables e below (s₁.setTop (mkF m 3 #[.val (.int p0), .unset, .unset] [(.int (2147483647 : Int32)), (.int p0)])) _
    refine XS.iand X0.here hx rfl (hb hby at_3) rfl ?_
    show Steps p.tables e below (s₁.setTop (mkF m 4 #[.val (.int p0), .unset, .unset] [(.int (p0 &&& (2147483647 : Int32)))])) _
    refine XS.iconst X0.here hx rfl (hb hby at_4) ?_
    show Steps p.tables e below (s₁.setTop (mkF m 5 #[.val (.int p0), .unset, .unset] [(.int (5 : Int32)), (.int (p0 &&& (2147483647 : Int32)))])) _
    refine iremM X0 hx rfl (hb hby at_5) rfl (by decide) ?_
    show Steps p.tables e below (s₁.setTop (mkF m 6 #[.val (.int p0), .unset, .unset] [(.int ((p0 &&& (2147483647 : Int32)) % (5 : Int32)))])) _
    rw [hi4]
    show Steps p.tables e below (s₁.setTop (mkF m 6 #[.val (.int p0), .unset, .unset] [(.int (4 : Int32))])) _
    refine XS.iconst X0.here hx rfl (hb hby at_6) ?_
    show Steps p.tables e below (s₁.setTop (mkF m 7 #[.val (.int p0), .unset, .unset] [(.int (1 : Int32)), (.int (4 : Int32))])) _
    refine XS.iadd X0.here hx rfl (hb hby at_7) rfl ?_
    show Steps p.tables e below (s₁.setTop (mkF m 8 #[.val (.int p0), .unset, .unset] [(.int ((4 : Int32) + (1 : Int32)))])) _
    rw [(show ((4 : Int32) + (1 : Int32)) = (5 : Int32) from by decide)]
    show Steps p.tables e below (s₁.setTop (mkF m 8 #[.val (.int p0), .unset, .unset] [(.int (5 : Int32))])) _
    refine XS.istoreN X0.here hx rfl (hb hby at_8) rfl (l' := #[.val (.int p0), .val (.int (5 : Int32)), .unset]) rfl ?_
    show Steps p.tables e below (s₁.setTop (mkF m 9 #[.val (.int p0), .val (.int (5 : Int32)), .unset] [])) _
    refine XS.iloadN X0.here hx rfl (hb hby at_9) rfl ?_
    show Steps p.tables e below (s₁.setTop (mkF m 10 #[.val (.int p0), .val (.int (5 : Int32)), .unset] [(.int (5 : Int32))])) _
    refine st1 _ ?_
    show Steps p.tables e below (T1.setTop (mkF m 13 #[.val (.int p0), .val (.int (5 : Int32)), .unset] [(.ref w_INTERVAL_5)])) _
    refine XS.astoreN X1.here hx rfl (hb hby at_13) rfl rfl (l' := #[.val (.int p0), .val (.int (5 : Int32)), .val (.ref w_INTERVAL_5)]) rfl ?_
    show Steps p.tables e below (T1.setTop (mkF m 14 #[.val (.int p0), .val (.int (5 : Int32)), .val (.ref w_INTERVAL_5)] [])) _
    refine XS.aloadN X1.here hx rfl (hb hby at_14) rfl rfl ?_
    show Steps p.tables e below (T1.setTop (mkF m 15 #[.val (.int p0), .val (.int (5 : Int32)), .val (.ref w_INTERVAL_5)] [(.ref w_INTERVAL_5)])) _
    refine XS.iloadN X1.here hx rfl (hb hby at_15) rfl ?_
    show Steps p.tables e below (T1.setTop (mkF m 16 #[.val (.int p0), .val (.int (5 : Int32)), .val (.ref w_INTERVAL_5)] [(.int (5 : Int32)), (.ref w_INTERVAL_5)])) _
    refine st2 _ ?_
    show Steps p.tables e below (T2.setTop (mkF m 19 #[.val (.int p0), .val (.int (5 : Int32)), .val (.ref w_INTERVAL_5)] [(.ref w_INTERVAL_5), (.ref w_INTERVAL_5)])) _
    refine Jvm.RoadKit.acmp (g := (mkF m 19 #[.val (.int p0), .val (.int (5 : Int32)), .val (.ref w_INTERVAL_5)] [(.ref w_INTERVAL_5), (.ref w_INTERVAL_5)])) X2 hx rfl rfl rfl (pc0 := 19) (pc' := 22) (same := true) rfl (hb hby at_19) rfl (decide_eq_true rfl) (by decide) (by decide) ?_
    show Steps p.tables e below (T2.setTop (mkF m 22 #[.val (.int p0), .val (.int (5 : Int32)), .val (.ref w_INTERVAL_5)] [])) _
    refine XS.aloadN X2.here hx rfl (hb hby at_22) rfl rfl ?_
    show Steps p.tables e below (T2.setTop (mkF m 23 #[.val (.int p0), .val (.int (5 : Int32)), .val (.ref w_INTERVAL_5)] [(.ref w_INTERVAL_5)])) _
    refine st3.trans ?_
    show Steps p.tables e below (T3.setTop (mkF m 26 #[.val (.int p0), .val (.int (5 : Int32)), .val (.ref w_INTERVAL_5)] [(.int (5 : Int32))])) _
    refine XS.iloadN X3.here hx rfl (hb hby at_26) rfl ?_
    show Steps p.tables e below (T3.setTop (mkF m 27 #[.val (.int p0), .val (.int (5 : Int32)), .val (.ref w_INTERVAL_5)] [(.int (5 : Int32)), (.int (5 : Int32))])) _
    refine XS.icmpNo X3.here hx rfl (hb hby at_27) rfl (teq (by decide : (5 : Int32) = (5 : Int32))).2 ?_
    show Steps p.tables e below (T3.setTop (mkF m 30 #[.val (.int p0), .val (.int (5 : Int32)), .val (.ref w_INTERVAL_5)] [])) _
    refine XS.aloadN X3.here hx rfl (hb hby at_30) rfl rfl ?_
    show Steps p.tables e below (T3.setTop (mkF m 31 #[.val (.int p0), .val (.int (5 : Int32)), .val (.ref w_INTERVAL_5)] [(.ref w_INTERVAL_5)])) _
    refine st4.trans ?_
    show Steps p.tables e below (T4.setTop (mkF m 34 #[.val (.int p0), .val (.int (5 : Int32)), .val (.ref w_INTERVAL_5)] [(.int (17 : Int32))])) _
    refine XS.iconst X4.here hx rfl (hb hby at_34) ?_
    show Steps p.tables e below (T4.setTop (mkF m 35 #[.val (.int p0), .val (.int (5 : Int32)), .val (.ref w_INTERVAL_5)] [(.int (4 : Int32)), (.int (17 : Int32))])) _
    refine XS.iloadN X4.here hx rfl (hb hby at_35) rfl ?_
    show Steps p.tables e below (T4.setTop (mkF m 36 #[.val (.int p0), .val (.int (5 : Int32)), .val (.ref w_INTERVAL_5)] [(.int (5 : Int32)), (.int (4 : Int32)), (.int (17 : Int32))])) _
    refine XS.imul X4.here hx rfl (hb hby at_36) rfl ?_
    show Steps p.tables e below (T4.setTop (mkF m 37 #[.val (.int p0), .val (.int (5 : Int32)), .val (.ref w_INTERVAL_5)] [(.int ((4 : Int32) * (5 : Int32))), (.int (17 : Int32))])) _
    rw [(show ((4 : Int32) * (5 : Int32)) = (20 : Int32) from by decide)]
    show Steps p.tables e below (T4.setTop (mkF m 37 #[.val (.int p0), .val (.int (5 : Int32)), .val (.ref w_INTERVAL_5)] [(.int (20 : Int32)), (.int (17 : Int32))])) _
    refine XS.iconst X4.here hx rfl (hb hby at_37) ?_
    show Steps p.tables e below (T4.setTop (mkF m 38 #[.val (.int p0), .val (.int (5 : Int32)), .val (.ref w_INTERVAL_5)] [(.int (3 : Int32)), (.int (20 : Int32)), (.int (17 : Int32))])) _
    refine XS.isub X4.here hx rfl (hb hby at_38) rfl ?_
    show Steps p.tables e below (T4.setTop (mkF m 39 #[.val (.int p0), .val (.int (5 : Int32)), .val (.ref w_INTERVAL_5)] [(.int ((20 : Int32) - (3 : Int32))), (.int (17 : Int32))])) _
    rw [(show ((20 : Int32) - (3 : Int32)) = (17 : Int32) from by decide)]
    show Steps p.tables e below (T4.setTop (mkF m 39 #[.val (.int p0), .val (.int (5 : Int32)), .val (.ref w_INTERVAL_5)] [(.int (17 : Int32)), (.int (17 : Int32))])) _
    refine XS.icmpNo X4.here hx rfl (hb hby at_39) rfl (teq (by decide : (17 : Int32) = (17 : Int32))).2 ?_
    show Steps p.tables e below (T4.setTop (mkF m 42 #[.val (.int p0), .val (.int (5 : Int32)), .val (.ref w_INTERVAL_5)] [])) _
    refine XS.iconst X4.here hx rfl (hb hby at_42) ?_
    show Steps p.tables e below (T4.setTop (mkF m 43 #[.val (.int p0), .val (.int (5 : Int32)), .val (.ref w_INTERVAL_5)] [(.int (1 : Int32))])) _
    refine XS.goto X4.here hx rfl (pc0 := 43) (pc' := 47) rfl (hb hby at_43) (by decide) (by decide) ?_
    show Steps p.tables e below (T4.setTop (mkF m 47 #[.val (.int p0), .val (.int (5 : Int32)), .val (.ref w_INTERVAL_5)] [(.int (1 : Int32))])) _
    exact retOut X4 hx Bd.returns rfl (Or.inl ⟨rfl, Or.inr (Or.inl rfl), _, rfl⟩) (hb hby at_47) hr
  · exact ⟨rfl, N4⟩
set_option maxRecDepth 65536 in
set_option maxHeartbeats 40000000 in
theorem comes_1 {Post : Tables → Env → Array Value → State → Outcome → State → Prop} (hpost : ∀ tb e args s v u, (limb_1_1.after args s (.returned v) u = true ∧ limb_1_2.after args s (.returned v) u = true) → FrameEnd s (.returned v) u (Jvm.fieldLocs frame_1_writes args s ++ Jvm.arrayLocs frame_1_arrays args s ++ Jvm.staticLocs frame_1_statics s) 0 0 → Post tb e args s (.returned v) u) :
    ArmFor flags0 classFile x code maxLocals ret World_1 tables_1 room_1 Calls_1 rest_1 Pre_1 Post := by
  intro l hfl _ _ p e ha hc hk s m args below hf hA hF happ hP
  obtain ⟨hcalls, hrest, hpre⟩ := hP
  obtain ⟨-, -, -, hnamed, -, -, -, hat⟩ := (Spec.applies_iff hf).mp happ
  obtain ⟨hg, n⟩ := and_e (Cond.before_iff.mp (show (Jvm.Cond.and given_1 narrow_1).before args s = true from hpre))
  obtain ⟨gc, g0⟩ := and_e hg
  obtain ⟨w0, rfl⟩ : ∃ w0 : Value, args = #[w0] := by
    have hs : args.size = 1 := by simpa [Cond.value, given_1] using gc
    obtain ⟨L⟩ := args
    match L, hs with
    | [w0], _ => exact ⟨w0, rfl⟩
  have hw := fun d (hd : d ∈ tables_1) => atoms_spec (ws := Jvm.Cond.code x code maxLocals ret :: tables_1) hat d (List.mem_cons_of_mem _ hd)
  obtain ⟨i0, ei0⟩ := is_v g0
  obtain rfl : w0 = (.int i0) := Option.some.inj ei0
  obtain ⟨n1, n2⟩ := and_e n
  obtain ⟨n21, n22⟩ := and_e n2
  obtain ⟨n221, n222⟩ := and_e n22
  obtain ⟨n2221, n2222⟩ := and_e n222
  obtain ⟨n22221, n22222⟩ := and_e n2222
  obtain ⟨n222221, n222222⟩ := and_e n22222
  obtain ⟨n2222221, n2222222⟩ := and_e n222222
  obtain ⟨n22222221, n22222222⟩ := and_e n2222222
  obtain ⟨n222222221, n222222222⟩ := and_e n22222222
  obtain ⟨n2222222221, n2222222222⟩ := and_e n222222222
  obtain ⟨n22222222221, n22222222222⟩ := and_e n2222222222
  obtain ⟨n222222222221, n222222222222⟩ := and_e n22222222222
  obtain ⟨n2222222222221, n2222222222222⟩ := and_e n222222222222
  obtain ⟨n22222222222221, n22222222222222⟩ := and_e n2222222222222
  obtain ⟨n222222222222221, n222222222222222⟩ := and_e n22222222222222
  obtain ⟨n2222222222222221, n2222222222222222⟩ := and_e n222222222222222
  obtain ⟨n22222222222222221, n22222222222222222⟩ := and_e n2222222222222222
  obtain ⟨n222222222222222221, n222222222222222222⟩ := and_e n22222222222222222
  obtain ⟨n2222222222222222221, n2222222222222222222⟩ := and_e n222222222222222222
  obtain ⟨n22222222222222222221, n22222222222222222222⟩ := and_e n2222222222222222222
  obtain ⟨n222222222222222222221, n222222222222222222222⟩ := and_e n22222222222222222222
  obtain ⟨w_IN_ORDER, v_w_IN_ORDER⟩ := arr_v n1
  have S_w_IN_ORDER : Sta s s.heap "com/example/gasreckon/gasreckon/model/SchedulingInterval" "IN_ORDER" "[Lcom/example/gasreckon/gasreckon/model/SchedulingInterval;" (.ref w_IN_ORDER) := Sta.start v_w_IN_ORDER (Or.inr ⟨(hw _ (List.mem_of_getElem? (i := 3) rfl)), (hw _ (List.mem_of_getElem? (i := 6) rfl))⟩)
  obtain ⟨c_w_IN_ORDER, A_w_IN_ORDER⟩ := Arr.start v_w_IN_ORDER n1
  have L_w_IN_ORDER := own_len v_w_IN_ORDER A_w_IN_ORDER n21 (n := 5) (by decide)
  obtain ⟨w_INTERVAL_1, v_w_INTERVAL_1⟩ := exa_v n221
  have S_w_INTERVAL_1 : Sta s s.heap "com/example/gasreckon/gasreckon/model/SchedulingInterval" "INTERVAL_1" "Lcom/example/gasreckon/gasreckon/model/SchedulingInterval;" (.ref w_INTERVAL_1) := Sta.start v_w_INTERVAL_1 (Or.inr ⟨(hw _ (List.mem_of_getElem? (i := 3) rfl)), (hw _ (List.mem_of_getElem? (i := 7) rfl))⟩)
  have E_w_INTERVAL_1 := Exa.start v_w_INTERVAL_1 n221
  have M_w_IN_ORDER_0 := own_elem v_w_IN_ORDER A_w_IN_ORDER v_w_INTERVAL_1 n2221 (n := 0) (by decide)
  have F_ordinal_w_INTERVAL_1 := own_fld v_w_INTERVAL_1 n22221
  have F_firstHour_w_INTERVAL_1 := own_fld v_w_INTERVAL_1 n222221
  obtain ⟨w_INTERVAL_4, v_w_INTERVAL_4⟩ := exa_v n2222221
  have S_w_INTERVAL_4 : Sta s s.heap "com/example/gasreckon/gasreckon/model/SchedulingInterval" "INTERVAL_4" "Lcom/example/gasreckon/gasreckon/model/SchedulingInterval;" (.ref w_INTERVAL_4) := Sta.start v_w_INTERVAL_4 (Or.inr ⟨(hw _ (List.mem_of_getElem? (i := 3) rfl)), (hw _ (List.mem_of_getElem? (i := 34) rfl))⟩)
  have E_w_INTERVAL_4 := Exa.start v_w_INTERVAL_4 n2222221
  have M_w_IN_ORDER_3 := own_elem v_w_IN_ORDER A_w_IN_ORDER v_w_INTERVAL_4 n22222221 (n := 3) (by decide)
  have F_ordinal_w_INTERVAL_4 := own_fld v_w_INTERVAL_4 n222222221
  have F_firstHour_w_INTERVAL_4 := own_fld v_w_INTERVAL_4 n2222222221
  obtain ⟨w_INTERVAL_2, v_w_INTERVAL_2⟩ := exa_v n22222222221
  have S_w_INTERVAL_2 : Sta s s.heap "com/example/gasreckon/gasreckon/model/SchedulingInterval" "INTERVAL_2" "Lcom/example/gasreckon/gasreckon/model/SchedulingInterval;" (.ref w_INTERVAL_2) := Sta.start v_w_INTERVAL_2 (Or.inr ⟨(hw _ (List.mem_of_getElem? (i := 3) rfl)), (hw _ (List.mem_of_getElem? (i := 36) rfl))⟩)
  have E_w_INTERVAL_2 := Exa.start v_w_INTERVAL_2 n22222222221
  have M_w_IN_ORDER_1 := own_elem v_w_IN_ORDER A_w_IN_ORDER v_w_INTERVAL_2 n222222222221 (n := 1) (by decide)
  have F_ordinal_w_INTERVAL_2 := own_fld v_w_INTERVAL_2 n2222222222221
  have F_firstHour_w_INTERVAL_2 := own_fld v_w_INTERVAL_2 n22222222222221
  obtain ⟨w_INTERVAL_5, v_w_INTERVAL_5⟩ := exa_v n222222222222221
  have S_w_INTERVAL_5 : Sta s s.heap "com/example/gasreckon/gasreckon/model/SchedulingInterval" "INTERVAL_5" "Lcom/example/gasreckon/gasreckon/model/SchedulingInterval;" (.ref w_INTERVAL_5) := Sta.start v_w_INTERVAL_5 (Or.inr ⟨(hw _ (List.mem_of_getElem? (i := 3) rfl)), (hw _ (List.mem_of_getElem? (i := 38) rfl))⟩)
  have E_w_INTERVAL_5 := Exa.start v_w_INTERVAL_5 n222222222222221
  have M_w_IN_ORDER_4 := own_elem v_w_IN_ORDER A_w_IN_ORDER v_w_INTERVAL_5 n2222222222222221 (n := 4) (by decide)
  have F_ordinal_w_INTERVAL_5 := own_fld v_w_INTERVAL_5 n22222222222222221
  have F_firstHour_w_INTERVAL_5 := own_fld v_w_INTERVAL_5 n222222222222222221
  obtain ⟨w_INTERVAL_3, v_w_INTERVAL_3⟩ := exa_v n2222222222222222221
  have S_w_INTERVAL_3 : Sta s s.heap "com/example/gasreckon/gasreckon/model/SchedulingInterval" "INTERVAL_3" "Lcom/example/gasreckon/gasreckon/model/SchedulingInterval;" (.ref w_INTERVAL_3) := Sta.start v_w_INTERVAL_3 (Or.inr ⟨(hw _ (List.mem_of_getElem? (i := 3) rfl)), (hw _ (List.mem_of_getElem? (i := 40) rfl))⟩)
  have E_w_INTERVAL_3 := Exa.start v_w_INTERVAL_3 n2222222222222222221
  have M_w_IN_ORDER_2 := own_elem v_w_IN_ORDER A_w_IN_ORDER v_w_INTERVAL_3 n22222222222222222221 (n := 2) (by decide)
  have F_ordinal_w_INTERVAL_3 := own_fld v_w_INTERVAL_3 n222222222222222222221
  have F_firstHour_w_INTERVAL_3 := own_fld v_w_INTERVAL_3 n222222222222222222222
  have G : Glob s s.heap w_IN_ORDER c_w_IN_ORDER w_INTERVAL_1 w_INTERVAL_4 w_INTERVAL_2 w_INTERVAL_5 w_INTERVAL_3 := ⟨S_w_IN_ORDER, A_w_IN_ORDER, L_w_IN_ORDER, S_w_INTERVAL_1, E_w_INTERVAL_1, M_w_IN_ORDER_0, F_ordinal_w_INTERVAL_1, F_firstHour_w_INTERVAL_1, S_w_INTERVAL_4, E_w_INTERVAL_4, M_w_IN_ORDER_3, F_ordinal_w_INTERVAL_4, F_firstHour_w_INTERVAL_4, S_w_INTERVAL_2, E_w_INTERVAL_2, M_w_IN_ORDER_1, F_ordinal_w_INTERVAL_2, F_firstHour_w_INTERVAL_2, S_w_INTERVAL_5, E_w_INTERVAL_5, M_w_IN_ORDER_4, F_ordinal_w_INTERVAL_5, F_firstHour_w_INTERVAL_5, S_w_INTERVAL_3, E_w_INTERVAL_3, M_w_IN_ORDER_2, F_ordinal_w_INTERVAL_3, F_firstHour_w_INTERVAL_3⟩
  rcases own_cases_rem5 i0 with hi | hi | hi | hi | hi
  · obtain ⟨n, o, h1, h2, h3, _, L, rfl, ⟨rfl, N⟩, hq⟩ := law_0 l s _ hw tables_1 w_IN_ORDER c_w_IN_ORDER w_INTERVAL_1 w_INTERVAL_4 w_INTERVAL_2 w_INTERVAL_5 w_INTERVAL_3 s.heap s.heap.size (Nat.le_refl _) G i0 hi p e ha hc hk s m _ below hf ((Spec.applies_iff_loose hf).mp happ).1 ⟨rfl, State.Warmed39.refl s, rfl⟩ trivial
    exact ⟨n, _, h1, h2, h3, hpost _ _ _ _ _ _ ⟨Cond.after_iff.mpr rfl, Cond.after_iff.mpr (eq_i res_at (Term.int_eval (1)) rfl)⟩ ⟨hq.1, hq.2.1, (hq.2.2.sift fun y hy => Or.inr (N y hy)).mono (by decide) (by decide)⟩⟩
  · obtain ⟨n, o, h1, h2, h3, _, L, rfl, ⟨rfl, N⟩, hq⟩ := law_1 l s _ hw tables_1 w_IN_ORDER c_w_IN_ORDER w_INTERVAL_1 w_INTERVAL_4 w_INTERVAL_2 w_INTERVAL_5 w_INTERVAL_3 s.heap s.heap.size (Nat.le_refl _) G i0 hi p e ha hc hk s m _ below hf ((Spec.applies_iff_loose hf).mp happ).1 ⟨rfl, State.Warmed39.refl s, rfl⟩ trivial
    exact ⟨n, _, h1, h2, h3, hpost _ _ _ _ _ _ ⟨Cond.after_iff.mpr rfl, Cond.after_iff.mpr (eq_i res_at (Term.int_eval (1)) rfl)⟩ ⟨hq.1, hq.2.1, (hq.2.2.sift fun y hy => Or.inr (N y hy)).mono (by decide) (by decide)⟩⟩
  · obtain ⟨n, o, h1, h2, h3, _, L, rfl, ⟨rfl, N⟩, hq⟩ := law_2 l s _ hw tables_1 w_IN_ORDER c_w_IN_ORDER w_INTERVAL_1 w_INTERVAL_4 w_INTERVAL_2 w_INTERVAL_5 w_INTERVAL_3 s.heap s.heap.size (Nat.le_refl _) G i0 hi p e ha hc hk s m _ below hf ((Spec.applies_iff_loose hf).mp happ).1 ⟨rfl, State.Warmed39.refl s, rfl⟩ trivial
    exact ⟨n, _, h1, h2, h3, hpost _ _ _ _ _ _ ⟨Cond.after_iff.mpr rfl, Cond.after_iff.mpr (eq_i res_at (Term.int_eval (1)) rfl)⟩ ⟨hq.1, hq.2.1, (hq.2.2.sift fun y hy => Or.inr (N y hy)).mono (by decide) (by decide)⟩⟩
  · obtain ⟨n, o, h1, h2, h3, _, L, rfl, ⟨rfl, N⟩, hq⟩ := law_3 l s _ hw tables_1 w_IN_ORDER c_w_IN_ORDER w_INTERVAL_1 w_INTERVAL_4 w_INTERVAL_2 w_INTERVAL_5 w_INTERVAL_3 s.heap s.heap.size (Nat.le_refl _) G i0 hi p e ha hc hk s m _ below hf ((Spec.applies_iff_loose hf).mp happ).1 ⟨rfl, State.Warmed39.refl s, rfl⟩ trivial
    exact ⟨n, _, h1, h2, h3, hpost _ _ _ _ _ _ ⟨Cond.after_iff.mpr rfl, Cond.after_iff.mpr (eq_i res_at (Term.int_eval (1)) rfl)⟩ ⟨hq.1, hq.2.1, (hq.2.2.sift fun y hy => Or.inr (N y hy)).mono (by decide) (by decide)⟩⟩
  · obtain ⟨n, o, h1, h2, h3, _, L, rfl, ⟨rfl, N⟩, hq⟩ := law_4 l s _ hw tables_1 w_IN_ORDER c_w_IN_ORDER w_INTERVAL_1 w_INTERVAL_4 w_INTERVAL_2 w_INTERVAL_5 w_INTERVAL_3 s.heap s.heap.size (Nat.le_refl _) G i0 hi p e ha hc hk s m _ below hf ((Spec.applies_iff_loose hf).mp happ).1 ⟨rfl, State.Warmed39.refl s, rfl⟩ trivial
    exact ⟨n, _, h1, h2, h3, hpost _ _ _ _ _ _ ⟨Cond.after_iff.mpr rfl, Cond.after_iff.mpr (eq_i res_at (Term.int_eval (1)) rfl)⟩ ⟨hq.1, hq.2.1, (hq.2.2.sift fun y hy => Or.inr (N y hy)).mono (by decide) (by decide)⟩⟩
theorem main_1_1 : Claimed_1_1 := comes_1 fun _ _ _ _ _ _ h hF => ⟨h.1, hF⟩
theorem main_1_2 : Claimed_1_2 := comes_1 fun _ _ _ _ _ _ h hF => ⟨h.2, hF⟩
end Jvm.Pilot.@@N@@
namespace Jvm.Pilot.@@N@@
open Jvm Jvm.ClassFile Sem Op Lib Jvm.Free Jvm.Stand Jvm.Pilot.@@N@@.Jvm.D
/-! MADE BY PROGRAM (witnessworld.py) out of the Statement's table words and the real class files: 13 classes; the members and pool entries that the words name. The judged class is class 1, her method 2. -/
namespace start1
open Jvm.ClassFile
def u (s : String) : CpInfo := .utf8 (stringToUtf16 s)
/-- a pool by its gaps: so many unusable entries, then the entry; so many at the end -/
def gap : Nat → List CpInfo → List CpInfo
  | 0, r => r
  | n + 1, r => .unusable :: gap n r
def poolList (es : List (Nat × CpInfo)) (last : Nat) : List CpInfo := es.foldr (fun e r => gap e.1 (e.2 :: r)) (gap last [])
def pool (es : List (Nat × CpInfo)) (last : Nat) : Array CpInfo := ⟨poolList es last⟩
def fileOf (pool : Array CpInfo) (this : Nat) (attrs : Array Attribute := #[]) (ms : Array MethodInfo := #[]) (fl : Nat := 33) (sup : Nat := 0) (ifs : Array Nat := #[]) (fds : Array FieldInfo := #[]) : ClassFile where
  minorVersion := 0
  majorVersion := 65
  constantPool := pool
  accessFlags := fl
  thisClass := this
  superClass := sup
  interfaces := ifs
  fields := fds
  methods := ms
  attributes := attrs
def plain (name : String) (sup : Option ClassId) : Class where
  name := name
  kind := .ordinary
  loader := none
  accessFlags := 33
  super := sup
  interfaces := #[]
  cf := none
  fields := #[]
  methods := #[]
  instanceTypes := #[]
  staticTypes := #[]
  resolved := #[]
  callSites := []
  init := .initialized
  statics := none
  mirror := none

def pool0 : Array CpInfo := pool [(5, u "<init>"), (0, u "()V"), (1, .class_ 10), (1, u "java/lang/Object")] 113

def k0m0 : Method := { name := "<init>", desc := "()V", sig := { parameters := [], returnType := none }, accessFlags := 1, code := none }
/-- java/lang/Object -/
def k0 : Class := { plain "java/lang/Object" none with
  accessFlags := 33
  interfaces := #[]
  cf := some (fileOf pool0 8 #[] #[{ accessFlags := 1, nameIndex := 5, descriptorIndex := 6, attributes := #[] }] 33 0 #[] #[])
  fields := #[]
  methods := #[k0m0]
  instanceTypes := #[]
  staticTypes := #[]
  resolved := Array.replicate 124 none
  statics := none }

def pool1 : Array CpInfo := pool [(2, .class_ 4), (1, u "java/lang/Object"), (0, u "<init>"), (0, u "()V"), (0, .fieldref 8 9), (0, .class_ 10), (0, .nameAndType 11 12), (0, u "com/example/gasreckon/gasreckon/model/SchedulingInterval"), (0, u "INTERVAL_1"), (0, u "Lcom/example/gasreckon/gasreckon/model/SchedulingInterval;"), (0, .fieldref 8 14), (0, .nameAndType 15 12), (0, u "INTERVAL_2"), (0, .fieldref 8 17), (0, .nameAndType 18 12), (0, u "INTERVAL_3"), (0, .fieldref 8 20), (0, .nameAndType 21 12), (0, u "INTERVAL_4"), (0, .fieldref 8 23), (0, .nameAndType 24 12), (0, u "INTERVAL_5"), (0, .integer 2147483647), (0, .methodref 8 27), (0, .nameAndType 28 29), (0, u "of"), (0, u "(I)Lcom/example/gasreckon/gasreckon/model/SchedulingInterval;"), (0, .methodref 31 32), (0, .class_ 33), (0, .nameAndType 34 29), (0, u "com/example/gasreckon/gasreckon/model/SchedulingIntervalOfPinLaw"), (0, u "expected"), (0, .methodref 8 36), (0, .nameAndType 37 38), (0, u "number"), (0, u "()I"), (0, .methodref 8 40), (0, .nameAndType 41 38), (0, u "firstHour"), (3, u "law"), (0, u "(I)Z")] 2

def k1m0 : Method := { name := "<init>", desc := "()V", sig := { parameters := [], returnType := none }, accessFlags := 2, code := none }
def k1c1 : Code := { maxStack := 2, maxLocals := 1, code := method_2_code, exceptionTable := #[], attributes := #[] }
def k1m1 : Method := { name := "expected", desc := "(I)Lcom/example/gasreckon/gasreckon/model/SchedulingInterval;", sig := { parameters := [.int], returnType := some (.object "com/example/gasreckon/gasreckon/model/SchedulingInterval") }, accessFlags := 10, code := some k1c1 }
def k1c2 : Code := { maxStack := 3, maxLocals := 3, code := code, exceptionTable := #[], attributes := #[] }
def k1m2 : Method := { name := "law", desc := "(I)Z", sig := { parameters := [.int], returnType := some .boolean }, accessFlags := 9, code := some k1c2 }
/-- com/example/gasreckon/gasreckon/model/SchedulingIntervalOfPinLaw -/
def k1 : Class := { plain "com/example/gasreckon/gasreckon/model/SchedulingIntervalOfPinLaw" (some 0) with
  accessFlags := 49
  interfaces := #[]
  cf := some (fileOf pool1 31 #[] #[{ accessFlags := 2, nameIndex := 5, descriptorIndex := 6, attributes := #[] }, { accessFlags := 10, nameIndex := 34, descriptorIndex := 29, attributes := #[] }, { accessFlags := 9, nameIndex := 45, descriptorIndex := 46, attributes := #[] }] 49 2 #[] #[])
  fields := #[]
  methods := #[k1m0, k1m1, k1m2]
  instanceTypes := #[]
  staticTypes := #[]
  resolved := Array.replicate 49 none
  statics := none }

def pool2 : Array CpInfo := pool [(1, .class_ 2), (0, u "java/lang/constant/Constable"), (0, .class_ 4), (0, u "java/lang/Object")] 6

/-- java/lang/constant/Constable -/
def k2 : Class := { plain "java/lang/constant/Constable" (some 0) with
  accessFlags := 1537
  interfaces := #[]
  cf := some (fileOf pool2 1 #[] #[] 1537 3 #[] #[])
  fields := #[]
  methods := #[]
  instanceTypes := #[]
  staticTypes := #[]
  resolved := Array.replicate 11 none
  statics := none }

def pool3 : Array CpInfo := pool [(1, .class_ 2), (0, u "java/lang/Comparable"), (0, .class_ 4), (0, u "java/lang/Object")] 7

/-- java/lang/Comparable -/
def k3 : Class := { plain "java/lang/Comparable" (some 0) with
  accessFlags := 1537
  interfaces := #[]
  cf := some (fileOf pool3 1 #[] #[] 1537 3 #[] #[])
  fields := #[]
  methods := #[]
  instanceTypes := #[]
  staticTypes := #[]
  resolved := Array.replicate 12 none
  statics := none }

def pool4 : Array CpInfo := pool [(1, .class_ 2), (0, u "java/io/Serializable"), (0, .class_ 4), (0, u "java/lang/Object")] 2

/-- java/io/Serializable -/
def k4 : Class := { plain "java/io/Serializable" (some 0) with
  accessFlags := 1537
  interfaces := #[]
  cf := some (fileOf pool4 1 #[] #[] 1537 3 #[] #[])
  fields := #[]
  methods := #[]
  instanceTypes := #[]
  staticTypes := #[]
  resolved := Array.replicate 7 none
  statics := none }

def pool5 : Array CpInfo := pool [(2, .class_ 4), (1, u "java/lang/Enum"), (0, u "name"), (0, u "Ljava/lang/String;"), (0, .fieldref 2 8), (0, .nameAndType 9 10), (0, u "ordinal"), (0, u "I"), (1, .class_ 14), (1, u "java/lang/Object"), (4, u "hash"), (86, .class_ 108), (1, u "java/lang/Enum$EnumDesc"), (2, .class_ 112), (0, u "java/lang/constant/Constable"), (0, .class_ 114), (0, u "java/lang/Comparable"), (0, .class_ 116), (0, u "java/io/Serializable"), (9, u "()I")] 77

def k5c0 : Code := { maxStack := 1, maxLocals := 1, code := jdk_37_method_2_code, exceptionTable := #[], attributes := #[] }
def k5m0 : Method := { name := "ordinal", desc := "()I", sig := { parameters := [], returnType := some .int }, accessFlags := 17, code := some k5c0 }
/-- java/lang/Enum -/
def k5 : Class := { plain "java/lang/Enum" (some 0) with
  accessFlags := 1057
  interfaces := #[2, 3, 4]
  cf := some (fileOf pool5 2 #[.nestMembers #[106]] #[{ accessFlags := 17, nameIndex := 9, descriptorIndex := 126, attributes := #[] }] 1057 12 #[111, 113, 115] #[{ accessFlags := 18, nameIndex := 5, descriptorIndex := 6, attributes := #[] }, { accessFlags := 18, nameIndex := 9, descriptorIndex := 10, attributes := #[] }, { accessFlags := 2, nameIndex := 19, descriptorIndex := 10, attributes := #[] }])
  fields := #[{ name := "name", type := (.object "java/lang/String"), accessFlags := 18, slot := 0, constantValue := 0 }, { name := "ordinal", type := .int, accessFlags := 18, slot := 1, constantValue := 0 }, { name := "hash", type := .int, accessFlags := 2, slot := 2, constantValue := 0 }]
  methods := #[k5m0]
  instanceTypes := #[(.object "java/lang/String"), .int, .int]
  staticTypes := #[]
  resolved := Array.replicate 204 none
  statics := none }

def pool6 : Array CpInfo := pool [(1, .class_ 2), (0, u "com/example/gasreckon/gasreckon/model/SchedulingInterval"), (2, u "INTERVAL_1"), (0, u "Lcom/example/gasreckon/gasreckon/model/SchedulingInterval;"), (2, u "INTERVAL_2"), (2, u "INTERVAL_3"), (2, u "INTERVAL_4"), (2, u "INTERVAL_5"), (2, u "$VALUES"), (0, u "[Lcom/example/gasreckon/gasreckon/model/SchedulingInterval;"), (6, .class_ 31), (1, u "java/lang/Enum"), (6, .fieldref 1 39), (0, .nameAndType 40 41), (0, u "firstHour"), (0, u "I"), (2, u "hours"), (0, .fieldref 1 46), (0, .nameAndType 47 22), (0, u "IN_ORDER"), (12, u "of"), (0, u "(I)Lcom/example/gasreckon/gasreckon/model/SchedulingInterval;"), (18, u "PER_GAS_DAY"), (15, u "()I"), (34, .methodref 1 132), (0, .nameAndType 133 96), (0, u "ordinal"), (2, u "number"), (2, u "GAS_DAY_START"), (0, u "Ljava/time/LocalTime;"), (24, u "HOURS_PER_GAS_DAY")] 53

def k6c0 : Code := { maxStack := 3, maxLocals := 1, code := prog_42_method_4_code, exceptionTable := #[], attributes := #[] }
def k6m0 : Method := { name := "of", desc := "(I)Lcom/example/gasreckon/gasreckon/model/SchedulingInterval;", sig := { parameters := [.int], returnType := some (.object "com/example/gasreckon/gasreckon/model/SchedulingInterval") }, accessFlags := 9, code := some k6c0 }
def k6c1 : Code := { maxStack := 2, maxLocals := 1, code := prog_42_method_11_code, exceptionTable := #[], attributes := #[] }
def k6m1 : Method := { name := "number", desc := "()I", sig := { parameters := [], returnType := some .int }, accessFlags := 1, code := some k6c1 }
def k6c2 : Code := { maxStack := 1, maxLocals := 1, code := prog_42_method_14_code, exceptionTable := #[], attributes := #[] }
def k6m2 : Method := { name := "firstHour", desc := "()I", sig := { parameters := [], returnType := some .int }, accessFlags := 1, code := some k6c2 }
/-- com/example/gasreckon/gasreckon/model/SchedulingInterval -/
def k6 : Class := { plain "com/example/gasreckon/gasreckon/model/SchedulingInterval" (some 5) with
  accessFlags := 16433
  interfaces := #[]
  cf := some (fileOf pool6 1 #[] #[{ accessFlags := 9, nameIndex := 60, descriptorIndex := 61, attributes := #[] }, { accessFlags := 1, nameIndex := 136, descriptorIndex := 96, attributes := #[] }, { accessFlags := 1, nameIndex := 40, descriptorIndex := 96, attributes := #[] }] 16433 29 #[] #[{ accessFlags := 16409, nameIndex := 5, descriptorIndex := 6, attributes := #[] }, { accessFlags := 16409, nameIndex := 9, descriptorIndex := 6, attributes := #[] }, { accessFlags := 16409, nameIndex := 12, descriptorIndex := 6, attributes := #[] }, { accessFlags := 16409, nameIndex := 15, descriptorIndex := 6, attributes := #[] }, { accessFlags := 16409, nameIndex := 18, descriptorIndex := 6, attributes := #[] }, { accessFlags := 25, nameIndex := 139, descriptorIndex := 140, attributes := #[] }, { accessFlags := 25, nameIndex := 165, descriptorIndex := 41, attributes := #[] }, { accessFlags := 25, nameIndex := 80, descriptorIndex := 41, attributes := #[] }, { accessFlags := 26, nameIndex := 47, descriptorIndex := 22, attributes := #[] }, { accessFlags := 18, nameIndex := 40, descriptorIndex := 41, attributes := #[] }, { accessFlags := 18, nameIndex := 44, descriptorIndex := 41, attributes := #[] }, { accessFlags := 4122, nameIndex := 21, descriptorIndex := 22, attributes := #[] }])
  fields := #[{ name := "INTERVAL_1", type := (.object "com/example/gasreckon/gasreckon/model/SchedulingInterval"), accessFlags := 16409, slot := 0, constantValue := 0 }, { name := "INTERVAL_2", type := (.object "com/example/gasreckon/gasreckon/model/SchedulingInterval"), accessFlags := 16409, slot := 1, constantValue := 0 }, { name := "INTERVAL_3", type := (.object "com/example/gasreckon/gasreckon/model/SchedulingInterval"), accessFlags := 16409, slot := 2, constantValue := 0 }, { name := "INTERVAL_4", type := (.object "com/example/gasreckon/gasreckon/model/SchedulingInterval"), accessFlags := 16409, slot := 3, constantValue := 0 }, { name := "INTERVAL_5", type := (.object "com/example/gasreckon/gasreckon/model/SchedulingInterval"), accessFlags := 16409, slot := 4, constantValue := 0 }, { name := "GAS_DAY_START", type := (.object "java/time/LocalTime"), accessFlags := 25, slot := 5, constantValue := 0 }, { name := "HOURS_PER_GAS_DAY", type := .int, accessFlags := 25, slot := 6, constantValue := 0 }, { name := "PER_GAS_DAY", type := .int, accessFlags := 25, slot := 7, constantValue := 0 }, { name := "IN_ORDER", type := (.array (.object "com/example/gasreckon/gasreckon/model/SchedulingInterval")), accessFlags := 26, slot := 8, constantValue := 0 }, { name := "firstHour", type := .int, accessFlags := 18, slot := 3, constantValue := 0 }, { name := "hours", type := .int, accessFlags := 18, slot := 4, constantValue := 0 }, { name := "$VALUES", type := (.array (.object "com/example/gasreckon/gasreckon/model/SchedulingInterval")), accessFlags := 4122, slot := 9, constantValue := 0 }]
  methods := #[k6m0, k6m1, k6m2]
  instanceTypes := #[(.object "java/lang/String"), .int, .int, .int, .int]
  staticTypes := #[(.object "com/example/gasreckon/gasreckon/model/SchedulingInterval"), (.object "com/example/gasreckon/gasreckon/model/SchedulingInterval"), (.object "com/example/gasreckon/gasreckon/model/SchedulingInterval"), (.object "com/example/gasreckon/gasreckon/model/SchedulingInterval"), (.object "com/example/gasreckon/gasreckon/model/SchedulingInterval"), (.object "java/time/LocalTime"), .int, .int, (.array (.object "com/example/gasreckon/gasreckon/model/SchedulingInterval")), (.array (.object "com/example/gasreckon/gasreckon/model/SchedulingInterval"))]
  resolved := Array.replicate 219 none
  statics := some 0 }

def pool7 : Array CpInfo := pool [(1, u "java/lang/Cloneable"), (0, .class_ 1), (0, u "java/lang/Object"), (0, .class_ 3)] 3

/-- java/lang/Cloneable -/
def k7 : Class := { plain "java/lang/Cloneable" (some 0) with
  accessFlags := 1537
  interfaces := #[]
  cf := some (fileOf pool7 2 #[] #[] 1537 4 #[] #[])
  fields := #[]
  methods := #[]
  instanceTypes := #[]
  staticTypes := #[]
  resolved := Array.replicate 8 none
  statics := none }

/-- the primitive byte -/
def k8 : Class := { plain "byte" none with kind := .primitive 'B', accessFlags := 0x411 }
/-- [B -/
def k9 : Class := { plain "[B" (some 0) with kind := .array 8 .byte, interfaces := #[7, 4], accessFlags := 1041 }

/-- the primitive int -/
def k10 : Class := { plain "int" none with kind := .primitive 'I', accessFlags := 0x411 }
/-- [I -/
def k11 : Class := { plain "[I" (some 0) with kind := .array 10 .int, interfaces := #[7, 4], accessFlags := 1041 }

/-- [Lcom/example/gasreckon/gasreckon/model/SchedulingInterval; -/
def k12 : Class := { plain "[Lcom/example/gasreckon/gasreckon/model/SchedulingInterval;" (some 0) with kind := .array 6 (.object "com/example/gasreckon/gasreckon/model/SchedulingInterval"), interfaces := #[7, 4], accessFlags := 1041 }

def heap : Heap := #[{ cls := 6, slots := #[.ref 2, .ref 4, .ref 6, .ref 3, .ref 5, .null, .int 0, .int 0, .ref 1, .null], vm := .statics 6 },
  { cls := 12, slots := #[.ref 2, .ref 4, .ref 6, .ref 3, .ref 5], vm := .none },
  { cls := 6, slots := #[.null, .int 0, .int 0, .int 1, .int 0], vm := .none },
  { cls := 6, slots := #[.null, .int 3, .int 0, .int 13, .int 0], vm := .none },
  { cls := 6, slots := #[.null, .int 1, .int 0, .int 5, .int 0], vm := .none },
  { cls := 6, slots := #[.null, .int 4, .int 0, .int 17, .int 0], vm := .none },
  { cls := 6, slots := #[.null, .int 2, .int 0, .int 9, .int 0], vm := .none }]
def classes : Array Class := #[k0, k1, k2, k3, k4, k5, k6, k7, k8, k9, k10, k11, k12]
def interned : List (Array UInt16 × Addr) := []
def slotsUsed : Nat := 40
def theMethod : MethodId := ⟨1, 2⟩
def args0 : Array Value := #[.int 5]
def aboutOver (below : List Frame) : State where
  vm := { classes := classes, interned := interned.toArray }
  heap := heap
  slotsUsed := slotsUsed
  threads := #[{ frames := .invoking theMethod args0 :: below }]
def below0 : List Frame := [.native { method := ⟨0, 0⟩, args := #[] }]
def about1 : State := aboutOver below0
def p0 : Program := .bare "" "" ""
def e0 : Env := launch0.env 0 0 0
theorem w_frames : about1.frames = Frame.invoking theMethod args0 :: below0 := rfl
set_option maxRecDepth 65536 in
theorem w_args : argsFit about1.vm theMethod args0 = true := by decide +kernel
set_option maxRecDepth 65536 in
theorem w_heap : heapFits about1 = true := by decide +kernel
set_option maxRecDepth 65536 in
theorem w_runnable : about1.curStatus? = some .runnable := by decide +kernel
set_option maxRecDepth 65536 in
theorem w_alone : about1.alone = true := by decide +kernel
set_option maxRecDepth 65536 in
theorem w_named : about1.methodNamed? x = some theMethod := by decide +kernel
set_option maxRecDepth 65536 in
theorem w_hears : about1.hears theMethod below0 = true := by decide +kernel
set_option maxRecDepth 65536 in
theorem w_ripe : about1.ripe theMethod args0 below0 = true := by decide +kernel
theorem w_running : about1.status = .running := rfl
set_option maxRecDepth 65536 in
theorem w_room : about1.hasRoom e0.platform room_1 = true :=
  launch0.hasRoom_least _ room_1 (by decide +kernel) (by decide +kernel) (by decide +kernel) (by decide +kernel) (by decide +kernel) (by decide +kernel)
theorem allAtoms_all (ts : List Jvm.Cond) (a : Array Jvm.Value) (st : Jvm.State) : (allAtoms ts).before a st = ts.all (fun c => c.before a st) := by
  induction ts with
  | nil => rfl
  | cons c t ih =>
    show (Jvm.Cond.and c (allAtoms t)).before a st = _
    rw [Jvm.Cond.before_and, ih, List.all_cons]
def words1 : List Jvm.Cond := Jvm.Cond.code x code maxLocals ret :: tables_1
/-- a 'code' word, met by the world's own term for the bytes: nothing is compared byte by byte -/
theorem code_word {y : MethodName} {bytes : ByteArray} {mx : Nat} {rt : Option FieldType} {a : Array Value} {s : State} {m : MethodId} {meth : Method} {c : Code} (h1 : s.methodNamed? y = some m) (h2 : s.vm.method? m = some meth) (h3 : meth.code = some c) (h4 : c.code = bytes)
    (h5 : (c.maxLocals == mx && c.exceptionTable.isEmpty && decide (c.maxStack ≤ mostOperands) && decide (meth.sig.returnType = rt) && !meth.locks && decide (parseMethodDescriptor y.desc = some meth.sig)) = true) : (Jvm.Cond.code y bytes mx rt).before a s = true := by
  simp only [Bool.and_eq_true, beq_iff_eq, Bool.not_eq_true', decide_eq_true_eq] at h5
  obtain ⟨⟨⟨⟨⟨g1, g2⟩, g3⟩, g4⟩, g5⟩, g6⟩ := h5
  simp [Cond.before, Cond.holds, Cond.value, h1, h2, h3, h4, g1, g2, g3, g4, g5, g6]
def isCode : Jvm.Cond → Bool
  | .code _ _ _ _ => true
  | _ => false
theorem all_split {L : List Jvm.Cond} {P : Jvm.Cond → Bool} (h1 : L.all (fun c => isCode c || P c) = true) (h2 : ∀ c ∈ L.filter isCode, P c = true) : L.all P = true := by
  refine List.all_eq_true.mpr fun c hc => ?_
  have h := List.all_eq_true.mp h1 c hc
  rcases Bool.eq_false_or_eq_true (isCode c) with hi | hi
  · exact h2 c (List.mem_filter.mpr ⟨hc, hi⟩)
  · simpa [hi] using h
set_option maxRecDepth 65536 in
theorem w_c0 : (Jvm.Cond.code x code maxLocals ret).before args0 about1 = true := code_word (m := ⟨1, 2⟩) (meth := k1m2) (c := k1c2) (by decide +kernel) rfl rfl rfl (by decide +kernel)
set_option maxRecDepth 65536 in
theorem w_c1 : (Jvm.Cond.code ({ cls := "com/example/gasreckon/gasreckon/model/SchedulingInterval", name := "of", desc := "(I)Lcom/example/gasreckon/gasreckon/model/SchedulingInterval;" } : Jvm.MethodName) prog_42_method_4_code (1 : Nat) (Option.some (Jvm.ClassFile.FieldType.object "com/example/gasreckon/gasreckon/model/SchedulingInterval"))).before args0 about1 = true := code_word (m := ⟨6, 0⟩) (meth := k6m0) (c := k6c0) (by decide +kernel) rfl rfl rfl (by decide +kernel)
set_option maxRecDepth 65536 in
theorem w_c2 : (Jvm.Cond.code ({ cls := "com/example/gasreckon/gasreckon/model/SchedulingIntervalOfPinLaw", name := "expected", desc := "(I)Lcom/example/gasreckon/gasreckon/model/SchedulingInterval;" } : Jvm.MethodName) method_2_code (1 : Nat) (Option.some (Jvm.ClassFile.FieldType.object "com/example/gasreckon/gasreckon/model/SchedulingInterval"))).before args0 about1 = true := code_word (m := ⟨1, 1⟩) (meth := k1m1) (c := k1c1) (by decide +kernel) rfl rfl rfl (by decide +kernel)
set_option maxRecDepth 65536 in
theorem w_c3 : (Jvm.Cond.code ({ cls := "com/example/gasreckon/gasreckon/model/SchedulingInterval", name := "number", desc := "()I" } : Jvm.MethodName) prog_42_method_11_code (1 : Nat) (Option.some Jvm.ClassFile.FieldType.int)).before args0 about1 = true := code_word (m := ⟨6, 1⟩) (meth := k6m1) (c := k6c1) (by decide +kernel) rfl rfl rfl (by decide +kernel)
set_option maxRecDepth 65536 in
theorem w_c4 : (Jvm.Cond.code ({ cls := "java/lang/Enum", name := "ordinal", desc := "()I" } : Jvm.MethodName) jdk_37_method_2_code (1 : Nat) (Option.some Jvm.ClassFile.FieldType.int)).before args0 about1 = true := code_word (m := ⟨5, 0⟩) (meth := k5m0) (c := k5c0) (by decide +kernel) rfl rfl rfl (by decide +kernel)
set_option maxRecDepth 65536 in
theorem w_c5 : (Jvm.Cond.code ({ cls := "com/example/gasreckon/gasreckon/model/SchedulingInterval", name := "firstHour", desc := "()I" } : Jvm.MethodName) prog_42_method_14_code (1 : Nat) (Option.some Jvm.ClassFile.FieldType.int)).before args0 about1 = true := code_word (m := ⟨6, 2⟩) (meth := k6m2) (c := k6c2) (by decide +kernel) rfl rfl rfl (by decide +kernel)
def codes1 : List Jvm.Cond := [Jvm.Cond.code x code maxLocals ret, Jvm.Cond.code ({ cls := "com/example/gasreckon/gasreckon/model/SchedulingInterval", name := "of", desc := "(I)Lcom/example/gasreckon/gasreckon/model/SchedulingInterval;" } : Jvm.MethodName) prog_42_method_4_code (1 : Nat) (Option.some (Jvm.ClassFile.FieldType.object "com/example/gasreckon/gasreckon/model/SchedulingInterval")), Jvm.Cond.code ({ cls := "com/example/gasreckon/gasreckon/model/SchedulingIntervalOfPinLaw", name := "expected", desc := "(I)Lcom/example/gasreckon/gasreckon/model/SchedulingInterval;" } : Jvm.MethodName) method_2_code (1 : Nat) (Option.some (Jvm.ClassFile.FieldType.object "com/example/gasreckon/gasreckon/model/SchedulingInterval")), Jvm.Cond.code ({ cls := "com/example/gasreckon/gasreckon/model/SchedulingInterval", name := "number", desc := "()I" } : Jvm.MethodName) prog_42_method_11_code (1 : Nat) (Option.some Jvm.ClassFile.FieldType.int), Jvm.Cond.code ({ cls := "java/lang/Enum", name := "ordinal", desc := "()I" } : Jvm.MethodName) jdk_37_method_2_code (1 : Nat) (Option.some Jvm.ClassFile.FieldType.int), Jvm.Cond.code ({ cls := "com/example/gasreckon/gasreckon/model/SchedulingInterval", name := "firstHour", desc := "()I" } : Jvm.MethodName) prog_42_method_14_code (1 : Nat) (Option.some Jvm.ClassFile.FieldType.int)]
set_option maxRecDepth 65536 in
theorem codes_eq : words1.filter isCode = codes1 := rfl
theorem w_codes : ∀ c ∈ words1.filter isCode, c.before args0 about1 = true := by
  rw [codes_eq]
  intro c hc
  simp only [codes1, List.mem_cons, List.not_mem_nil, or_false] at hc
  rcases hc with rfl | rfl | rfl | rfl | rfl | rfl
  · exact w_c0
  · exact w_c1
  · exact w_c2
  · exact w_c3
  · exact w_c4
  · exact w_c5
set_option maxRecDepth 65536 in
theorem w_t1 : (words1.take 24).all (fun c => isCode c || c.before args0 about1) = true := by decide +kernel
set_option maxRecDepth 65536 in
theorem w_t2 : (words1.drop 24).all (fun c => isCode c || c.before args0 about1) = true := by decide +kernel
theorem w_tables : (allAtoms (Jvm.Cond.code x code maxLocals ret :: tables_1)).before args0 about1 = true := by
  rw [allAtoms_all]
  show words1.all (fun c => c.before args0 about1) = true
  refine all_split ?_ w_codes
  rw [← List.take_append_drop 24 words1, List.all_append, w_t1, w_t2]
  rfl
set_option maxRecDepth 65536 in
theorem w_case : (Jvm.Cond.and given_1 narrow_1).before args0 about1 = true := by decide +kernel
theorem w_applies : (headSpec (Jvm.Cond.code x code maxLocals ret :: tables_1) room_1).applies x e0.platform about1 = true :=
  (Spec.applies_iff w_frames).mpr ⟨w_running, w_runnable, w_alone, w_named, w_hears, w_ripe, w_room, w_tables⟩
theorem atStart : AtStart classFile x code maxLocals ret World_1 tables_1 room_1 Calls_1 rest_1 Pre_1 launch0 p0 e0 about1 theMethod args0 below0 :=
  ⟨lists_1, trivial, launch0.admits_env _ _ _, launch0.least_env, fairChoices_fair.cas, fairChoices_fair.clock, w_frames, w_args, w_heap, w_applies, trivial, trivial, w_case⟩
end start1
theorem witness_1 : WitnessClaimed_1 := ⟨start1.p0, start1.e0, start1.about1, start1.theMethod, start1.args0, start1.below0, start1.atStart⟩
end Jvm.Pilot.@@N@@
