import JvmDerived
import JvmDerived.Pilot.@@N@@Statement
import JvmDerived.Pilot.@@N@@Code
set_option linter.unusedVariables false
set_option linter.unusedSimpArgs false
@@BLOCK:NumsL.lean.txt@@
namespace Jvm.Pilot.@@N@@
open Jvm Jvm.ClassFile Sem Op Lib Jvm.Free Jvm.Stand Jvm.LawKit Jvm.RoadKit Bundle Jvm.Pilot.@@N@@.Jvm.D
/-! 1. small laws of this text: from the case's words to facts; the remainder's cases -/
theorem own_fld {Z : State} {args : Array Value} {a : Addr} {t : Term} {C n d : String} {k : Int32} (ev : t.eval args Z none [] Z = some (.ref a)) (h : (Jvm.Cond.eq (Term.field t C n d) (Term.int k)).value args Z none Z [] = some true) : Fld Z Z.heap a C n d (.int k) := by
  obtain ⟨x, y, h1, h2, hk, hk'⟩ := cmp_v (Or.inl h)
  have hy : y = .int k := Option.some.inj (h2.symm.trans (Term.int_eval k))
  subst hy
  obtain ⟨z, rfl⟩ := hk'
  have q : z = k := by simpa [Cond.value, h1, h2] using h
  subst q
  exact Fld.start ((fld_at ev).symm.trans h1)
theorem own_rem {x n : Int32} (h0 : 0 ≤ x.toInt) (hn : 0 < n.toInt) : 0 ≤ (x % n).toInt ∧ (x % n).toInt < n.toInt := by
  rw [Int32.toInt_mod]
  refine ⟨Int.tmod_nonneg _ h0, ?_⟩
  exact Int.tmod_lt_of_pos _ hn
theorem own_mask (x : Int32) : 0 ≤ (x &&& (2147483647 : Int32)).toInt := by
  rw [Jvm.Kit.i32_mask x 2147483647 (k := 31) (by decide) (by decide)]
  omega
def QR (r : Option Value) (h0 : Heap) (n0 : Nat) (v : Option Value) (h : Heap) (L : List Loc) : Prop := v = r ∧ Fr n0 L ∧ h = h0
def QL (r : Option Value) (h0 : Heap) (n0 : Nat) (v : Option Value) (h : Heap) (L : List Loc) : Prop := v = r ∧ Fr n0 L
theorem own_len {Z : State} {args : Array Value} {a : Addr} {t : Term} {cl : Cell} {ty : FieldType} {k : Int32} {n : Nat} (ev : t.eval args Z none [] Z = some (.ref a)) (A : Arr Z Z.heap a cl ty) (h : (Jvm.Cond.eq (Term.length t) (Term.int k)).value args Z none Z [] = some true) (hn : k.toInt = n) : cl.slots.size = n := by
  obtain ⟨x, y, h1, h2, hk, hk'⟩ := cmp_v (Or.inl h)
  have hy : y = .int k := Option.some.inj (h2.symm.trans (Term.int_eval k))
  subst hy
  obtain ⟨z, rfl⟩ := hk'
  have q : z = k := by simpa [Cond.value, h1, h2] using h
  subst q
  have hA := Arr.fin (Vm.Alike.refl _) A
  simp only [Term.eval, ev, hA, Option.bind_eq_bind, Option.bind_some] at h1
  split at h1
  · rename_i hl
    have hz : cl.slots.size.toInt32 = z := by simpa using h1
    rw [← hz, len_toInt hl] at hn
    omega
  · cases h1
theorem own_elem {Z : State} {args : Array Value} {a b : Addr} {t u : Term} {cl : Cell} {ty : FieldType} {k : Int32} {n : Nat} (ev : t.eval args Z none [] Z = some (.ref a)) (A : Arr Z Z.heap a cl ty) (eu : u.eval args Z none [] Z = some (.ref b)) (h : (Jvm.Cond.eq (Term.elem t (Term.int k)) u).value args Z none Z [] = some true) (hn : k.toNatClampNeg = n) : cl.slots[n]? = some (.ref b) := by
  obtain ⟨x, y, h1, h2, hk, hk'⟩ := cmp_v (Or.inl h)
  cases eu.symm.trans h2
  have q := (elem_in h1 ev (Term.int_eval k) A.1).2
  rw [hn] at q
  rw [q]
  rw [eq_R h1 h2 hk'.2 hk'.1] at h
  simpa using h
def Glob (Z : State) (h : Heap) (w_IN_ORDER : Addr) (c_w_IN_ORDER : Cell) : Prop := Sta Z h "com/example/gasreckon/gasreckon/model/SchedulingInterval" "IN_ORDER" "[Lcom/example/gasreckon/gasreckon/model/SchedulingInterval;" (.ref w_IN_ORDER) ∧ Arr Z h w_IN_ORDER c_w_IN_ORDER (.object "com/example/gasreckon/gasreckon/model/SchedulingInterval") ∧ c_w_IN_ORDER.slots.size = 5
theorem own_cases_rem5 (p : Int32) : ((p &&& (2147483647 : Int32)) % (5 : Int32)) = (0 : Int32) ∨ ((p &&& (2147483647 : Int32)) % (5 : Int32)) = (1 : Int32) ∨ ((p &&& (2147483647 : Int32)) % (5 : Int32)) = (2 : Int32) ∨ ((p &&& (2147483647 : Int32)) % (5 : Int32)) = (3 : Int32) ∨ ((p &&& (2147483647 : Int32)) % (5 : Int32)) = (4 : Int32) := by
  have h := own_rem (n := (5 : Int32)) (own_mask p) (by decide)
  generalize (p &&& (2147483647 : Int32)) % (5 : Int32) = z at h ⊢
  have hn : ((5 : Int32)).toInt = 5 := by decide
  rw [hn] at h
  simp only [← Int32.toInt_inj]
  have h0 : ((0 : Int32)).toInt = 0 := by decide
  have h1 : ((1 : Int32)).toInt = 1 := by decide
  have h2 : ((2 : Int32)).toInt = 2 := by decide
  have h3 : ((3 : Int32)).toInt = 3 := by decide
  have h4 : ((4 : Int32)).toInt = 4 := by decide
  omega
theorem d1_0 : decode prog_42_method_5_code 0 = .ok (.iload_n 0, 1) := by decide +kernel
theorem d1_1 : decode prog_42_method_5_code 1 = .ok (.iconst 1, 1) := by decide +kernel
theorem d1_2 : decode prog_42_method_5_code 2 = .ok (.if_icmp .lt 11, 3) := by decide +kernel
theorem d1_5 : decode prog_42_method_5_code 5 = .ok (.iload_n 0, 1) := by decide +kernel
theorem d1_6 : decode prog_42_method_5_code 6 = .ok (.getstatic 45, 3) := by decide +kernel
theorem d1_9 : decode prog_42_method_5_code 9 = .ok (.arraylength, 1) := by decide +kernel
theorem d1_10 : decode prog_42_method_5_code 10 = .ok (.if_icmp .le 17, 3) := by decide +kernel
theorem d1_27 : decode prog_42_method_5_code 27 = .ok (.iload_n 0, 1) := by decide +kernel
theorem d1_28 : decode prog_42_method_5_code 28 = .ok (.ireturn, 1) := by decide +kernel
theorem ef_1_I (m : MethodId) (x0 : Int32) : entryFrame m #[(.int x0)] 1 = mkF m 0 #[.val (.int x0)] [] := by first | (simp [entryFrame, mkF, argsToLocals, Value.category]; done) | rfl
theorem pn_com_example_gasreckon_gasreckon_model_SchedulingInterval : plainName "com/example/gasreckon/gasreckon/model/SchedulingInterval" = true := by first | (simp [plainName, overriddenIn]; done) | decide +kernel
set_option maxRecDepth 65536 in
set_option maxHeartbeats 40000000 in
theorem c1_0 (l : Launch) (Z : State) (a0 : Array Value) (hw : ∀ d ∈ tables_1, d.before a0 Z = true) (ws : List Jvm.Cond) (w_IN_ORDER : Addr) (c_w_IN_ORDER : Cell) (h0 : Heap) (n0 : Nat) (Z0 : n0 ≤ h0.size) (G : Glob Z h0 w_IN_ORDER c_w_IN_ORDER)  :
    MetFree l (⟨"com/example/gasreckon/gasreckon/model/SchedulingInterval", "checkSchedule", "(I)I"⟩ : MethodName) (head1 (Jvm.Cond.code (⟨"com/example/gasreckon/gasreckon/model/SchedulingInterval", "checkSchedule", "(I)I"⟩ : MethodName) prog_42_method_5_code 1 (some .int) :: ws) ({ frames := 0, cells := 0, slots := 0, locals := 0 } : Room)) (fun a U => a = #[(.int (1 : Int32))] ∧ Z.Warmed39 U.vm ∧ U.heap = h0) (fun _ _ _ _ _ => True) (fun _ U o U' => ∃ v L, o = .returned v ∧ QR (some (.int (1 : Int32))) h0 n0 v U'.heap L ∧ FrameEnd U o U' L ({ frames := 0, cells := 0, slots := 0, locals := 0 } : Room).cells ({ frames := 0, cells := 0, slots := 0, locals := 0 } : Room).slots) := by
  refine MetFree.of_bodySF (plainFor_of_name pn_com_example_gasreckon_gasreckon_model_SchedulingInterval) hisR ?_
  intro p e s m args below meth c s₁ Bd hml0 hP hK
  obtain ⟨rfl, hZ, hh⟩ := hP
  have hx := Bd.exec
  have hby := Bd.bytes
  have hml : c.maxLocals = 1 := hml0
  have hown : s.vm.findClass "com/example/gasreckon/gasreckon/model/SchedulingInterval" = some m.cls := findClass_of_methodNamed Bd.named
  have X0 : Stand p l e ({ frames := 0, cells := 0, slots := 0, locals := 0 } : Room) s m #[(.int (1 : Int32))] below meth c s₁ [] 0 0 := Stand.of_body Bd
  have e0 : s₁.heap = h0 := by rw [← hh, Bd.state]; rfl
  have N0 := Fr.nil n0
  have pre0 : ∀ t, Steps p.tables e below (s₁.setTop (mkF m 0 #[.val (.int (1 : Int32))] [])) t → Steps p.tables e below (s₁.setTop (entryFrame m #[(.int (1 : Int32))] 1)) t := fun t k => castTop (ef_1_I m (1 : Int32)) k
  have G' := G
  obtain ⟨S_w_IN_ORDER, A_w_IN_ORDER, L_w_IN_ORDER⟩ := G'
  obtain ⟨T1, X1, e1, st1⟩ := getS2 X0 hx hZ hown (host := "") (Or.inl (hw _ (List.mem_of_getElem? (i := 5) rfl))) Via.refl e0 S_w_IN_ORDER (g := (mkF m 6 #[.val (.int (1 : Int32))] [(.int (1 : Int32))])) rfl (hb hby d1_6)
  obtain ⟨fs, hr, hrun, hended, hW, hsame⟩ := X1.leave (v := some (.int (1 : Int32))) (fun h => by rw [Bd.returns] at h; cases h)
  refine ⟨_, _, pre0 _ ?_, hrun, hended, _, _, rfl, ?_, ⟨_, rfl⟩, hW, hsame.mono (by decide) (by decide)⟩
  · show Steps p.tables e below (s₁.setTop (mkF m 0 #[.val (.int (1 : Int32))] [])) _
    refine XS.iloadN X0.here hx rfl (hb hby d1_0) rfl ?_
    show Steps p.tables e below (s₁.setTop (mkF m 1 #[.val (.int (1 : Int32))] [(.int (1 : Int32))])) _
    refine XS.iconst X0.here hx rfl (hb hby d1_1) ?_
    show Steps p.tables e below (s₁.setTop (mkF m 2 #[.val (.int (1 : Int32))] [(.int (1 : Int32)), (.int (1 : Int32))])) _
    refine XS.icmpNo X0.here hx rfl (hb hby d1_2) rfl (flt (by decide : ¬ ((1 : Int32) < (1 : Int32)))).1 ?_
    show Steps p.tables e below (s₁.setTop (mkF m 5 #[.val (.int (1 : Int32))] [])) _
    refine XS.iloadN X0.here hx rfl (hb hby d1_5) rfl ?_
    show Steps p.tables e below (s₁.setTop (mkF m 6 #[.val (.int (1 : Int32))] [(.int (1 : Int32))])) _
    refine st1 _ ?_
    show Steps p.tables e below (T1.setTop (mkF m 9 #[.val (.int (1 : Int32))] [(.ref w_IN_ORDER), (.int (1 : Int32))])) _
    refine X1.arraylength hx (by rw [e1]; exact A_w_IN_ORDER.1) (State.isArrayOf_alike hZ.alike A_w_IN_ORDER.2.1) (g := (mkF m 9 #[.val (.int (1 : Int32))] [(.ref w_IN_ORDER), (.int (1 : Int32))])) rfl rfl (hb hby d1_9) _ ?_
    rw [L_w_IN_ORDER]
    show Steps p.tables e below (T1.setTop (mkF m 10 #[.val (.int (1 : Int32))] [(.int (5 : Int32)), (.int (1 : Int32))])) _
    refine XS.icmpYes X1.here hx rfl (pc0 := 10) (pc' := 27) rfl (hb hby d1_10) rfl (flt (by decide : ¬ ((5 : Int32) < (1 : Int32)))).2.2.2 (by decide) (by decide) ?_
    show Steps p.tables e below (T1.setTop (mkF m 27 #[.val (.int (1 : Int32))] [])) _
    refine XS.iloadN X1.here hx rfl (hb hby d1_27) rfl ?_
    show Steps p.tables e below (T1.setTop (mkF m 28 #[.val (.int (1 : Int32))] [(.int (1 : Int32))])) _
    exact retOut X1 hx Bd.returns rfl (Or.inl ⟨rfl, Or.inl rfl, _, rfl⟩) (hb hby d1_28) hr
  · show QR _ h0 n0 _ T1.heap _
    rw [e1]
    exact ⟨rfl, N0, rfl⟩
theorem pd__I_I : parseMethodDescriptor "(I)I" = some ⟨[.int], some .int⟩ := by decide +kernel
theorem ef_0_I (m : MethodId) (x0 : Int32) : entryFrame m #[(.int x0)] maxLocals = mkF m 0 #[.val (.int x0), .unset, .unset] [] := by first | (simp [entryFrame, mkF, argsToLocals, Value.category, maxLocals]; done) | rfl
theorem pn_com_example_gasreckon_gasreckon_model_SchedulingIntervalCheckSchedulePinLaw : plainName "com/example/gasreckon/gasreckon/model/SchedulingIntervalCheckSchedulePinLaw" = true := by first | (simp [plainName, overriddenIn]; done) | decide +kernel
set_option maxRecDepth 65536 in
set_option maxHeartbeats 40000000 in
theorem law_0 (l : Launch) (Z : State) (a0 : Array Value) (hw : ∀ d ∈ tables_1, d.before a0 Z = true) (ws : List Jvm.Cond) (w_IN_ORDER : Addr) (c_w_IN_ORDER : Cell) (h0 : Heap) (n0 : Nat) (Z0 : n0 ≤ h0.size) (G : Glob Z h0 w_IN_ORDER c_w_IN_ORDER) (p0 : Int32) (hi0 : ((p0 &&& (2147483647 : Int32)) % (5 : Int32)) = (0 : Int32)) :
    MetFree l x (head1 (Jvm.Cond.code x code maxLocals ret :: ws) room_1) (fun a U => a = #[(.int p0)] ∧ Z.Warmed39 U.vm ∧ U.heap = h0) (fun _ _ _ _ _ => True) (fun _ U o U' => ∃ v L, o = .returned v ∧ QL (some (.int (1 : Int32))) h0 n0 v U'.heap L ∧ FrameEnd U o U' L room_1.cells room_1.slots) := by
  refine MetFree.of_bodySF (plainFor_of_name pn_com_example_gasreckon_gasreckon_model_SchedulingIntervalCheckSchedulePinLaw) hisR ?_
  intro p e s m args below meth c s₁ Bd hml0 hP hK
  obtain ⟨rfl, hZ, hh⟩ := hP
  have hx := Bd.exec
  have hby := Bd.bytes
  have hml : c.maxLocals = 3 := hml0
  have hown : s.vm.findClass "com/example/gasreckon/gasreckon/model/SchedulingIntervalCheckSchedulePinLaw" = some m.cls := findClass_of_methodNamed Bd.named
  have X0 : Stand p l e room_1 s m #[(.int p0)] below meth c s₁ [] 0 0 := Stand.of_body Bd
  have e0 : s₁.heap = h0 := by rw [← hh, Bd.state]; rfl
  have N0 := Fr.nil n0
  have pre0 : ∀ t, Steps p.tables e below (s₁.setTop (mkF m 0 #[.val (.int p0), .unset, .unset] [])) t → Steps p.tables e below (s₁.setTop (entryFrame m #[(.int p0)] maxLocals)) t := fun t k => castTop (ef_0_I m p0) k
  have G' := G
  obtain ⟨S_w_IN_ORDER, A_w_IN_ORDER, L_w_IN_ORDER⟩ := G'
  obtain ⟨_, _, ⟨T1, L1, k1, n1⟩, -, X1, ⟨Lc1, hQ1, l1, y1, z1⟩, st1⟩ := Jvm.LawKit.callS X0 hx (y := (⟨"com/example/gasreckon/gasreckon/model/SchedulingInterval", "checkSchedule", "(I)I"⟩ : MethodName)) hown (mvT hZ (hw _ (List.mem_of_getElem? (i := 1) rfl))) (mvT hZ (hw _ (List.mem_of_getElem? (i := 2) rfl))) (mvT hZ (hw _ (List.mem_of_getElem? (i := 3) rfl))) (mvT hZ (hw _ (List.mem_of_getElem? (i := 4) rfl))) (by decide) (backOf (W := 0) (c1_0 l Z a0 hw [] w_IN_ORDER c_w_IN_ORDER h0 n0 Z0 G) hZ (hw _ (List.mem_of_getElem? (i := 4) rfl)) (hw _ (List.mem_of_getElem? (i := 3) rfl)) (by decide) (by decide)) (g := (mkF m 10 #[.val (.int p0), .val (.int (1 : Int32)), .unset] [(.int (1 : Int32))])) rfl (by rw [hml]; rfl) (argsL := [(.int (1 : Int32))]) (rest := []) (lenOf pd__I_I rfl) rfl (by show 2 * 0 + _ ≤ _; exact Nat.le_of_eq rfl) (hb hby at_10) (fun _ _ => ⟨rfl, e0, (by decide : 0 + 0 ≤ _), (by decide : 0 + 0 ≤ _)⟩)
  dsimp only [Pt.U, Pt.locs, Pt.cells, Pt.slots] at X1 l1 y1 z1 st1 hQ1
  subst l1 y1 z1
  obtain ⟨rfl, N1q, e1⟩ := hQ1
  have N1 := Fr.app N0 N1q
  obtain ⟨fs, hr, hrun, hended, hW, hsame⟩ := X1.leave (v := some (.int (1 : Int32))) (fun h => by rw [Bd.returns] at h; cases h)
  refine ⟨_, _, pre0 _ ?_, hrun, hended, _, _, rfl, ?_, ⟨_, rfl⟩, hW, hsame.mono (by decide) (by decide)⟩
  · show Steps p.tables e below (s₁.setTop (mkF m 0 #[.val (.int p0), .unset, .unset] [])) _
    refine XS.iloadN X0.here hx rfl (hb hby at_0) rfl ?_
    show Steps p.tables e below (s₁.setTop (mkF m 1 #[.val (.int p0), .unset, .unset] [(.int p0)])) _
    refine X0.ldcInt hx hown (mvT hZ (hw _ (List.mem_of_getElem? (i := 0) rfl))) (g := (mkF m 1 #[.val (.int p0), .unset, .unset] [(.int p0)])) rfl (hb hby at_1) _ ?_
    show Steps p.tables e below (s₁.setTop (mkF m 3 #[.val (.int p0), .unset, .unset] [(.int (2147483647 : Int32)), (.int p0)])) _
    refine XS.iand X0.here hx rfl (hb hby at_3) rfl ?_
    show Steps p.tables e below (s₁.setTop (mkF m 4 #[.val (.int p0), .unset, .unset] [(.int (p0 &&& (2147483647 : Int32)))])) _
    refine XS.iconst X0.here hx rfl (hb hby at_4) ?_
    show Steps p.tables e below (s₁.setTop (mkF m 5 #[.val (.int p0), .unset, .unset] [(.int (5 : Int32)), (.int (p0 &&& (2147483647 : Int32)))])) _
    refine iremM X0 hx rfl (hb hby at_5) rfl (by decide) ?_
    show Steps p.tables e below (s₁.setTop (mkF m 6 #[.val (.int p0), .unset, .unset] [(.int ((p0 &&& (2147483647 : Int32)) % (5 : Int32)))])) _
    rw [hi0]
    show Steps p.tables e below (s₁.setTop (mkF m 6 #[.val (.int p0), .unset, .unset] [(.int (0 : Int32))])) _
    refine XS.iconst X0.here hx rfl (hb hby at_6) ?_
    show Steps p.tables e below (s₁.setTop (mkF m 7 #[.val (.int p0), .unset, .unset] [(.int (1 : Int32)), (.int (0 : Int32))])) _
    refine XS.iadd X0.here hx rfl (hb hby at_7) rfl ?_
    show Steps p.tables e below (s₁.setTop (mkF m 8 #[.val (.int p0), .unset, .unset] [(.int ((0 : Int32) + (1 : Int32)))])) _
    rw [(show ((0 : Int32) + (1 : Int32)) = (1 : Int32) from by decide)]
    show Steps p.tables e below (s₁.setTop (mkF m 8 #[.val (.int p0), .unset, .unset] [(.int (1 : Int32))])) _
    refine XS.istoreN X0.here hx rfl (hb hby at_8) rfl (l' := #[.val (.int p0), .val (.int (1 : Int32)), .unset]) rfl ?_
    show Steps p.tables e below (s₁.setTop (mkF m 9 #[.val (.int p0), .val (.int (1 : Int32)), .unset] [])) _
    refine XS.iloadN X0.here hx rfl (hb hby at_9) rfl ?_
    show Steps p.tables e below (s₁.setTop (mkF m 10 #[.val (.int p0), .val (.int (1 : Int32)), .unset] [(.int (1 : Int32))])) _
    refine st1 _ ?_
    show Steps p.tables e below (T1.setTop (mkF m 13 #[.val (.int p0), .val (.int (1 : Int32)), .unset] [(.int (1 : Int32))])) _
    refine XS.istoreN X1.here hx rfl (hb hby at_13) rfl (l' := #[.val (.int p0), .val (.int (1 : Int32)), .val (.int (1 : Int32))]) rfl ?_
    show Steps p.tables e below (T1.setTop (mkF m 14 #[.val (.int p0), .val (.int (1 : Int32)), .val (.int (1 : Int32))] [])) _
    refine XS.iloadN X1.here hx rfl (hb hby at_14) rfl ?_
    show Steps p.tables e below (T1.setTop (mkF m 15 #[.val (.int p0), .val (.int (1 : Int32)), .val (.int (1 : Int32))] [(.int (1 : Int32))])) _
    refine XS.iloadN X1.here hx rfl (hb hby at_15) rfl ?_
    show Steps p.tables e below (T1.setTop (mkF m 16 #[.val (.int p0), .val (.int (1 : Int32)), .val (.int (1 : Int32))] [(.int (1 : Int32)), (.int (1 : Int32))])) _
    refine XS.icmpNo X1.here hx rfl (hb hby at_16) rfl (teq (by decide : (1 : Int32) = (1 : Int32))).2 ?_
    show Steps p.tables e below (T1.setTop (mkF m 19 #[.val (.int p0), .val (.int (1 : Int32)), .val (.int (1 : Int32))] [])) _
    refine XS.iconst X1.here hx rfl (hb hby at_19) ?_
    show Steps p.tables e below (T1.setTop (mkF m 20 #[.val (.int p0), .val (.int (1 : Int32)), .val (.int (1 : Int32))] [(.int (1 : Int32))])) _
    refine XS.goto X1.here hx rfl (pc0 := 20) (pc' := 24) rfl (hb hby at_20) (by decide) (by decide) ?_
    show Steps p.tables e below (T1.setTop (mkF m 24 #[.val (.int p0), .val (.int (1 : Int32)), .val (.int (1 : Int32))] [(.int (1 : Int32))])) _
    exact retOut X1 hx Bd.returns rfl (Or.inl ⟨rfl, Or.inr (Or.inl rfl), _, rfl⟩) (hb hby at_24) hr
  · exact ⟨rfl, N1⟩
set_option maxRecDepth 65536 in
set_option maxHeartbeats 40000000 in
theorem c1_1 (l : Launch) (Z : State) (a0 : Array Value) (hw : ∀ d ∈ tables_1, d.before a0 Z = true) (ws : List Jvm.Cond) (w_IN_ORDER : Addr) (c_w_IN_ORDER : Cell) (h0 : Heap) (n0 : Nat) (Z0 : n0 ≤ h0.size) (G : Glob Z h0 w_IN_ORDER c_w_IN_ORDER)  :
    MetFree l (⟨"com/example/gasreckon/gasreckon/model/SchedulingInterval", "checkSchedule", "(I)I"⟩ : MethodName) (head1 (Jvm.Cond.code (⟨"com/example/gasreckon/gasreckon/model/SchedulingInterval", "checkSchedule", "(I)I"⟩ : MethodName) prog_42_method_5_code 1 (some .int) :: ws) ({ frames := 0, cells := 0, slots := 0, locals := 0 } : Room)) (fun a U => a = #[(.int (2 : Int32))] ∧ Z.Warmed39 U.vm ∧ U.heap = h0) (fun _ _ _ _ _ => True) (fun _ U o U' => ∃ v L, o = .returned v ∧ QR (some (.int (2 : Int32))) h0 n0 v U'.heap L ∧ FrameEnd U o U' L ({ frames := 0, cells := 0, slots := 0, locals := 0 } : Room).cells ({ frames := 0, cells := 0, slots := 0, locals := 0 } : Room).slots) := by
  refine MetFree.of_bodySF (plainFor_of_name pn_com_example_gasreckon_gasreckon_model_SchedulingInterval) hisR ?_
  intro p e s m args below meth c s₁ Bd hml0 hP hK
  obtain ⟨rfl, hZ, hh⟩ := hP
  have hx := Bd.exec
  have hby := Bd.bytes
  have hml : c.maxLocals = 1 := hml0
  have hown : s.vm.findClass "com/example/gasreckon/gasreckon/model/SchedulingInterval" = some m.cls := findClass_of_methodNamed Bd.named
  have X0 : Stand p l e ({ frames := 0, cells := 0, slots := 0, locals := 0 } : Room) s m #[(.int (2 : Int32))] below meth c s₁ [] 0 0 := Stand.of_body Bd
  have e0 : s₁.heap = h0 := by rw [← hh, Bd.state]; rfl
  have N0 := Fr.nil n0
  have pre0 : ∀ t, Steps p.tables e below (s₁.setTop (mkF m 0 #[.val (.int (2 : Int32))] [])) t → Steps p.tables e below (s₁.setTop (entryFrame m #[(.int (2 : Int32))] 1)) t := fun t k => castTop (ef_1_I m (2 : Int32)) k
  have G' := G
  obtain ⟨S_w_IN_ORDER, A_w_IN_ORDER, L_w_IN_ORDER⟩ := G'
  obtain ⟨T1, X1, e1, st1⟩ := getS2 X0 hx hZ hown (host := "") (Or.inl (hw _ (List.mem_of_getElem? (i := 5) rfl))) Via.refl e0 S_w_IN_ORDER (g := (mkF m 6 #[.val (.int (2 : Int32))] [(.int (2 : Int32))])) rfl (hb hby d1_6)
  obtain ⟨fs, hr, hrun, hended, hW, hsame⟩ := X1.leave (v := some (.int (2 : Int32))) (fun h => by rw [Bd.returns] at h; cases h)
  refine ⟨_, _, pre0 _ ?_, hrun, hended, _, _, rfl, ?_, ⟨_, rfl⟩, hW, hsame.mono (by decide) (by decide)⟩
  · show Steps p.tables e below (s₁.setTop (mkF m 0 #[.val (.int (2 : Int32))] [])) _
    refine XS.iloadN X0.here hx rfl (hb hby d1_0) rfl ?_
    show Steps p.tables e below (s₁.setTop (mkF m 1 #[.val (.int (2 : Int32))] [(.int (2 : Int32))])) _
    refine XS.iconst X0.here hx rfl (hb hby d1_1) ?_
    show Steps p.tables e below (s₁.setTop (mkF m 2 #[.val (.int (2 : Int32))] [(.int (1 : Int32)), (.int (2 : Int32))])) _
    refine XS.icmpNo X0.here hx rfl (hb hby d1_2) rfl (flt (by decide : ¬ ((2 : Int32) < (1 : Int32)))).1 ?_
    show Steps p.tables e below (s₁.setTop (mkF m 5 #[.val (.int (2 : Int32))] [])) _
    refine XS.iloadN X0.here hx rfl (hb hby d1_5) rfl ?_
    show Steps p.tables e below (s₁.setTop (mkF m 6 #[.val (.int (2 : Int32))] [(.int (2 : Int32))])) _
    refine st1 _ ?_
    show Steps p.tables e below (T1.setTop (mkF m 9 #[.val (.int (2 : Int32))] [(.ref w_IN_ORDER), (.int (2 : Int32))])) _
    refine X1.arraylength hx (by rw [e1]; exact A_w_IN_ORDER.1) (State.isArrayOf_alike hZ.alike A_w_IN_ORDER.2.1) (g := (mkF m 9 #[.val (.int (2 : Int32))] [(.ref w_IN_ORDER), (.int (2 : Int32))])) rfl rfl (hb hby d1_9) _ ?_
    rw [L_w_IN_ORDER]
    show Steps p.tables e below (T1.setTop (mkF m 10 #[.val (.int (2 : Int32))] [(.int (5 : Int32)), (.int (2 : Int32))])) _
    refine XS.icmpYes X1.here hx rfl (pc0 := 10) (pc' := 27) rfl (hb hby d1_10) rfl (flt (by decide : ¬ ((5 : Int32) < (2 : Int32)))).2.2.2 (by decide) (by decide) ?_
    show Steps p.tables e below (T1.setTop (mkF m 27 #[.val (.int (2 : Int32))] [])) _
    refine XS.iloadN X1.here hx rfl (hb hby d1_27) rfl ?_
    show Steps p.tables e below (T1.setTop (mkF m 28 #[.val (.int (2 : Int32))] [(.int (2 : Int32))])) _
    exact retOut X1 hx Bd.returns rfl (Or.inl ⟨rfl, Or.inl rfl, _, rfl⟩) (hb hby d1_28) hr
  · show QR _ h0 n0 _ T1.heap _
    rw [e1]
    exact ⟨rfl, N0, rfl⟩
set_option maxRecDepth 65536 in
set_option maxHeartbeats 40000000 in
theorem law_1 (l : Launch) (Z : State) (a0 : Array Value) (hw : ∀ d ∈ tables_1, d.before a0 Z = true) (ws : List Jvm.Cond) (w_IN_ORDER : Addr) (c_w_IN_ORDER : Cell) (h0 : Heap) (n0 : Nat) (Z0 : n0 ≤ h0.size) (G : Glob Z h0 w_IN_ORDER c_w_IN_ORDER) (p0 : Int32) (hi1 : ((p0 &&& (2147483647 : Int32)) % (5 : Int32)) = (1 : Int32)) :
    MetFree l x (head1 (Jvm.Cond.code x code maxLocals ret :: ws) room_1) (fun a U => a = #[(.int p0)] ∧ Z.Warmed39 U.vm ∧ U.heap = h0) (fun _ _ _ _ _ => True) (fun _ U o U' => ∃ v L, o = .returned v ∧ QL (some (.int (1 : Int32))) h0 n0 v U'.heap L ∧ FrameEnd U o U' L room_1.cells room_1.slots) := by
  refine MetFree.of_bodySF (plainFor_of_name pn_com_example_gasreckon_gasreckon_model_SchedulingIntervalCheckSchedulePinLaw) hisR ?_
  intro p e s m args below meth c s₁ Bd hml0 hP hK
  obtain ⟨rfl, hZ, hh⟩ := hP
  have hx := Bd.exec
  have hby := Bd.bytes
  have hml : c.maxLocals = 3 := hml0
  have hown : s.vm.findClass "com/example/gasreckon/gasreckon/model/SchedulingIntervalCheckSchedulePinLaw" = some m.cls := findClass_of_methodNamed Bd.named
  have X0 : Stand p l e room_1 s m #[(.int p0)] below meth c s₁ [] 0 0 := Stand.of_body Bd
  have e0 : s₁.heap = h0 := by rw [← hh, Bd.state]; rfl
  have N0 := Fr.nil n0
  have pre0 : ∀ t, Steps p.tables e below (s₁.setTop (mkF m 0 #[.val (.int p0), .unset, .unset] [])) t → Steps p.tables e below (s₁.setTop (entryFrame m #[(.int p0)] maxLocals)) t := fun t k => castTop (ef_0_I m p0) k
  have G' := G
  obtain ⟨S_w_IN_ORDER, A_w_IN_ORDER, L_w_IN_ORDER⟩ := G'
  obtain ⟨_, _, ⟨T1, L1, k1, n1⟩, -, X1, ⟨Lc1, hQ1, l1, y1, z1⟩, st1⟩ := Jvm.LawKit.callS X0 hx (y := (⟨"com/example/gasreckon/gasreckon/model/SchedulingInterval", "checkSchedule", "(I)I"⟩ : MethodName)) hown (mvT hZ (hw _ (List.mem_of_getElem? (i := 1) rfl))) (mvT hZ (hw _ (List.mem_of_getElem? (i := 2) rfl))) (mvT hZ (hw _ (List.mem_of_getElem? (i := 3) rfl))) (mvT hZ (hw _ (List.mem_of_getElem? (i := 4) rfl))) (by decide) (backOf (W := 0) (c1_1 l Z a0 hw [] w_IN_ORDER c_w_IN_ORDER h0 n0 Z0 G) hZ (hw _ (List.mem_of_getElem? (i := 4) rfl)) (hw _ (List.mem_of_getElem? (i := 3) rfl)) (by decide) (by decide)) (g := (mkF m 10 #[.val (.int p0), .val (.int (2 : Int32)), .unset] [(.int (2 : Int32))])) rfl (by rw [hml]; rfl) (argsL := [(.int (2 : Int32))]) (rest := []) (lenOf pd__I_I rfl) rfl (by show 2 * 0 + _ ≤ _; exact Nat.le_of_eq rfl) (hb hby at_10) (fun _ _ => ⟨rfl, e0, (by decide : 0 + 0 ≤ _), (by decide : 0 + 0 ≤ _)⟩)
  dsimp only [Pt.U, Pt.locs, Pt.cells, Pt.slots] at X1 l1 y1 z1 st1 hQ1
  subst l1 y1 z1
  obtain ⟨rfl, N1q, e1⟩ := hQ1
  have N1 := Fr.app N0 N1q
  obtain ⟨fs, hr, hrun, hended, hW, hsame⟩ := X1.leave (v := some (.int (1 : Int32))) (fun h => by rw [Bd.returns] at h; cases h)
  refine ⟨_, _, pre0 _ ?_, hrun, hended, _, _, rfl, ?_, ⟨_, rfl⟩, hW, hsame.mono (by decide) (by decide)⟩
  · show Steps p.tables e below (s₁.setTop (mkF m 0 #[.val (.int p0), .unset, .unset] [])) _
    refine XS.iloadN X0.here hx rfl (hb hby at_0) rfl ?_
    show Steps p.tables e below (s₁.setTop (mkF m 1 #[.val (.int p0), .unset, .unset] [(.int p0)])) _
    refine X0.ldcInt hx hown (mvT hZ (hw _ (List.mem_of_getElem? (i := 0) rfl))) (g := (mkF m 1 #[.val (.int p0), .unset, .unset] [(.int p0)])) rfl (hb hby at_1) _ ?_
    show Steps p.tables e below (s₁.setTop (mkF m 3 #[.val (.int p0), .unset, .unset] [(.int (2147483647 : Int32)), (.int p0)])) _
    refine XS.iand X0.here hx rfl (hb hby at_3) rfl ?_
    show Steps p.tables e below (s₁.setTop (mkF m 4 #[.val (.int p0), .unset, .unset] [(.int (p0 &&& (2147483647 : Int32)))])) _
    refine XS.iconst X0.here hx rfl (hb hby at_4) ?_
    show Steps p.tables e below (s₁.setTop (mkF m 5 #[.val (.int p0), .unset, .unset] [(.int (5 : Int32)), (.int (p0 &&& (2147483647 : Int32)))])) _
    refine iremM X0 hx rfl (hb hby at_5) rfl (by decide) ?_
    show Steps p.tables e below (s₁.setTop (mkF m 6 #[.val (.int p0), .unset, .unset] [(.int ((p0 &&& (2147483647 : Int32)) % (5 : Int32)))])) _
    rw [hi1]
    show Steps p.tables e below (s₁.setTop (mkF m 6 #[.val (.int p0), .unset, .unset] [(.int (1 : Int32))])) _
    refine XS.iconst X0.here hx rfl (hb hby at_6) ?_
    show Steps p.tables e below (s₁.setTop (mkF m 7 #[.val (.int p0), .unset, .unset] [(.int (1 : Int32)), (.int (1 : Int32))])) _
    refine XS.iadd X0.here hx rfl (hb hby at_7) rfl ?_
    show Steps p.tables e below (s₁.setTop (mkF m 8 #[.val (.int p0), .unset, .unset] [(.int ((1 : Int32) + (1 : Int32)))])) _
    rw [(show ((1 : Int32) + (1 : Int32)) = (2 : Int32) from by decide)]
    show Steps p.tables e below (s₁.setTop (mkF m 8 #[.val (.int p0), .unset, .unset] [(.int (2 : Int32))])) _
    refine XS.istoreN X0.here hx rfl (hb hby at_8) rfl (l' := #[.val (.int p0), .val (.int (2 : Int32)), .unset]) rfl ?_
    show Steps p.tables e below (s₁.setTop (mkF m 9 #[.val (.int p0), .val (.int (2 : Int32)), .unset] [])) _
    refine XS.iloadN X0.here hx rfl (hb hby at_9) rfl ?_
    show Steps p.tables e below (s₁.setTop (mkF m 10 #[.val (.int p0), .val (.int (2 : Int32)), .unset] [(.int (2 : Int32))])) _
    refine st1 _ ?_
    show Steps p.tables e below (T1.setTop (mkF m 13 #[.val (.int p0), .val (.int (2 : Int32)), .unset] [(.int (2 : Int32))])) _
    refine XS.istoreN X1.here hx rfl (hb hby at_13) rfl (l' := #[.val (.int p0), .val (.int (2 : Int32)), .val (.int (2 : Int32))]) rfl ?_
    show Steps p.tables e below (T1.setTop (mkF m 14 #[.val (.int p0), .val (.int (2 : Int32)), .val (.int (2 : Int32))] [])) _
    refine XS.iloadN X1.here hx rfl (hb hby at_14) rfl ?_
    show Steps p.tables e below (T1.setTop (mkF m 15 #[.val (.int p0), .val (.int (2 : Int32)), .val (.int (2 : Int32))] [(.int (2 : Int32))])) _
    refine XS.iloadN X1.here hx rfl (hb hby at_15) rfl ?_
    show Steps p.tables e below (T1.setTop (mkF m 16 #[.val (.int p0), .val (.int (2 : Int32)), .val (.int (2 : Int32))] [(.int (2 : Int32)), (.int (2 : Int32))])) _
    refine XS.icmpNo X1.here hx rfl (hb hby at_16) rfl (teq (by decide : (2 : Int32) = (2 : Int32))).2 ?_
    show Steps p.tables e below (T1.setTop (mkF m 19 #[.val (.int p0), .val (.int (2 : Int32)), .val (.int (2 : Int32))] [])) _
    refine XS.iconst X1.here hx rfl (hb hby at_19) ?_
    show Steps p.tables e below (T1.setTop (mkF m 20 #[.val (.int p0), .val (.int (2 : Int32)), .val (.int (2 : Int32))] [(.int (1 : Int32))])) _
    refine XS.goto X1.here hx rfl (pc0 := 20) (pc' := 24) rfl (hb hby at_20) (by decide) (by decide) ?_
    show Steps p.tables e below (T1.setTop (mkF m 24 #[.val (.int p0), .val (.int (2 : Int32)), .val (.int (2 : Int32))] [(.int (1 : Int32))])) _
    exact retOut X1 hx Bd.returns rfl (Or.inl ⟨rfl, Or.inr (Or.inl rfl), _, rfl⟩) (hb hby at_24) hr
  · exact ⟨rfl, N1⟩
set_option maxRecDepth 65536 in
set_option maxHeartbeats 40000000 in
theorem c1_2 (l : Launch) (Z : State) (a0 : Array Value) (hw : ∀ d ∈ tables_1, d.before a0 Z = true) (ws : List Jvm.Cond) (w_IN_ORDER : Addr) (c_w_IN_ORDER : Cell) (h0 : Heap) (n0 : Nat) (Z0 : n0 ≤ h0.size) (G : Glob Z h0 w_IN_ORDER c_w_IN_ORDER)  :
    MetFree l (⟨"com/example/gasreckon/gasreckon/model/SchedulingInterval", "checkSchedule", "(I)I"⟩ : MethodName) (head1 (Jvm.Cond.code (⟨"com/example/gasreckon/gasreckon/model/SchedulingInterval", "checkSchedule", "(I)I"⟩ : MethodName) prog_42_method_5_code 1 (some .int) :: ws) ({ frames := 0, cells := 0, slots := 0, locals := 0 } : Room)) (fun a U => a = #[(.int (3 : Int32))] ∧ Z.Warmed39 U.vm ∧ U.heap = h0) (fun _ _ _ _ _ => True) (fun _ U o U' => ∃ v L, o = .returned v ∧ QR (some (.int (3 : Int32))) h0 n0 v U'.heap L ∧ FrameEnd U o U' L ({ frames := 0, cells := 0, slots := 0, locals := 0 } : Room).cells ({ frames := 0, cells := 0, slots := 0, locals := 0 } : Room).slots) := by
  refine MetFree.of_bodySF (plainFor_of_name pn_com_example_gasreckon_gasreckon_model_SchedulingInterval) hisR ?_
  intro p e s m args below meth c s₁ Bd hml0 hP hK
  obtain ⟨rfl, hZ, hh⟩ := hP
  have hx := Bd.exec
  have hby := Bd.bytes
  have hml : c.maxLocals = 1 := hml0
  have hown : s.vm.findClass "com/example/gasreckon/gasreckon/model/SchedulingInterval" = some m.cls := findClass_of_methodNamed Bd.named
  have X0 : Stand p l e ({ frames := 0, cells := 0, slots := 0, locals := 0 } : Room) s m #[(.int (3 : Int32))] below meth c s₁ [] 0 0 := Stand.of_body Bd
  have e0 : s₁.heap = h0 := by rw [← hh, Bd.state]; rfl
  have N0 := Fr.nil n0
  have pre0 : ∀ t, Steps p.tables e below (s₁.setTop (mkF m 0 #[.val (.int (3 : Int32))] [])) t → Steps p.tables e below (s₁.setTop (entryFrame m #[(.int (3 : Int32))] 1)) t := fun t k => castTop (ef_1_I m (3 : Int32)) k
  have G' := G
  obtain ⟨S_w_IN_ORDER, A_w_IN_ORDER, L_w_IN_ORDER⟩ := G'
  obtain ⟨T1, X1, e1, st1⟩ := getS2 X0 hx hZ hown (host := "") (Or.inl (hw _ (List.mem_of_getElem? (i := 5) rfl))) Via.refl e0 S_w_IN_ORDER (g := (mkF m 6 #[.val (.int (3 : Int32))] [(.int (3 : Int32))])) rfl (hb hby d1_6)
  obtain ⟨fs, hr, hrun, hended, hW, hsame⟩ := X1.leave (v := some (.int (3 : Int32))) (fun h => by rw [Bd.returns] at h; cases h)
  refine ⟨_, _, pre0 _ ?_, hrun, hended, _, _, rfl, ?_, ⟨_, rfl⟩, hW, hsame.mono (by decide) (by decide)⟩
  · show Steps p.tables e below (s₁.setTop (mkF m 0 #[.val (.int (3 : Int32))] [])) _
    refine XS.iloadN X0.here hx rfl (hb hby d1_0) rfl ?_
    show Steps p.tables e below (s₁.setTop (mkF m 1 #[.val (.int (3 : Int32))] [(.int (3 : Int32))])) _
    refine XS.iconst X0.here hx rfl (hb hby d1_1) ?_
    show Steps p.tables e below (s₁.setTop (mkF m 2 #[.val (.int (3 : Int32))] [(.int (1 : Int32)), (.int (3 : Int32))])) _
    refine XS.icmpNo X0.here hx rfl (hb hby d1_2) rfl (flt (by decide : ¬ ((3 : Int32) < (1 : Int32)))).1 ?_
    show Steps p.tables e below (s₁.setTop (mkF m 5 #[.val (.int (3 : Int32))] [])) _
    refine XS.iloadN X0.here hx rfl (hb hby d1_5) rfl ?_
    show Steps p.tables e below (s₁.setTop (mkF m 6 #[.val (.int (3 : Int32))] [(.int (3 : Int32))])) _
    refine st1 _ ?_
    show Steps p.tables e below (T1.setTop (mkF m 9 #[.val (.int (3 : Int32))] [(.ref w_IN_ORDER), (.int (3 : Int32))])) _
    refine X1.arraylength hx (by rw [e1]; exact A_w_IN_ORDER.1) (State.isArrayOf_alike hZ.alike A_w_IN_ORDER.2.1) (g := (mkF m 9 #[.val (.int (3 : Int32))] [(.ref w_IN_ORDER), (.int (3 : Int32))])) rfl rfl (hb hby d1_9) _ ?_
    rw [L_w_IN_ORDER]
    show Steps p.tables e below (T1.setTop (mkF m 10 #[.val (.int (3 : Int32))] [(.int (5 : Int32)), (.int (3 : Int32))])) _
    refine XS.icmpYes X1.here hx rfl (pc0 := 10) (pc' := 27) rfl (hb hby d1_10) rfl (flt (by decide : ¬ ((5 : Int32) < (3 : Int32)))).2.2.2 (by decide) (by decide) ?_
    show Steps p.tables e below (T1.setTop (mkF m 27 #[.val (.int (3 : Int32))] [])) _
    refine XS.iloadN X1.here hx rfl (hb hby d1_27) rfl ?_
    show Steps p.tables e below (T1.setTop (mkF m 28 #[.val (.int (3 : Int32))] [(.int (3 : Int32))])) _
    exact retOut X1 hx Bd.returns rfl (Or.inl ⟨rfl, Or.inl rfl, _, rfl⟩) (hb hby d1_28) hr
  · show QR _ h0 n0 _ T1.heap _
    rw [e1]
    exact ⟨rfl, N0, rfl⟩
set_option maxRecDepth 65536 in
set_option maxHeartbeats 40000000 in
theorem law_2 (l : Launch) (Z : State) (a0 : Array Value) (hw : ∀ d ∈ tables_1, d.before a0 Z = true) (ws : List Jvm.Cond) (w_IN_ORDER : Addr) (c_w_IN_ORDER : Cell) (h0 : Heap) (n0 : Nat) (Z0 : n0 ≤ h0.size) (G : Glob Z h0 w_IN_ORDER c_w_IN_ORDER) (p0 : Int32) (hi2 : ((p0 &&& (2147483647 : Int32)) % (5 : Int32)) = (2 : Int32)) :
    MetFree l x (head1 (Jvm.Cond.code x code maxLocals ret :: ws) room_1) (fun a U => a = #[(.int p0)] ∧ Z.Warmed39 U.vm ∧ U.heap = h0) (fun _ _ _ _ _ => True) (fun _ U o U' => ∃ v L, o = .returned v ∧ QL (some (.int (1 : Int32))) h0 n0 v U'.heap L ∧ FrameEnd U o U' L room_1.cells room_1.slots) := by
  refine MetFree.of_bodySF (plainFor_of_name pn_com_example_gasreckon_gasreckon_model_SchedulingIntervalCheckSchedulePinLaw) hisR ?_
  intro p e s m args below meth c s₁ Bd hml0 hP hK
  obtain ⟨rfl, hZ, hh⟩ := hP
  have hx := Bd.exec
  have hby := Bd.bytes
  have hml : c.maxLocals = 3 := hml0
  have hown : s.vm.findClass "com/example/gasreckon/gasreckon/model/SchedulingIntervalCheckSchedulePinLaw" = some m.cls := findClass_of_methodNamed Bd.named
  have X0 : Stand p l e room_1 s m #[(.int p0)] below meth c s₁ [] 0 0 := Stand.of_body Bd
  have e0 : s₁.heap = h0 := by rw [← hh, Bd.state]; rfl
  have N0 := Fr.nil n0
  have pre0 : ∀ t, Steps p.tables e below (s₁.setTop (mkF m 0 #[.val (.int p0), .unset, .unset] [])) t → Steps p.tables e below (s₁.setTop (entryFrame m #[(.int p0)] maxLocals)) t := fun t k => castTop (ef_0_I m p0) k
  have G' := G
  obtain ⟨S_w_IN_ORDER, A_w_IN_ORDER, L_w_IN_ORDER⟩ := G'
  obtain ⟨_, _, ⟨T1, L1, k1, n1⟩, -, X1, ⟨Lc1, hQ1, l1, y1, z1⟩, st1⟩ := Jvm.LawKit.callS X0 hx (y := (⟨"com/example/gasreckon/gasreckon/model/SchedulingInterval", "checkSchedule", "(I)I"⟩ : MethodName)) hown (mvT hZ (hw _ (List.mem_of_getElem? (i := 1) rfl))) (mvT hZ (hw _ (List.mem_of_getElem? (i := 2) rfl))) (mvT hZ (hw _ (List.mem_of_getElem? (i := 3) rfl))) (mvT hZ (hw _ (List.mem_of_getElem? (i := 4) rfl))) (by decide) (backOf (W := 0) (c1_2 l Z a0 hw [] w_IN_ORDER c_w_IN_ORDER h0 n0 Z0 G) hZ (hw _ (List.mem_of_getElem? (i := 4) rfl)) (hw _ (List.mem_of_getElem? (i := 3) rfl)) (by decide) (by decide)) (g := (mkF m 10 #[.val (.int p0), .val (.int (3 : Int32)), .unset] [(.int (3 : Int32))])) rfl (by rw [hml]; rfl) (argsL := [(.int (3 : Int32))]) (rest := []) (lenOf pd__I_I rfl) rfl (by show 2 * 0 + _ ≤ _; exact Nat.le_of_eq rfl) (hb hby at_10) (fun _ _ => ⟨rfl, e0, (by decide : 0 + 0 ≤ _), (by decide : 0 + 0 ≤ _)⟩)
  dsimp only [Pt.U, Pt.locs, Pt.cells, Pt.slots] at X1 l1 y1 z1 st1 hQ1
  subst l1 y1 z1
  obtain ⟨rfl, N1q, e1⟩ := hQ1
  have N1 := Fr.app N0 N1q
  obtain ⟨fs, hr, hrun, hended, hW, hsame⟩ := X1.leave (v := some (.int (1 : Int32))) (fun h => by rw [Bd.returns] at h; cases h)
  refine ⟨_, _, pre0 _ ?_, hrun, hended, _, _, rfl, ?_, ⟨_, rfl⟩, hW, hsame.mono (by decide) (by decide)⟩
  · show Steps p.tables e below (s₁.setTop (mkF m 0 #[.val (.int p0), .unset, .unset] [])) _
    refine XS.iloadN X0.here hx rfl (hb hby at_0) rfl ?_
    show Steps p.tables e below (s₁.setTop (mkF m 1 #[.val (.int p0), .unset, .unset] [(.int p0)])) _
    refine X0.ldcInt hx hown (mvT hZ (hw _ (List.mem_of_getElem? (i := 0) rfl))) (g := (mkF m 1 #[.val (.int p0), .unset, .unset] [(.int p0)])) rfl (hb hby at_1) _ ?_
    show Steps p.tables e below (s₁.setTop (mkF m 3 #[.val (.int p0), .unset, .unset] [(.int (2147483647 : Int32)), (.int p0)])) _
    refine XS.iand X0.here hx rfl (hb hby at_3) rfl ?_
    show Steps p.tables e below (s₁.setTop (mkF m 4 #[.val (.int p0), .unset, .unset] [(.int (p0 &&& (2147483647 : Int32)))])) _
    refine XS.iconst X0.here hx rfl (hb hby at_4) ?_
    show Steps p.tables e below (s₁.setTop (mkF m 5 #[.val (.int p0), .unset, .unset] [(.int (5 : Int32)), (.int (p0 &&& (2147483647 : Int32)))])) _
    refine iremM X0 hx rfl (hb hby at_5) rfl (by decide) ?_
    show Steps p.tables e below (s₁.setTop (mkF m 6 #[.val (.int p0), .unset, .unset] [(.int ((p0 &&& (2147483647 : Int32)) % (5 : Int32)))])) _
    rw [hi2]
    show Steps p.tables e below (s₁.setTop (mkF m 6 #[.val (.int p0), .unset, .unset] [(.int (2 : Int32))])) _
    refine XS.iconst X0.here hx rfl (hb hby at_6) ?_
    show Steps p.tables e below (s₁.setTop (mkF m 7 #[.val (.int p0), .unset, .unset] [(.int (1 : Int32)), (.int (2 : Int32))])) _
    refine XS.iadd X0.here hx rfl (hb hby at_7) rfl ?_
    show Steps p.tables e below (s₁.setTop (mkF m 8 #[.val (.int p0), .unset, .unset] [(.int ((2 : Int32) + (1 : Int32)))])) _
    rw [(show ((2 : Int32) + (1 : Int32)) = (3 : Int32) from by decide)]
    show Steps p.tables e below (s₁.setTop (mkF m 8 #[.val (.int p0), .unset, .unset] [(.int (3 : Int32))])) _
    refine XS.istoreN X0.here hx rfl (hb hby at_8) rfl (l' := #[.val (.int p0), .val (.int (3 : Int32)), .unset]) rfl ?_
    show Steps p.tables e below (s₁.setTop (mkF m 9 #[.val (.int p0), .val (.int (3 : Int32)), .unset] [])) _
    refine XS.iloadN X0.here hx rfl (hb hby at_9) rfl ?_
    show Steps p.tables e below (s₁.setTop (mkF m 10 #[.val (.int p0), .val (.int (3 : Int32)), .unset] [(.int (3 : Int32))])) _
    refine st1 _ ?_
    show Steps p.tables e below (T1.setTop (mkF m 13 #[.val (.int p0), .val (.int (3 : Int32)), .unset] [(.int (3 : Int32))])) _
    refine XS.istoreN X1.here hx rfl (hb hby at_13) rfl (l' := #[.val (.int p0), .val (.int (3 : Int32)), .val (.int (3 : Int32))]) rfl ?_
    show Steps p.tables e below (T1.setTop (mkF m 14 #[.val (.int p0), .val (.int (3 : Int32)), .val (.int (3 : Int32))] [])) _
    refine XS.iloadN X1.here hx rfl (hb hby at_14) rfl ?_
    show Steps p.tables e below (T1.setTop (mkF m 15 #[.val (.int p0), .val (.int (3 : Int32)), .val (.int (3 : Int32))] [(.int (3 : Int32))])) _
    refine XS.iloadN X1.here hx rfl (hb hby at_15) rfl ?_
    show Steps p.tables e below (T1.setTop (mkF m 16 #[.val (.int p0), .val (.int (3 : Int32)), .val (.int (3 : Int32))] [(.int (3 : Int32)), (.int (3 : Int32))])) _
    refine XS.icmpNo X1.here hx rfl (hb hby at_16) rfl (teq (by decide : (3 : Int32) = (3 : Int32))).2 ?_
    show Steps p.tables e below (T1.setTop (mkF m 19 #[.val (.int p0), .val (.int (3 : Int32)), .val (.int (3 : Int32))] [])) _
    refine XS.iconst X1.here hx rfl (hb hby at_19) ?_
    show Steps p.tables e below (T1.setTop (mkF m 20 #[.val (.int p0), .val (.int (3 : Int32)), .val (.int (3 : Int32))] [(.int (1 : Int32))])) _
    refine XS.goto X1.here hx rfl (pc0 := 20) (pc' := 24) rfl (hb hby at_20) (by decide) (by decide) ?_
    show Steps p.tables e below (T1.setTop (mkF m 24 #[.val (.int p0), .val (.int (3 : Int32)), .val (.int (3 : Int32))] [(.int (1 : Int32))])) _
    exact retOut X1 hx Bd.returns rfl (Or.inl ⟨rfl, Or.inr (Or.inl rfl), _, rfl⟩) (hb hby at_24) hr
  · exact ⟨rfl, N1⟩
set_option maxRecDepth 65536 in
set_option maxHeartbeats 40000000 in
theorem c1_3 (l : Launch) (Z : State) (a0 : Array Value) (hw : ∀ d ∈ tables_1, d.before a0 Z = true) (ws : List Jvm.Cond) (w_IN_ORDER : Addr) (c_w_IN_ORDER : Cell) (h0 : Heap) (n0 : Nat) (Z0 : n0 ≤ h0.size) (G : Glob Z h0 w_IN_ORDER c_w_IN_ORDER)  :
    MetFree l (⟨"com/example/gasreckon/gasreckon/model/SchedulingInterval", "checkSchedule", "(I)I"⟩ : MethodName) (head1 (Jvm.Cond.code (⟨"com/example/gasreckon/gasreckon/model/SchedulingInterval", "checkSchedule", "(I)I"⟩ : MethodName) prog_42_method_5_code 1 (some .int) :: ws) ({ frames := 0, cells := 0, slots := 0, locals := 0 } : Room)) (fun a U => a = #[(.int (4 : Int32))] ∧ Z.Warmed39 U.vm ∧ U.heap = h0) (fun _ _ _ _ _ => True) (fun _ U o U' => ∃ v L, o = .returned v ∧ QR (some (.int (4 : Int32))) h0 n0 v U'.heap L ∧ FrameEnd U o U' L ({ frames := 0, cells := 0, slots := 0, locals := 0 } : Room).cells ({ frames := 0, cells := 0, slots := 0, locals := 0 } : Room).slots) := by
  refine MetFree.of_bodySF (plainFor_of_name pn_com_example_gasreckon_gasreckon_model_SchedulingInterval) hisR ?_
  intro p e s m args below meth c s₁ Bd hml0 hP hK
  obtain ⟨rfl, hZ, hh⟩ := hP
  have hx := Bd.exec
  have hby := Bd.bytes
  have hml : c.maxLocals = 1 := hml0
  have hown : s.vm.findClass "com/example/gasreckon/gasreckon/model/SchedulingInterval" = some m.cls := findClass_of_methodNamed Bd.named
  have X0 : Stand p l e ({ frames := 0, cells := 0, slots := 0, locals := 0 } : Room) s m #[(.int (4 : Int32))] below meth c s₁ [] 0 0 := Stand.of_body Bd
  have e0 : s₁.heap = h0 := by rw [← hh, Bd.state]; rfl
  have N0 := Fr.nil n0
  have pre0 : ∀ t, Steps p.tables e below (s₁.setTop (mkF m 0 #[.val (.int (4 : Int32))] [])) t → Steps p.tables e below (s₁.setTop (entryFrame m #[(.int (4 : Int32))] 1)) t := fun t k => castTop (ef_1_I m (4 : Int32)) k
  have G' := G
  obtain ⟨S_w_IN_ORDER, A_w_IN_ORDER, L_w_IN_ORDER⟩ := G'
  obtain ⟨T1, X1, e1, st1⟩ := getS2 X0 hx hZ hown (host := "") (Or.inl (hw _ (List.mem_of_getElem? (i := 5) rfl))) Via.refl e0 S_w_IN_ORDER (g := (mkF m 6 #[.val (.int (4 : Int32))] [(.int (4 : Int32))])) rfl (hb hby d1_6)
  obtain ⟨fs, hr, hrun, hended, hW, hsame⟩ := X1.leave (v := some (.int (4 : Int32))) (fun h => by rw [Bd.returns] at h; cases h)
  refine ⟨_, _, pre0 _ ?_, hrun, hended, _, _, rfl, ?_, ⟨_, rfl⟩, hW, hsame.mono (by decide) (by decide)⟩
  · show Steps p.tables e below (s₁.setTop (mkF m 0 #[.val (.int (4 : Int32))] [])) _
    refine XS.iloadN X0.here hx rfl (hb hby d1_0) rfl ?_
    show Steps p.tables e below (s₁.setTop (mkF m 1 #[.val (.int (4 : Int32))] [(.int (4 : Int32))])) _
    refine XS.iconst X0.here hx rfl (hb hby d1_1) ?_
    show Steps p.tables e below (s₁.setTop (mkF m 2 #[.val (.int (4 : Int32))] [(.int (1 : Int32)), (.int (4 : Int32))])) _
    refine XS.icmpNo X0.here hx rfl (hb hby d1_2) rfl (flt (by decide : ¬ ((4 : Int32) < (1 : Int32)))).1 ?_
    show Steps p.tables e below (s₁.setTop (mkF m 5 #[.val (.int (4 : Int32))] [])) _
    refine XS.iloadN X0.here hx rfl (hb hby d1_5) rfl ?_
    show Steps p.tables e below (s₁.setTop (mkF m 6 #[.val (.int (4 : Int32))] [(.int (4 : Int32))])) _
    refine st1 _ ?_
    show Steps p.tables e below (T1.setTop (mkF m 9 #[.val (.int (4 : Int32))] [(.ref w_IN_ORDER), (.int (4 : Int32))])) _
    refine X1.arraylength hx (by rw [e1]; exact A_w_IN_ORDER.1) (State.isArrayOf_alike hZ.alike A_w_IN_ORDER.2.1) (g := (mkF m 9 #[.val (.int (4 : Int32))] [(.ref w_IN_ORDER), (.int (4 : Int32))])) rfl rfl (hb hby d1_9) _ ?_
    rw [L_w_IN_ORDER]
    show Steps p.tables e below (T1.setTop (mkF m 10 #[.val (.int (4 : Int32))] [(.int (5 : Int32)), (.int (4 : Int32))])) _
    refine XS.icmpYes X1.here hx rfl (pc0 := 10) (pc' := 27) rfl (hb hby d1_10) rfl (flt (by decide : ¬ ((5 : Int32) < (4 : Int32)))).2.2.2 (by decide) (by decide) ?_
    show Steps p.tables e below (T1.setTop (mkF m 27 #[.val (.int (4 : Int32))] [])) _
    refine XS.iloadN X1.here hx rfl (hb hby d1_27) rfl ?_
    show Steps p.tables e below (T1.setTop (mkF m 28 #[.val (.int (4 : Int32))] [(.int (4 : Int32))])) _
    exact retOut X1 hx Bd.returns rfl (Or.inl ⟨rfl, Or.inl rfl, _, rfl⟩) (hb hby d1_28) hr
  · show QR _ h0 n0 _ T1.heap _
    rw [e1]
    exact ⟨rfl, N0, rfl⟩
set_option maxRecDepth 65536 in
set_option maxHeartbeats 40000000 in
theorem law_3 (l : Launch) (Z : State) (a0 : Array Value) (hw : ∀ d ∈ tables_1, d.before a0 Z = true) (ws : List Jvm.Cond) (w_IN_ORDER : Addr) (c_w_IN_ORDER : Cell) (h0 : Heap) (n0 : Nat) (Z0 : n0 ≤ h0.size) (G : Glob Z h0 w_IN_ORDER c_w_IN_ORDER) (p0 : Int32) (hi3 : ((p0 &&& (2147483647 : Int32)) % (5 : Int32)) = (3 : Int32)) :
    MetFree l x (head1 (Jvm.Cond.code x code maxLocals ret :: ws) room_1) (fun a U => a = #[(.int p0)] ∧ Z.Warmed39 U.vm ∧ U.heap = h0) (fun _ _ _ _ _ => True) (fun _ U o U' => ∃ v L, o = .returned v ∧ QL (some (.int (1 : Int32))) h0 n0 v U'.heap L ∧ FrameEnd U o U' L room_1.cells room_1.slots) := by
  refine MetFree.of_bodySF (plainFor_of_name pn_com_example_gasreckon_gasreckon_model_SchedulingIntervalCheckSchedulePinLaw) hisR ?_
  intro p e s m args below meth c s₁ Bd hml0 hP hK
  obtain ⟨rfl, hZ, hh⟩ := hP
  have hx := Bd.exec
  have hby := Bd.bytes
  have hml : c.maxLocals = 3 := hml0
  have hown : s.vm.findClass "com/example/gasreckon/gasreckon/model/SchedulingIntervalCheckSchedulePinLaw" = some m.cls := findClass_of_methodNamed Bd.named
  have X0 : Stand p l e room_1 s m #[(.int p0)] below meth c s₁ [] 0 0 := Stand.of_body Bd
  have e0 : s₁.heap = h0 := by rw [← hh, Bd.state]; rfl
  have N0 := Fr.nil n0
  have pre0 : ∀ t, Steps p.tables e below (s₁.setTop (mkF m 0 #[.val (.int p0), .unset, .unset] [])) t → Steps p.tables e below (s₁.setTop (entryFrame m #[(.int p0)] maxLocals)) t := fun t k => castTop (ef_0_I m p0) k
  have G' := G
  obtain ⟨S_w_IN_ORDER, A_w_IN_ORDER, L_w_IN_ORDER⟩ := G'
  obtain ⟨_, _, ⟨T1, L1, k1, n1⟩, -, X1, ⟨Lc1, hQ1, l1, y1, z1⟩, st1⟩ := Jvm.LawKit.callS X0 hx (y := (⟨"com/example/gasreckon/gasreckon/model/SchedulingInterval", "checkSchedule", "(I)I"⟩ : MethodName)) hown (mvT hZ (hw _ (List.mem_of_getElem? (i := 1) rfl))) (mvT hZ (hw _ (List.mem_of_getElem? (i := 2) rfl))) (mvT hZ (hw _ (List.mem_of_getElem? (i := 3) rfl))) (mvT hZ (hw _ (List.mem_of_getElem? (i := 4) rfl))) (by decide) (backOf (W := 0) (c1_3 l Z a0 hw [] w_IN_ORDER c_w_IN_ORDER h0 n0 Z0 G) hZ (hw _ (List.mem_of_getElem? (i := 4) rfl)) (hw _ (List.mem_of_getElem? (i := 3) rfl)) (by decide) (by decide)) (g := (mkF m 10 #[.val (.int p0), .val (.int (4 : Int32)), .unset] [(.int (4 : Int32))])) rfl (by rw [hml]; rfl) (argsL := [(.int (4 : Int32))]) (rest := []) (lenOf pd__I_I rfl) rfl (by show 2 * 0 + _ ≤ _; exact Nat.le_of_eq rfl) (hb hby at_10) (fun _ _ => ⟨rfl, e0, (by decide : 0 + 0 ≤ _), (by decide : 0 + 0 ≤ _)⟩)
  dsimp only [Pt.U, Pt.locs, Pt.cells, Pt.slots] at X1 l1 y1 z1 st1 hQ1
  subst l1 y1 z1
  obtain ⟨rfl, N1q, e1⟩ := hQ1
  have N1 := Fr.app N0 N1q
  obtain ⟨fs, hr, hrun, hended, hW, hsame⟩ := X1.leave (v := some (.int (1 : Int32))) (fun h => by rw [Bd.returns] at h; cases h)
  refine ⟨_, _, pre0 _ ?_, hrun, hended, _, _, rfl, ?_, ⟨_, rfl⟩, hW, hsame.mono (by decide) (by decide)⟩
  · show Steps p.tables e below (s₁.setTop (mkF m 0 #[.val (.int p0), .unset, .unset] [])) _
    refine XS.iloadN X0.here hx rfl (hb hby at_0) rfl ?_
    show Steps p.tables e below (s₁.setTop (mkF m 1 #[.val (.int p0), .unset, .unset] [(.int p0)])) _
    refine X0.ldcInt hx hown (mvT hZ (hw _ (List.mem_of_getElem? (i := 0) rfl))) (g := (mkF m 1 #[.val (.int p0), .unset, .unset] [(.int p0)])) rfl (hb hby at_1) _ ?_
    show Steps p.tables e below (s₁.setTop (mkF m 3 #[.val (.int p0), .unset, .unset] [(.int (2147483647 : Int32)), (.int p0)])) _
    refine XS.iand X0.here hx rfl (hb hby at_3) rfl ?_
    show Steps p.tables e below (s₁.setTop (mkF m 4 #[.val (.int p0), .unset, .unset] [(.int (p0 &&& (2147483647 : Int32)))])) _
    refine XS.iconst X0.here hx rfl (hb hby at_4) ?_
    show Steps p.tables e below (s₁.setTop (mkF m 5 #[.val (.int p0), .unset, .unset] [(.int (5 : Int32)), (.int (p0 &&& (2147483647 : Int32)))])) _
    refine iremM X0 hx rfl (hb hby at_5) rfl (by decide) ?_
    show Steps p.tables e below (s₁.setTop (mkF m 6 #[.val (.int p0), .unset, .unset] [(.int ((p0 &&& (2147483647 : Int32)) % (5 : Int32)))])) _
    rw [hi3]
    show Steps p.tables e below (s₁.setTop (mkF m 6 #[.val (.int p0), .unset, .unset] [(.int (3 : Int32))])) _
    refine XS.iconst X0.here hx rfl (hb hby at_6) ?_
    show Steps p.tables e below (s₁.setTop (mkF m 7 #[.val (.int p0), .unset, .unset] [(.int (1 : Int32)), (.int (3 : Int32))])) _
    refine XS.iadd X0.here hx rfl (hb hby at_7) rfl ?_
    show Steps p.tables e below (s₁.setTop (mkF m 8 #[.val (.int p0), .unset, .unset] [(.int ((3 : Int32) + (1 : Int32)))])) _
    rw [(show ((3 : Int32) + (1 : Int32)) = (4 : Int32) from by decide)]
    show Steps p.tables e below (s₁.setTop (mkF m 8 #[.val (.int p0), .unset, .unset] [(.int (4 : Int32))])) _
    refine XS.istoreN X0.here hx rfl (hb hby at_8) rfl (l' := #[.val (.int p0), .val (.int (4 : Int32)), .unset]) rfl ?_
    show Steps p.tables e below (s₁.setTop (mkF m 9 #[.val (.int p0), .val (.int (4 : Int32)), .unset] [])) _
    refine XS.iloadN X0.here hx rfl (hb hby at_9) rfl ?_
    show Steps p.tables e below (s₁.setTop (mkF m 10 #[.val (.int p0), .val (.int (4 : Int32)), .unset] [(.int (4 : Int32))])) _
    refine st1 _ ?_
    show Steps p.tables e below (T1.setTop (mkF m 13 #[.val (.int p0), .val (.int (4 : Int32)), .unset] [(.int (4 : Int32))])) _
    refine XS.istoreN X1.here hx rfl (hb hby at_13) rfl (l' := #[.val (.int p0), .val (.int (4 : Int32)), .val (.int (4 : Int32))]) rfl ?_
    show Steps p.tables e below (T1.setTop (mkF m 14 #[.val (.int p0), .val (.int (4 : Int32)), .val (.int (4 : Int32))] [])) _
    refine XS.iloadN X1.here hx rfl (hb hby at_14) rfl ?_
    show Steps p.tables e below (T1.setTop (mkF m 15 #[.val (.int p0), .val (.int (4 : Int32)), .val (.int (4 : Int32))] [(.int (4 : Int32))])) _
    refine XS.iloadN X1.here hx rfl (hb hby at_15) rfl ?_
    show Steps p.tables e below (T1.setTop (mkF m 16 #[.val (.int p0), .val (.int (4 : Int32)), .val (.int (4 : Int32))] [(.int (4 : Int32)), (.int (4 : Int32))])) _
    refine XS.icmpNo X1.here hx rfl (hb hby at_16) rfl (teq (by decide : (4 : Int32) = (4 : Int32))).2 ?_
    show Steps p.tables e below (T1.setTop (mkF m 19 #[.val (.int p0), .val (.int (4 : Int32)), .val (.int (4 : Int32))] [])) _
    refine XS.iconst X1.here hx rfl (hb hby at_19) ?_
    show Steps p.tables e below (T1.setTop (mkF m 20 #[.val (.int p0), .val (.int (4 : Int32)), .val (.int (4 : Int32))] [(.int (1 : Int32))])) _
    refine XS.goto X1.here hx rfl (pc0 := 20) (pc' := 24) rfl (hb hby at_20) (by decide) (by decide) ?_
    show Steps p.tables e below (T1.setTop (mkF m 24 #[.val (.int p0), .val (.int (4 : Int32)), .val (.int (4 : Int32))] [(.int (1 : Int32))])) _
    exact retOut X1 hx Bd.returns rfl (Or.inl ⟨rfl, Or.inr (Or.inl rfl), _, rfl⟩) (hb hby at_24) hr
  · exact ⟨rfl, N1⟩
set_option maxRecDepth 65536 in
set_option maxHeartbeats 40000000 in
theorem c1_4 (l : Launch) (Z : State) (a0 : Array Value) (hw : ∀ d ∈ tables_1, d.before a0 Z = true) (ws : List Jvm.Cond) (w_IN_ORDER : Addr) (c_w_IN_ORDER : Cell) (h0 : Heap) (n0 : Nat) (Z0 : n0 ≤ h0.size) (G : Glob Z h0 w_IN_ORDER c_w_IN_ORDER)  :
    MetFree l (⟨"com/example/gasreckon/gasreckon/model/SchedulingInterval", "checkSchedule", "(I)I"⟩ : MethodName) (head1 (Jvm.Cond.code (⟨"com/example/gasreckon/gasreckon/model/SchedulingInterval", "checkSchedule", "(I)I"⟩ : MethodName) prog_42_method_5_code 1 (some .int) :: ws) ({ frames := 0, cells := 0, slots := 0, locals := 0 } : Room)) (fun a U => a = #[(.int (5 : Int32))] ∧ Z.Warmed39 U.vm ∧ U.heap = h0) (fun _ _ _ _ _ => True) (fun _ U o U' => ∃ v L, o = .returned v ∧ QR (some (.int (5 : Int32))) h0 n0 v U'.heap L ∧ FrameEnd U o U' L ({ frames := 0, cells := 0, slots := 0, locals := 0 } : Room).cells ({ frames := 0, cells := 0, slots := 0, locals := 0 } : Room).slots) := by
  refine MetFree.of_bodySF (plainFor_of_name pn_com_example_gasreckon_gasreckon_model_SchedulingInterval) hisR ?_
  intro p e s m args below meth c s₁ Bd hml0 hP hK
  obtain ⟨rfl, hZ, hh⟩ := hP
  have hx := Bd.exec
  have hby := Bd.bytes
  have hml : c.maxLocals = 1 := hml0
  have hown : s.vm.findClass "com/example/gasreckon/gasreckon/model/SchedulingInterval" = some m.cls := findClass_of_methodNamed Bd.named
  have X0 : Stand p l e ({ frames := 0, cells := 0, slots := 0, locals := 0 } : Room) s m #[(.int (5 : Int32))] below meth c s₁ [] 0 0 := Stand.of_body Bd
  have e0 : s₁.heap = h0 := by rw [← hh, Bd.state]; rfl
  have N0 := Fr.nil n0
  have pre0 : ∀ t, Steps p.tables e below (s₁.setTop (mkF m 0 #[.val (.int (5 : Int32))] [])) t → Steps p.tables e below (s₁.setTop (entryFrame m #[(.int (5 : Int32))] 1)) t := fun t k => castTop (ef_1_I m (5 : Int32)) k
  have G' := G
  obtain ⟨S_w_IN_ORDER, A_w_IN_ORDER, L_w_IN_ORDER⟩ := G'
  obtain ⟨T1, X1, e1, st1⟩ := getS2 X0 hx hZ hown (host := "") (Or.inl (hw _ (List.mem_of_getElem? (i := 5) rfl))) Via.refl e0 S_w_IN_ORDER (g := (mkF m 6 #[.val (.int (5 : Int32))] [(.int (5 : Int32))])) rfl (hb hby d1_6)
  obtain ⟨fs, hr, hrun, hended, hW, hsame⟩ := X1.leave (v := some (.int (5 : Int32))) (fun h => by rw [Bd.returns] at h; cases h)
  refine ⟨_, _, pre0 _ ?_, hrun, hended, _, _, rfl, ?_, ⟨_, rfl⟩, hW, hsame.mono (by decide) (by decide)⟩
  · show Steps p.tables e below (s₁.setTop (mkF m 0 #[.val (.int (5 : Int32))] [])) _
    refine XS.iloadN X0.here hx rfl (hb hby d1_0) rfl ?_
    show Steps p.tables e below (s₁.setTop (mkF m 1 #[.val (.int (5 : Int32))] [(.int (5 : Int32))])) _
    refine XS.iconst X0.here hx rfl (hb hby d1_1) ?_
    show Steps p.tables e below (s₁.setTop (mkF m 2 #[.val (.int (5 : Int32))] [(.int (1 : Int32)), (.int (5 : Int32))])) _
    refine XS.icmpNo X0.here hx rfl (hb hby d1_2) rfl (flt (by decide : ¬ ((5 : Int32) < (1 : Int32)))).1 ?_
    show Steps p.tables e below (s₁.setTop (mkF m 5 #[.val (.int (5 : Int32))] [])) _
    refine XS.iloadN X0.here hx rfl (hb hby d1_5) rfl ?_
    show Steps p.tables e below (s₁.setTop (mkF m 6 #[.val (.int (5 : Int32))] [(.int (5 : Int32))])) _
    refine st1 _ ?_
    show Steps p.tables e below (T1.setTop (mkF m 9 #[.val (.int (5 : Int32))] [(.ref w_IN_ORDER), (.int (5 : Int32))])) _
    refine X1.arraylength hx (by rw [e1]; exact A_w_IN_ORDER.1) (State.isArrayOf_alike hZ.alike A_w_IN_ORDER.2.1) (g := (mkF m 9 #[.val (.int (5 : Int32))] [(.ref w_IN_ORDER), (.int (5 : Int32))])) rfl rfl (hb hby d1_9) _ ?_
    rw [L_w_IN_ORDER]
    show Steps p.tables e below (T1.setTop (mkF m 10 #[.val (.int (5 : Int32))] [(.int (5 : Int32)), (.int (5 : Int32))])) _
    refine XS.icmpYes X1.here hx rfl (pc0 := 10) (pc' := 27) rfl (hb hby d1_10) rfl (flt (by decide : ¬ ((5 : Int32) < (5 : Int32)))).2.2.2 (by decide) (by decide) ?_
    show Steps p.tables e below (T1.setTop (mkF m 27 #[.val (.int (5 : Int32))] [])) _
    refine XS.iloadN X1.here hx rfl (hb hby d1_27) rfl ?_
    show Steps p.tables e below (T1.setTop (mkF m 28 #[.val (.int (5 : Int32))] [(.int (5 : Int32))])) _
    exact retOut X1 hx Bd.returns rfl (Or.inl ⟨rfl, Or.inl rfl, _, rfl⟩) (hb hby d1_28) hr
  · show QR _ h0 n0 _ T1.heap _
    rw [e1]
    exact ⟨rfl, N0, rfl⟩
set_option maxRecDepth 65536 in
set_option maxHeartbeats 40000000 in
theorem law_4 (l : Launch) (Z : State) (a0 : Array Value) (hw : ∀ d ∈ tables_1, d.before a0 Z = true) (ws : List Jvm.Cond) (w_IN_ORDER : Addr) (c_w_IN_ORDER : Cell) (h0 : Heap) (n0 : Nat) (Z0 : n0 ≤ h0.size) (G : Glob Z h0 w_IN_ORDER c_w_IN_ORDER) (p0 : Int32) (hi4 : ((p0 &&& (2147483647 : Int32)) % (5 : Int32)) = (4 : Int32)) :
    MetFree l x (head1 (Jvm.Cond.code x code maxLocals ret :: ws) room_1) (fun a U => a = #[(.int p0)] ∧ Z.Warmed39 U.vm ∧ U.heap = h0) (fun _ _ _ _ _ => True) (fun _ U o U' => ∃ v L, o = .returned v ∧ QL (some (.int (1 : Int32))) h0 n0 v U'.heap L ∧ FrameEnd U o U' L room_1.cells room_1.slots) := by
  refine MetFree.of_bodySF (plainFor_of_name pn_com_example_gasreckon_gasreckon_model_SchedulingIntervalCheckSchedulePinLaw) hisR ?_
  intro p e s m args below meth c s₁ Bd hml0 hP hK
  obtain ⟨rfl, hZ, hh⟩ := hP
  have hx := Bd.exec
  have hby := Bd.bytes
  have hml : c.maxLocals = 3 := hml0
  have hown : s.vm.findClass "com/example/gasreckon/gasreckon/model/SchedulingIntervalCheckSchedulePinLaw" = some m.cls := findClass_of_methodNamed Bd.named
  have X0 : Stand p l e room_1 s m #[(.int p0)] below meth c s₁ [] 0 0 := Stand.of_body Bd
  have e0 : s₁.heap = h0 := by rw [← hh, Bd.state]; rfl
  have N0 := Fr.nil n0
  have pre0 : ∀ t, Steps p.tables e below (s₁.setTop (mkF m 0 #[.val (.int p0), .unset, .unset] [])) t → Steps p.tables e below (s₁.setTop (entryFrame m #[(.int p0)] maxLocals)) t := fun t k => castTop (ef_0_I m p0) k
  have G' := G
  obtain ⟨S_w_IN_ORDER, A_w_IN_ORDER, L_w_IN_ORDER⟩ := G'
  obtain ⟨_, _, ⟨T1, L1, k1, n1⟩, -, X1, ⟨Lc1, hQ1, l1, y1, z1⟩, st1⟩ := Jvm.LawKit.callS X0 hx (y := (⟨"com/example/gasreckon/gasreckon/model/SchedulingInterval", "checkSchedule", "(I)I"⟩ : MethodName)) hown (mvT hZ (hw _ (List.mem_of_getElem? (i := 1) rfl))) (mvT hZ (hw _ (List.mem_of_getElem? (i := 2) rfl))) (mvT hZ (hw _ (List.mem_of_getElem? (i := 3) rfl))) (mvT hZ (hw _ (List.mem_of_getElem? (i := 4) rfl))) (by decide) (backOf (W := 0) (c1_4 l Z a0 hw [] w_IN_ORDER c_w_IN_ORDER h0 n0 Z0 G) hZ (hw _ (List.mem_of_getElem? (i := 4) rfl)) (hw _ (List.mem_of_getElem? (i := 3) rfl)) (by decide) (by decide)) (g := (mkF m 10 #[.val (.int p0), .val (.int (5 : Int32)), .unset] [(.int (5 : Int32))])) rfl (by rw [hml]; rfl) (argsL := [(.int (5 : Int32))]) (rest := []) (lenOf pd__I_I rfl) rfl (by show 2 * 0 + _ ≤ _; exact Nat.le_of_eq rfl) (hb hby at_10) (fun _ _ => ⟨rfl, e0, (by decide : 0 + 0 ≤ _), (by decide : 0 + 0 ≤ _)⟩)
  dsimp only [Pt.U, Pt.locs, Pt.cells, Pt.slots] at X1 l1 y1 z1 st1 hQ1
  subst l1 y1 z1
  obtain ⟨rfl, N1q, e1⟩ := hQ1
  have N1 := Fr.app N0 N1q
  obtain ⟨fs, hr, hrun, hended, hW, hsame⟩ := X1.leave (v := some (.int (1 : Int32))) (fun h => by rw [Bd.returns] at h; cases h)
  refine ⟨_, _, pre0 _ ?_, hrun, hended, _, _, rfl, ?_, ⟨_, rfl⟩, hW, hsame.mono (by decide) (by decide)⟩
  · show Steps p.tables e below (s₁.setTop (mkF m 0 #[.val (.int p0), .unset, .unset] [])) _
    refine XS.iloadN X0.here hx rfl (hb hby at_0) rfl ?_
    show Steps p.tables e below (s₁.setTop (mkF m 1 #[.val (.int p0), .unset, .unset] [(.int p0)])) _
    refine X0.ldcInt hx hown (mvT hZ (hw _ (List.mem_of_getElem? (i := 0) rfl))) (g := (mkF m 1 #[.val (.int p0), .unset, .unset] [(.int p0)])) rfl (hb hby at_1) _ ?_
    show Steps p.tables e below (s₁.setTop (mkF m 3 #[.val (.int p0), .unset, .unset] [(.int (2147483647 : Int32)), (.int p0)])) _
    refine XS.iand X0.here hx rfl (hb hby at_3) rfl ?_
    show Steps p.tables e below (s₁.setTop (mkF m 4 #[.val (.int p0), .unset, .unset] [(.int (p0 &&& (2147483647 : Int32)))])) _
    refine XS.iconst X0.here hx rfl (hb hby at_4) ?_
    show Steps p.tables e below (s₁.setTop (mkF m 5 #[.val (.int p0), .unset, .unset] [(.int (5 : Int32)), (.int (p0 &&& (2147483647 : Int32)))])) _
    refine iremM X0 hx rfl (hb hby at_5) rfl (by decide) ?_
    show Steps p.tables e below (s₁.setTop (mkF m 6 #[.val (.int p0), .unset, .unset] [(.int ((p0 &&& (2147483647 : Int32)) % (5 : Int32)))])) _
    rw [hi4]
    show Steps p.tables e below (s₁.setTop (mkF m 6 #[.val (.int p0), .unset, .unset] [(.int (4 : Int32))])) _
    refine XS.iconst X0.here hx rfl (hb hby at_6) ?_
    show Steps p.tables e below (s₁.setTop (mkF m 7 #[.val (.int p0), .unset, .unset] [(.int (1 : Int32)), (.int (4 : Int32))])) _
    refine XS.iadd X0.here hx rfl (hb hby at_7) rfl ?_
    show Steps p.tables e below (s₁.setTop (mkF m 8 #[.val (.int p0), .unset, .unset] [(.int ((4 : Int32) + (1 : Int32)))])) _
    rw [(show ((4 : Int32) + (1 : Int32)) = (5 : Int32) from by decide)]
    show Steps p.tables e below (s₁.setTop (mkF m 8 #[.val (.int p0), .unset, .unset] [(.int (5 : Int32))])) _
    refine XS.istoreN X0.here hx rfl (hb hby at_8) rfl (l' := #[.val (.int p0), .val (.int (5 : Int32)), .unset]) rfl ?_
    show Steps p.tables e below (s₁.setTop (mkF m 9 #[.val (.int p0), .val (.int (5 : Int32)), .unset] [])) _
    refine XS.iloadN X0.here hx rfl (hb hby at_9) rfl ?_
    show Steps p.tables e below (s₁.setTop (mkF m 10 #[.val (.int p0), .val (.int (5 : Int32)), .unset] [(.int (5 : Int32))])) _
    refine st1 _ ?_
    show Steps p.tables e below (T1.setTop (mkF m 13 #[.val (.int p0), .val (.int (5 : Int32)), .unset] [(.int (5 : Int32))])) _
    refine XS.istoreN X1.here hx rfl (hb hby at_13) rfl (l' := #[.val (.int p0), .val (.int (5 : Int32)), .val (.int (5 : Int32))]) rfl ?_
    show Steps p.tables e below (T1.setTop (mkF m 14 #[.val (.int p0), .val (.int (5 : Int32)), .val (.int (5 : Int32))] [])) _
    refine XS.iloadN X1.here hx rfl (hb hby at_14) rfl ?_
    show Steps p.tables e below (T1.setTop (mkF m 15 #[.val (.int p0), .val (.int (5 : Int32)), .val (.int (5 : Int32))] [(.int (5 : Int32))])) _
    refine XS.iloadN X1.here hx rfl (hb hby at_15) rfl ?_
    show Steps p.tables e below (T1.setTop (mkF m 16 #[.val (.int p0), .val (.int (5 : Int32)), .val (.int (5 : Int32))] [(.int (5 : Int32)), (.int (5 : Int32))])) _
    refine XS.icmpNo X1.here hx rfl (hb hby at_16) rfl (teq (by decide : (5 : Int32) = (5 : Int32))).2 ?_
    show Steps p.tables e below (T1.setTop (mkF m 19 #[.val (.int p0), .val (.int (5 : Int32)), .val (.int (5 : Int32))] [])) _
    refine XS.iconst X1.here hx rfl (hb hby at_19) ?_
    show Steps p.tables e below (T1.setTop (mkF m 20 #[.val (.int p0), .val (.int (5 : Int32)), .val (.int (5 : Int32))] [(.int (1 : Int32))])) _
    refine XS.goto X1.here hx rfl (pc0 := 20) (pc' := 24) rfl (hb hby at_20) (by decide) (by decide) ?_
    show Steps p.tables e below (T1.setTop (mkF m 24 #[.val (.int p0), .val (.int (5 : Int32)), .val (.int (5 : Int32))] [(.int (1 : Int32))])) _
    exact retOut X1 hx Bd.returns rfl (Or.inl ⟨rfl, Or.inr (Or.inl rfl), _, rfl⟩) (hb hby at_24) hr
  · exact ⟨rfl, N1⟩
set_option maxRecDepth 65536 in
set_option maxHeartbeats 40000000 in
theorem comes_1 {Post : Tables → Env → Array Value → State → Outcome → State → Prop} (hpost : ∀ tb e args s v u, (limb_1_1.after args s (.returned v) u = true ∧ limb_1_2.after args s (.returned v) u = true) → FrameEnd s (.returned v) u (Jvm.fieldLocs frame_1_writes args s ++ Jvm.arrayLocs frame_1_arrays args s ++ Jvm.staticLocs frame_1_statics s) 0 0 → Post tb e args s (.returned v) u) :
    ArmFor flags0 classFile x code maxLocals ret World_1 tables_1 room_1 Calls_1 rest_1 Pre_1 Post := by
  intro l hfl _ _ p e ha hc hk s m args below hf hA hF happ hP
  obtain ⟨hcalls, hrest, hpre⟩ := hP
  obtain ⟨-, -, -, hnamed, -, -, -, hat⟩ := (Spec.applies_iff hf).mp happ
  obtain ⟨hg, n⟩ := and_e (Cond.before_iff.mp (show (Jvm.Cond.and given_1 narrow_1).before args s = true from hpre))
  obtain ⟨gc, g0⟩ := and_e hg
  obtain ⟨w0, rfl⟩ : ∃ w0 : Value, args = #[w0] := by
    have hs : args.size = 1 := by simpa [Cond.value, given_1] using gc
    obtain ⟨L⟩ := args
    match L, hs with
    | [w0], _ => exact ⟨w0, rfl⟩
  have hw := fun d (hd : d ∈ tables_1) => atoms_spec (ws := Jvm.Cond.code x code maxLocals ret :: tables_1) hat d (List.mem_cons_of_mem _ hd)
  obtain ⟨i0, ei0⟩ := is_v g0
  obtain rfl : w0 = (.int i0) := Option.some.inj ei0
  obtain ⟨n1, n2⟩ := and_e n
  obtain ⟨w_IN_ORDER, v_w_IN_ORDER⟩ := arr_v n1
  have S_w_IN_ORDER : Sta s s.heap "com/example/gasreckon/gasreckon/model/SchedulingInterval" "IN_ORDER" "[Lcom/example/gasreckon/gasreckon/model/SchedulingInterval;" (.ref w_IN_ORDER) := Sta.start v_w_IN_ORDER (Or.inr ⟨(hw _ (List.mem_of_getElem? (i := 3) rfl)), (hw _ (List.mem_of_getElem? (i := 6) rfl))⟩)
  obtain ⟨c_w_IN_ORDER, A_w_IN_ORDER⟩ := Arr.start v_w_IN_ORDER n1
  have L_w_IN_ORDER := own_len v_w_IN_ORDER A_w_IN_ORDER n2 (n := 5) (by decide)
  have G : Glob s s.heap w_IN_ORDER c_w_IN_ORDER := ⟨S_w_IN_ORDER, A_w_IN_ORDER, L_w_IN_ORDER⟩
  rcases own_cases_rem5 i0 with hi | hi | hi | hi | hi
  · obtain ⟨n, o, h1, h2, h3, _, L, rfl, ⟨rfl, N⟩, hq⟩ := law_0 l s _ hw tables_1 w_IN_ORDER c_w_IN_ORDER s.heap s.heap.size (Nat.le_refl _) G i0 hi p e ha hc hk s m _ below hf ((Spec.applies_iff_loose hf).mp happ).1 ⟨rfl, State.Warmed39.refl s, rfl⟩ trivial
    exact ⟨n, _, h1, h2, h3, hpost _ _ _ _ _ _ ⟨Cond.after_iff.mpr rfl, Cond.after_iff.mpr (eq_i res_at (Term.int_eval (1)) rfl)⟩ ⟨hq.1, hq.2.1, (hq.2.2.sift fun y hy => Or.inr (N y hy)).mono (by decide) (by decide)⟩⟩
  · obtain ⟨n, o, h1, h2, h3, _, L, rfl, ⟨rfl, N⟩, hq⟩ := law_1 l s _ hw tables_1 w_IN_ORDER c_w_IN_ORDER s.heap s.heap.size (Nat.le_refl _) G i0 hi p e ha hc hk s m _ below hf ((Spec.applies_iff_loose hf).mp happ).1 ⟨rfl, State.Warmed39.refl s, rfl⟩ trivial
    exact ⟨n, _, h1, h2, h3, hpost _ _ _ _ _ _ ⟨Cond.after_iff.mpr rfl, Cond.after_iff.mpr (eq_i res_at (Term.int_eval (1)) rfl)⟩ ⟨hq.1, hq.2.1, (hq.2.2.sift fun y hy => Or.inr (N y hy)).mono (by decide) (by decide)⟩⟩
  · obtain ⟨n, o, h1, h2, h3, _, L, rfl, ⟨rfl, N⟩, hq⟩ := law_2 l s _ hw tables_1 w_IN_ORDER c_w_IN_ORDER s.heap s.heap.size (Nat.le_refl _) G i0 hi p e ha hc hk s m _ below hf ((Spec.applies_iff_loose hf).mp happ).1 ⟨rfl, State.Warmed39.refl s, rfl⟩ trivial
    exact ⟨n, _, h1, h2, h3, hpost _ _ _ _ _ _ ⟨Cond.after_iff.mpr rfl, Cond.after_iff.mpr (eq_i res_at (Term.int_eval (1)) rfl)⟩ ⟨hq.1, hq.2.1, (hq.2.2.sift fun y hy => Or.inr (N y hy)).mono (by decide) (by decide)⟩⟩
  · obtain ⟨n, o, h1, h2, h3, _, L, rfl, ⟨rfl, N⟩, hq⟩ := law_3 l s _ hw tables_1 w_IN_ORDER c_w_IN_ORDER s.heap s.heap.size (Nat.le_refl _) G i0 hi p e ha hc hk s m _ below hf ((Spec.applies_iff_loose hf).mp happ).1 ⟨rfl, State.Warmed39.refl s, rfl⟩ trivial
    exact ⟨n, _, h1, h2, h3, hpost _ _ _ _ _ _ ⟨Cond.after_iff.mpr rfl, Cond.after_iff.mpr (eq_i res_at (Term.int_eval (1)) rfl)⟩ ⟨hq.1, hq.2.1, (hq.2.2.sift fun y hy => Or.inr (N y hy)).mono (by decide) (by decide)⟩⟩
  · obtain ⟨n, o, h1, h2, h3, _, L, rfl, ⟨rfl, N⟩, hq⟩ := law_4 l s _ hw tables_1 w_IN_ORDER c_w_IN_ORDER s.heap s.heap.size (Nat.le_refl _) G i0 hi p e ha hc hk s m _ below hf ((Spec.applies_iff_loose hf).mp happ).1 ⟨rfl, State.Warmed39.refl s, rfl⟩ trivial
    exact ⟨n, _, h1, h2, h3, hpost _ _ _ _ _ _ ⟨Cond.after_iff.mpr rfl, Cond.after_iff.mpr (eq_i res_at (Term.int_eval (1)) rfl)⟩ ⟨hq.1, hq.2.1, (hq.2.2.sift fun y hy => Or.inr (N y hy)).mono (by decide) (by decide)⟩⟩
theorem main_1_1 : Claimed_1_1 := comes_1 fun _ _ _ _ _ _ h hF => ⟨h.1, hF⟩
theorem main_1_2 : Claimed_1_2 := comes_1 fun _ _ _ _ _ _ h hF => ⟨h.2, hF⟩
end Jvm.Pilot.@@N@@
namespace Jvm.Pilot.@@N@@
open Jvm Jvm.ClassFile Sem Op Lib Jvm.Free Jvm.Stand Jvm.Pilot.@@N@@.Jvm.D
/-! MADE BY PROGRAM (witnessworld.py) out of the Statement's table words and the real class files: 13 classes; the members and pool entries that the words name. The judged class is class 1, her method 1. -/
namespace start1
open Jvm.ClassFile
def u (s : String) : CpInfo := .utf8 (stringToUtf16 s)
/-- a pool by its gaps: so many unusable entries, then the entry; so many at the end -/
def gap : Nat → List CpInfo → List CpInfo
  | 0, r => r
  | n + 1, r => .unusable :: gap n r
def poolList (es : List (Nat × CpInfo)) (last : Nat) : List CpInfo := es.foldr (fun e r => gap e.1 (e.2 :: r)) (gap last [])
def pool (es : List (Nat × CpInfo)) (last : Nat) : Array CpInfo := ⟨poolList es last⟩
def fileOf (pool : Array CpInfo) (this : Nat) (attrs : Array Attribute := #[]) (ms : Array MethodInfo := #[]) (fl : Nat := 33) (sup : Nat := 0) (ifs : Array Nat := #[]) (fds : Array FieldInfo := #[]) : ClassFile where
  minorVersion := 0
  majorVersion := 65
  constantPool := pool
  accessFlags := fl
  thisClass := this
  superClass := sup
  interfaces := ifs
  fields := fds
  methods := ms
  attributes := attrs
def plain (name : String) (sup : Option ClassId) : Class where
  name := name
  kind := .ordinary
  loader := none
  accessFlags := 33
  super := sup
  interfaces := #[]
  cf := none
  fields := #[]
  methods := #[]
  instanceTypes := #[]
  staticTypes := #[]
  resolved := #[]
  callSites := []
  init := .initialized
  statics := none
  mirror := none

def pool0 : Array CpInfo := pool [(5, u "<init>"), (0, u "()V"), (1, .class_ 10), (1, u "java/lang/Object")] 113

def k0m0 : Method := { name := "<init>", desc := "()V", sig := { parameters := [], returnType := none }, accessFlags := 1, code := none }
/-- java/lang/Object -/
def k0 : Class := { plain "java/lang/Object" none with
  accessFlags := 33
  interfaces := #[]
  cf := some (fileOf pool0 8 #[] #[{ accessFlags := 1, nameIndex := 5, descriptorIndex := 6, attributes := #[] }] 33 0 #[] #[])
  fields := #[]
  methods := #[k0m0]
  instanceTypes := #[]
  staticTypes := #[]
  resolved := Array.replicate 124 none
  statics := none }

def pool1 : Array CpInfo := pool [(2, .class_ 4), (1, u "java/lang/Object"), (0, u "<init>"), (0, u "()V"), (0, .integer 2147483647), (0, .methodref 9 10), (0, .class_ 11), (0, .nameAndType 12 13), (0, u "com/example/gasreckon/gasreckon/model/SchedulingInterval"), (0, u "checkSchedule"), (0, u "(I)I"), (0, .class_ 15), (0, u "com/example/gasreckon/gasreckon/model/SchedulingIntervalCheckSchedulePinLaw"), (2, u "law"), (0, u "(I)Z")] 3

def k1m0 : Method := { name := "<init>", desc := "()V", sig := { parameters := [], returnType := none }, accessFlags := 2, code := none }
def k1c1 : Code := { maxStack := 2, maxLocals := 3, code := code, exceptionTable := #[], attributes := #[] }
def k1m1 : Method := { name := "law", desc := "(I)Z", sig := { parameters := [.int], returnType := some .boolean }, accessFlags := 9, code := some k1c1 }
/-- com/example/gasreckon/gasreckon/model/SchedulingIntervalCheckSchedulePinLaw -/
def k1 : Class := { plain "com/example/gasreckon/gasreckon/model/SchedulingIntervalCheckSchedulePinLaw" (some 0) with
  accessFlags := 49
  interfaces := #[]
  cf := some (fileOf pool1 14 #[] #[{ accessFlags := 2, nameIndex := 5, descriptorIndex := 6, attributes := #[] }, { accessFlags := 9, nameIndex := 18, descriptorIndex := 19, attributes := #[] }] 49 2 #[] #[])
  fields := #[]
  methods := #[k1m0, k1m1]
  instanceTypes := #[]
  staticTypes := #[]
  resolved := Array.replicate 23 none
  statics := none }

def pool2 : Array CpInfo := pool [(1, .class_ 2), (0, u "java/lang/constant/Constable"), (0, .class_ 4), (0, u "java/lang/Object")] 6

/-- java/lang/constant/Constable -/
def k2 : Class := { plain "java/lang/constant/Constable" (some 0) with
  accessFlags := 1537
  interfaces := #[]
  cf := some (fileOf pool2 1 #[] #[] 1537 3 #[] #[])
  fields := #[]
  methods := #[]
  instanceTypes := #[]
  staticTypes := #[]
  resolved := Array.replicate 11 none
  statics := none }

def pool3 : Array CpInfo := pool [(1, .class_ 2), (0, u "java/lang/Comparable"), (0, .class_ 4), (0, u "java/lang/Object")] 7

/-- java/lang/Comparable -/
def k3 : Class := { plain "java/lang/Comparable" (some 0) with
  accessFlags := 1537
  interfaces := #[]
  cf := some (fileOf pool3 1 #[] #[] 1537 3 #[] #[])
  fields := #[]
  methods := #[]
  instanceTypes := #[]
  staticTypes := #[]
  resolved := Array.replicate 12 none
  statics := none }

def pool4 : Array CpInfo := pool [(1, .class_ 2), (0, u "java/io/Serializable"), (0, .class_ 4), (0, u "java/lang/Object")] 2

/-- java/io/Serializable -/
def k4 : Class := { plain "java/io/Serializable" (some 0) with
  accessFlags := 1537
  interfaces := #[]
  cf := some (fileOf pool4 1 #[] #[] 1537 3 #[] #[])
  fields := #[]
  methods := #[]
  instanceTypes := #[]
  staticTypes := #[]
  resolved := Array.replicate 7 none
  statics := none }

def pool5 : Array CpInfo := pool [(2, .class_ 4), (1, u "java/lang/Enum"), (0, u "name"), (0, u "Ljava/lang/String;"), (2, u "ordinal"), (0, u "I"), (1, .class_ 14), (1, u "java/lang/Object"), (4, u "hash"), (86, .class_ 108), (1, u "java/lang/Enum$EnumDesc"), (2, .class_ 112), (0, u "java/lang/constant/Constable"), (0, .class_ 114), (0, u "java/lang/Comparable"), (0, .class_ 116), (0, u "java/io/Serializable")] 87

/-- java/lang/Enum -/
def k5 : Class := { plain "java/lang/Enum" (some 0) with
  accessFlags := 1057
  interfaces := #[2, 3, 4]
  cf := some (fileOf pool5 2 #[.nestMembers #[106]] #[] 1057 12 #[111, 113, 115] #[{ accessFlags := 18, nameIndex := 5, descriptorIndex := 6, attributes := #[] }, { accessFlags := 18, nameIndex := 9, descriptorIndex := 10, attributes := #[] }, { accessFlags := 2, nameIndex := 19, descriptorIndex := 10, attributes := #[] }])
  fields := #[{ name := "name", type := (.object "java/lang/String"), accessFlags := 18, slot := 0, constantValue := 0 }, { name := "ordinal", type := .int, accessFlags := 18, slot := 1, constantValue := 0 }, { name := "hash", type := .int, accessFlags := 2, slot := 2, constantValue := 0 }]
  methods := #[]
  instanceTypes := #[(.object "java/lang/String"), .int, .int]
  staticTypes := #[]
  resolved := Array.replicate 204 none
  statics := none }

def pool6 : Array CpInfo := pool [(1, .class_ 2), (0, u "com/example/gasreckon/gasreckon/model/SchedulingInterval"), (2, u "INTERVAL_1"), (0, u "Lcom/example/gasreckon/gasreckon/model/SchedulingInterval;"), (2, u "INTERVAL_2"), (2, u "INTERVAL_3"), (2, u "INTERVAL_4"), (2, u "INTERVAL_5"), (2, u "$VALUES"), (0, u "[Lcom/example/gasreckon/gasreckon/model/SchedulingInterval;"), (6, .class_ 31), (1, u "java/lang/Enum"), (8, u "firstHour"), (0, u "I"), (2, u "hours"), (0, .fieldref 1 46), (0, .nameAndType 47 22), (0, u "IN_ORDER"), (32, u "PER_GAS_DAY"), (8, u "checkSchedule"), (0, u "(I)I"), (48, u "GAS_DAY_START"), (0, u "Ljava/time/LocalTime;"), (24, u "HOURS_PER_GAS_DAY")] 53

def k6c0 : Code := { maxStack := 3, maxLocals := 1, code := prog_42_method_5_code, exceptionTable := #[], attributes := #[] }
def k6m0 : Method := { name := "checkSchedule", desc := "(I)I", sig := { parameters := [.int], returnType := some .int }, accessFlags := 9, code := some k6c0 }
/-- com/example/gasreckon/gasreckon/model/SchedulingInterval -/
def k6 : Class := { plain "com/example/gasreckon/gasreckon/model/SchedulingInterval" (some 5) with
  accessFlags := 16433
  interfaces := #[]
  cf := some (fileOf pool6 1 #[] #[{ accessFlags := 9, nameIndex := 89, descriptorIndex := 90, attributes := #[] }] 16433 29 #[] #[{ accessFlags := 16409, nameIndex := 5, descriptorIndex := 6, attributes := #[] }, { accessFlags := 16409, nameIndex := 9, descriptorIndex := 6, attributes := #[] }, { accessFlags := 16409, nameIndex := 12, descriptorIndex := 6, attributes := #[] }, { accessFlags := 16409, nameIndex := 15, descriptorIndex := 6, attributes := #[] }, { accessFlags := 16409, nameIndex := 18, descriptorIndex := 6, attributes := #[] }, { accessFlags := 25, nameIndex := 139, descriptorIndex := 140, attributes := #[] }, { accessFlags := 25, nameIndex := 165, descriptorIndex := 41, attributes := #[] }, { accessFlags := 25, nameIndex := 80, descriptorIndex := 41, attributes := #[] }, { accessFlags := 26, nameIndex := 47, descriptorIndex := 22, attributes := #[] }, { accessFlags := 18, nameIndex := 40, descriptorIndex := 41, attributes := #[] }, { accessFlags := 18, nameIndex := 44, descriptorIndex := 41, attributes := #[] }, { accessFlags := 4122, nameIndex := 21, descriptorIndex := 22, attributes := #[] }])
  fields := #[{ name := "INTERVAL_1", type := (.object "com/example/gasreckon/gasreckon/model/SchedulingInterval"), accessFlags := 16409, slot := 0, constantValue := 0 }, { name := "INTERVAL_2", type := (.object "com/example/gasreckon/gasreckon/model/SchedulingInterval"), accessFlags := 16409, slot := 1, constantValue := 0 }, { name := "INTERVAL_3", type := (.object "com/example/gasreckon/gasreckon/model/SchedulingInterval"), accessFlags := 16409, slot := 2, constantValue := 0 }, { name := "INTERVAL_4", type := (.object "com/example/gasreckon/gasreckon/model/SchedulingInterval"), accessFlags := 16409, slot := 3, constantValue := 0 }, { name := "INTERVAL_5", type := (.object "com/example/gasreckon/gasreckon/model/SchedulingInterval"), accessFlags := 16409, slot := 4, constantValue := 0 }, { name := "GAS_DAY_START", type := (.object "java/time/LocalTime"), accessFlags := 25, slot := 5, constantValue := 0 }, { name := "HOURS_PER_GAS_DAY", type := .int, accessFlags := 25, slot := 6, constantValue := 0 }, { name := "PER_GAS_DAY", type := .int, accessFlags := 25, slot := 7, constantValue := 0 }, { name := "IN_ORDER", type := (.array (.object "com/example/gasreckon/gasreckon/model/SchedulingInterval")), accessFlags := 26, slot := 8, constantValue := 0 }, { name := "firstHour", type := .int, accessFlags := 18, slot := 3, constantValue := 0 }, { name := "hours", type := .int, accessFlags := 18, slot := 4, constantValue := 0 }, { name := "$VALUES", type := (.array (.object "com/example/gasreckon/gasreckon/model/SchedulingInterval")), accessFlags := 4122, slot := 9, constantValue := 0 }]
  methods := #[k6m0]
  instanceTypes := #[(.object "java/lang/String"), .int, .int, .int, .int]
  staticTypes := #[(.object "com/example/gasreckon/gasreckon/model/SchedulingInterval"), (.object "com/example/gasreckon/gasreckon/model/SchedulingInterval"), (.object "com/example/gasreckon/gasreckon/model/SchedulingInterval"), (.object "com/example/gasreckon/gasreckon/model/SchedulingInterval"), (.object "com/example/gasreckon/gasreckon/model/SchedulingInterval"), (.object "java/time/LocalTime"), .int, .int, (.array (.object "com/example/gasreckon/gasreckon/model/SchedulingInterval")), (.array (.object "com/example/gasreckon/gasreckon/model/SchedulingInterval"))]
  resolved := Array.replicate 219 none
  statics := some 0 }

def pool7 : Array CpInfo := pool [(1, u "java/lang/Cloneable"), (0, .class_ 1), (0, u "java/lang/Object"), (0, .class_ 3)] 3

/-- java/lang/Cloneable -/
def k7 : Class := { plain "java/lang/Cloneable" (some 0) with
  accessFlags := 1537
  interfaces := #[]
  cf := some (fileOf pool7 2 #[] #[] 1537 4 #[] #[])
  fields := #[]
  methods := #[]
  instanceTypes := #[]
  staticTypes := #[]
  resolved := Array.replicate 8 none
  statics := none }

/-- the primitive byte -/
def k8 : Class := { plain "byte" none with kind := .primitive 'B', accessFlags := 0x411 }
/-- [B -/
def k9 : Class := { plain "[B" (some 0) with kind := .array 8 .byte, interfaces := #[7, 4], accessFlags := 1041 }

/-- the primitive int -/
def k10 : Class := { plain "int" none with kind := .primitive 'I', accessFlags := 0x411 }
/-- [I -/
def k11 : Class := { plain "[I" (some 0) with kind := .array 10 .int, interfaces := #[7, 4], accessFlags := 1041 }

/-- [Lcom/example/gasreckon/gasreckon/model/SchedulingInterval; -/
def k12 : Class := { plain "[Lcom/example/gasreckon/gasreckon/model/SchedulingInterval;" (some 0) with kind := .array 6 (.object "com/example/gasreckon/gasreckon/model/SchedulingInterval"), interfaces := #[7, 4], accessFlags := 1041 }

def heap : Heap := #[{ cls := 6, slots := #[.null, .null, .null, .null, .null, .null, .int 0, .int 0, .ref 1, .null], vm := .statics 6 },
  { cls := 12, slots := #[.null, .null, .null, .null, .null], vm := .none }]
def classes : Array Class := #[k0, k1, k2, k3, k4, k5, k6, k7, k8, k9, k10, k11, k12]
def interned : List (Array UInt16 × Addr) := []
def slotsUsed : Nat := 15
def theMethod : MethodId := ⟨1, 1⟩
def args0 : Array Value := #[.int 5]
def aboutOver (below : List Frame) : State where
  vm := { classes := classes, interned := interned.toArray }
  heap := heap
  slotsUsed := slotsUsed
  threads := #[{ frames := .invoking theMethod args0 :: below }]
def below0 : List Frame := [.native { method := ⟨0, 0⟩, args := #[] }]
def about1 : State := aboutOver below0
def p0 : Program := .bare "" "" ""
def e0 : Env := launch0.env 0 0 0
theorem w_frames : about1.frames = Frame.invoking theMethod args0 :: below0 := rfl
set_option maxRecDepth 65536 in
theorem w_args : argsFit about1.vm theMethod args0 = true := by decide +kernel
set_option maxRecDepth 65536 in
theorem w_heap : heapFits about1 = true := by decide +kernel
set_option maxRecDepth 65536 in
theorem w_runnable : about1.curStatus? = some .runnable := by decide +kernel
set_option maxRecDepth 65536 in
theorem w_alone : about1.alone = true := by decide +kernel
set_option maxRecDepth 65536 in
theorem w_named : about1.methodNamed? x = some theMethod := by decide +kernel
set_option maxRecDepth 65536 in
theorem w_hears : about1.hears theMethod below0 = true := by decide +kernel
set_option maxRecDepth 65536 in
theorem w_ripe : about1.ripe theMethod args0 below0 = true := by decide +kernel
theorem w_running : about1.status = .running := rfl
set_option maxRecDepth 65536 in
theorem w_room : about1.hasRoom e0.platform room_1 = true :=
  launch0.hasRoom_least _ room_1 (by decide +kernel) (by decide +kernel) (by decide +kernel) (by decide +kernel) (by decide +kernel) (by decide +kernel)
theorem allAtoms_all (ts : List Jvm.Cond) (a : Array Jvm.Value) (st : Jvm.State) : (allAtoms ts).before a st = ts.all (fun c => c.before a st) := by
  induction ts with
  | nil => rfl
  | cons c t ih =>
    show (Jvm.Cond.and c (allAtoms t)).before a st = _
    rw [Jvm.Cond.before_and, ih, List.all_cons]
def words1 : List Jvm.Cond := Jvm.Cond.code x code maxLocals ret :: tables_1
/-- a 'code' word, met by the world's own term for the bytes: nothing is compared byte by byte -/
theorem code_word {y : MethodName} {bytes : ByteArray} {mx : Nat} {rt : Option FieldType} {a : Array Value} {s : State} {m : MethodId} {meth : Method} {c : Code} (h1 : s.methodNamed? y = some m) (h2 : s.vm.method? m = some meth) (h3 : meth.code = some c) (h4 : c.code = bytes)
    (h5 : (c.maxLocals == mx && c.exceptionTable.isEmpty && decide (c.maxStack ≤ mostOperands) && decide (meth.sig.returnType = rt) && !meth.locks && decide (parseMethodDescriptor y.desc = some meth.sig)) = true) : (Jvm.Cond.code y bytes mx rt).before a s = true := by
  simp only [Bool.and_eq_true, beq_iff_eq, Bool.not_eq_true', decide_eq_true_eq] at h5
  obtain ⟨⟨⟨⟨⟨g1, g2⟩, g3⟩, g4⟩, g5⟩, g6⟩ := h5
  simp [Cond.before, Cond.holds, Cond.value, h1, h2, h3, h4, g1, g2, g3, g4, g5, g6]
def isCode : Jvm.Cond → Bool
  | .code _ _ _ _ => true
  | _ => false
theorem all_split {L : List Jvm.Cond} {P : Jvm.Cond → Bool} (h1 : L.all (fun c => isCode c || P c) = true) (h2 : ∀ c ∈ L.filter isCode, P c = true) : L.all P = true := by
  refine List.all_eq_true.mpr fun c hc => ?_
  have h := List.all_eq_true.mp h1 c hc
  rcases Bool.eq_false_or_eq_true (isCode c) with hi | hi
  · exact h2 c (List.mem_filter.mpr ⟨hc, hi⟩)
  · simpa [hi] using h
set_option maxRecDepth 65536 in
theorem w_c0 : (Jvm.Cond.code x code maxLocals ret).before args0 about1 = true := code_word (m := ⟨1, 1⟩) (meth := k1m1) (c := k1c1) (by decide +kernel) rfl rfl rfl (by decide +kernel)
set_option maxRecDepth 65536 in
theorem w_c1 : (Jvm.Cond.code ({ cls := "com/example/gasreckon/gasreckon/model/SchedulingInterval", name := "checkSchedule", desc := "(I)I" } : Jvm.MethodName) prog_42_method_5_code (1 : Nat) (Option.some Jvm.ClassFile.FieldType.int)).before args0 about1 = true := code_word (m := ⟨6, 0⟩) (meth := k6m0) (c := k6c0) (by decide +kernel) rfl rfl rfl (by decide +kernel)
def codes1 : List Jvm.Cond := [Jvm.Cond.code x code maxLocals ret, Jvm.Cond.code ({ cls := "com/example/gasreckon/gasreckon/model/SchedulingInterval", name := "checkSchedule", desc := "(I)I" } : Jvm.MethodName) prog_42_method_5_code (1 : Nat) (Option.some Jvm.ClassFile.FieldType.int)]
set_option maxRecDepth 65536 in
theorem codes_eq : words1.filter isCode = codes1 := rfl
theorem w_codes : ∀ c ∈ words1.filter isCode, c.before args0 about1 = true := by
  rw [codes_eq]
  intro c hc
  simp only [codes1, List.mem_cons, List.not_mem_nil, or_false] at hc
  rcases hc with rfl | rfl
  · exact w_c0
  · exact w_c1
set_option maxRecDepth 65536 in
theorem w_t1 : words1.all (fun c => isCode c || c.before args0 about1) = true := by decide +kernel
theorem w_tables : (allAtoms (Jvm.Cond.code x code maxLocals ret :: tables_1)).before args0 about1 = true := by
  rw [allAtoms_all]
  show words1.all (fun c => c.before args0 about1) = true
  refine all_split ?_ w_codes
  rw [w_t1]
set_option maxRecDepth 65536 in
theorem w_case : (Jvm.Cond.and given_1 narrow_1).before args0 about1 = true := by decide +kernel
theorem w_applies : (headSpec (Jvm.Cond.code x code maxLocals ret :: tables_1) room_1).applies x e0.platform about1 = true :=
  (Spec.applies_iff w_frames).mpr ⟨w_running, w_runnable, w_alone, w_named, w_hears, w_ripe, w_room, w_tables⟩
theorem atStart : AtStart classFile x code maxLocals ret World_1 tables_1 room_1 Calls_1 rest_1 Pre_1 launch0 p0 e0 about1 theMethod args0 below0 :=
  ⟨lists_1, trivial, launch0.admits_env _ _ _, launch0.least_env, fairChoices_fair.cas, fairChoices_fair.clock, w_frames, w_args, w_heap, w_applies, trivial, trivial, w_case⟩
end start1
theorem witness_1 : WitnessClaimed_1 := ⟨start1.p0, start1.e0, start1.about1, start1.theMethod, start1.args0, start1.below0, start1.atStart⟩
end Jvm.Pilot.@@N@@
