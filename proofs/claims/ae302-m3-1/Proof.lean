import JvmDerived
import JvmDerived.Pilot.@@N@@Statement
import JvmDerived.Pilot.@@N@@Code
set_option linter.unusedVariables false
set_option linter.unusedSimpArgs false
@@BLOCK:NumsL.lean.txt@@
namespace Jvm.Pilot.@@N@@
open Jvm Jvm.ClassFile Sem Op Lib Jvm.Free Jvm.Stand Jvm.LawKit Jvm.RoadKit Bundle Jvm.Pilot.@@N@@.Jvm.D
/-! 1. small laws of this text: from the case's words to facts; the remainder's cases -/
theorem own_fld {Z : State} {args : Array Value} {a : Addr} {t : Term} {C n d : String} {k : Int32} (ev : t.eval args Z none [] Z = some (.ref a)) (h : (Jvm.Cond.eq (Term.field t C n d) (Term.int k)).value args Z none Z [] = some true) : Fld Z Z.heap a C n d (.int k) := by
  obtain ⟨x, y, h1, h2, hk, hk'⟩ := cmp_v (Or.inl h)
  have hy : y = .int k := Option.some.inj (h2.symm.trans (Term.int_eval k))
  subst hy
  obtain ⟨z, rfl⟩ := hk'
  have q : z = k := by simpa [Cond.value, h1, h2] using h
  subst q
  exact Fld.start ((fld_at ev).symm.trans h1)
theorem own_rem {x n : Int32} (h0 : 0 ≤ x.toInt) (hn : 0 < n.toInt) : 0 ≤ (x % n).toInt ∧ (x % n).toInt < n.toInt := by
  rw [Int32.toInt_mod]
  refine ⟨Int.tmod_nonneg _ h0, ?_⟩
  exact Int.tmod_lt_of_pos _ hn
theorem own_mask (x : Int32) : 0 ≤ (x &&& (2147483647 : Int32)).toInt := by
  rw [Jvm.Kit.i32_mask x 2147483647 (k := 31) (by decide) (by decide)]
  omega
def QR (r : Option Value) (h0 : Heap) (n0 : Nat) (v : Option Value) (h : Heap) (L : List Loc) : Prop := v = r ∧ Fr n0 L ∧ h = h0
def QL (r : Option Value) (h0 : Heap) (n0 : Nat) (v : Option Value) (h : Heap) (L : List Loc) : Prop := v = r ∧ Fr n0 L
theorem own_sta_keep {Z : State} {h h' : Heap} {C n d : String} {v : Value} (F : Sta Z h C n d v) (K : Keep h h' []) : Sta Z h' C n d v := by
  obtain ⟨cf, i, k, f, st, cell, h1, h2, h3, h4, h5, r⟩ := F
  exact ⟨cf, i, k, f, st, cell, h1, h2, h3, h4, K.2.1 _ _ h5 nin0, r⟩
def Glob (Z : State) (h : Heap) (w_AT_MOST : Addr) (w_AT_LEAST : Addr) (w_BELOW : Addr) (w_ABOVE : Addr) : Prop := Sta Z h "com/example/covenantry/covenantry/Direction" "AT_MOST" "Lcom/example/covenantry/covenantry/Direction;" (.ref w_AT_MOST) ∧ Exa Z h w_AT_MOST "com/example/covenantry/covenantry/Direction" ∧ Sta Z h "com/example/covenantry/covenantry/Direction" "AT_LEAST" "Lcom/example/covenantry/covenantry/Direction;" (.ref w_AT_LEAST) ∧ Exa Z h w_AT_LEAST "com/example/covenantry/covenantry/Direction" ∧ Sta Z h "com/example/covenantry/covenantry/Direction" "BELOW" "Lcom/example/covenantry/covenantry/Direction;" (.ref w_BELOW) ∧ Exa Z h w_BELOW "com/example/covenantry/covenantry/Direction" ∧ Sta Z h "com/example/covenantry/covenantry/Direction" "ABOVE" "Lcom/example/covenantry/covenantry/Direction;" (.ref w_ABOVE) ∧ Exa Z h w_ABOVE "com/example/covenantry/covenantry/Direction" ∧ Fld Z h w_AT_MOST "java/lang/Enum" "ordinal" "I" (.int (0 : Int32)) ∧ Fld Z h w_ABOVE "java/lang/Enum" "ordinal" "I" (.int (3 : Int32)) ∧ Fld Z h w_AT_LEAST "java/lang/Enum" "ordinal" "I" (.int (1 : Int32)) ∧ Fld Z h w_BELOW "java/lang/Enum" "ordinal" "I" (.int (2 : Int32))
theorem Glob.keep {Z : State} {h h' : Heap} {w_AT_MOST : Addr} {w_AT_LEAST : Addr} {w_BELOW : Addr} {w_ABOVE : Addr} (G : Glob Z h w_AT_MOST w_AT_LEAST w_BELOW w_ABOVE) (K : Keep h h' []) : Glob Z h' w_AT_MOST w_AT_LEAST w_BELOW w_ABOVE := by
  obtain ⟨S_w_AT_MOST, E_w_AT_MOST, S_w_AT_LEAST, E_w_AT_LEAST, S_w_BELOW, E_w_BELOW, S_w_ABOVE, E_w_ABOVE, F_ordinal_w_AT_MOST, F_ordinal_w_ABOVE, F_ordinal_w_AT_LEAST, F_ordinal_w_BELOW⟩ := G
  exact ⟨own_sta_keep S_w_AT_MOST K, E_w_AT_MOST.keep K, own_sta_keep S_w_AT_LEAST K, E_w_AT_LEAST.keep K, own_sta_keep S_w_BELOW K, E_w_BELOW.keep K, own_sta_keep S_w_ABOVE K, E_w_ABOVE.keep K, F_ordinal_w_AT_MOST.keep K nin0, F_ordinal_w_ABOVE.keep K nin0, F_ordinal_w_AT_LEAST.keep K nin0, F_ordinal_w_BELOW.keep K nin0⟩
theorem own_cases_and4 (p : Int32) : (p &&& (3 : Int32)) = (0 : Int32) ∨ (p &&& (3 : Int32)) = (1 : Int32) ∨ (p &&& (3 : Int32)) = (2 : Int32) ∨ (p &&& (3 : Int32)) = (3 : Int32) := by
  have h := Jvm.Kit.i32_mask p (3 : Int32) (k := 2) (by decide) (by decide)
  generalize p &&& (3 : Int32) = z at h ⊢
  simp only [← Int32.toInt_inj]
  have h0 : ((0 : Int32)).toInt = 0 := by decide
  have h1 : ((1 : Int32)).toInt = 1 := by decide
  have h2 : ((2 : Int32)).toInt = 2 := by decide
  have h3 : ((3 : Int32)).toInt = 3 := by decide
  omega
theorem d1_0 : decode prog_5_method_9_code 0 = .ok (.aload_n 0, 1) := by decide +kernel
theorem d1_1 : decode prog_5_method_9_code 1 = .ok (.invokevirtual 76, 3) := by decide +kernel
theorem d2_0 : decode jdk_37_method_2_code 0 = .ok (.aload_n 0, 1) := by decide +kernel
theorem d2_1 : decode jdk_37_method_2_code 1 = .ok (.getfield 7, 3) := by decide +kernel
theorem d2_4 : decode jdk_37_method_2_code 4 = .ok (.ireturn, 1) := by decide +kernel
theorem ef_2_R (m : MethodId) (x0 : Addr) : entryFrame m #[(.ref x0)] 1 = mkF m 0 #[.val (.ref x0)] [] := by first | (simp [entryFrame, mkF, argsToLocals, Value.category]; done) | rfl
theorem pn_java_lang_Enum : plainName "java/lang/Enum" = true := by first | (simp [plainName, overriddenIn]; done) | decide +kernel
set_option maxRecDepth 65536 in
set_option maxHeartbeats 40000000 in
theorem c2_0 (l : Launch) (Z : State) (a0 : Array Value) (hw : ∀ d ∈ tables_1, d.before a0 Z = true) (ws : List Jvm.Cond) (w_AT_MOST : Addr) (w_AT_LEAST : Addr) (w_BELOW : Addr) (w_ABOVE : Addr) (h0 : Heap) (n0 : Nat) (Z0 : n0 ≤ h0.size) (G : Glob Z h0 w_AT_MOST w_AT_LEAST w_BELOW w_ABOVE)  :
    MetFree l (⟨"java/lang/Enum", "ordinal", "()I"⟩ : MethodName) (head1 (Jvm.Cond.code (⟨"java/lang/Enum", "ordinal", "()I"⟩ : MethodName) jdk_37_method_2_code 1 (some .int) :: ws) ({ frames := 0, cells := 0, slots := 0, locals := 0 } : Room)) (fun a U => a = #[(.ref w_AT_MOST)] ∧ Z.Warmed39 U.vm ∧ U.heap = h0) (fun _ _ _ _ _ => True) (fun _ U o U' => ∃ v L, o = .returned v ∧ QR (some (.int (0 : Int32))) h0 n0 v U'.heap L ∧ FrameEnd U o U' L ({ frames := 0, cells := 0, slots := 0, locals := 0 } : Room).cells ({ frames := 0, cells := 0, slots := 0, locals := 0 } : Room).slots) := by
  refine MetFree.of_bodySF (plainFor_of_name pn_java_lang_Enum) hisR ?_
  intro p e s m args below meth c s₁ Bd hml0 hP hK
  obtain ⟨rfl, hZ, hh⟩ := hP
  have hx := Bd.exec
  have hby := Bd.bytes
  have hml : c.maxLocals = 1 := hml0
  have hown : s.vm.findClass "java/lang/Enum" = some m.cls := findClass_of_methodNamed Bd.named
  have X0 : Stand p l e ({ frames := 0, cells := 0, slots := 0, locals := 0 } : Room) s m #[(.ref w_AT_MOST)] below meth c s₁ [] 0 0 := Stand.of_body Bd
  have e0 : s₁.heap = h0 := by rw [← hh, Bd.state]; rfl
  have N0 := Fr.nil n0
  have pre0 : ∀ t, Steps p.tables e below (s₁.setTop (mkF m 0 #[.val (.ref w_AT_MOST)] [])) t → Steps p.tables e below (s₁.setTop (entryFrame m #[(.ref w_AT_MOST)] 1)) t := fun t k => castTop (ef_2_R m w_AT_MOST) k
  have G' := G
  obtain ⟨S_w_AT_MOST, E_w_AT_MOST, S_w_AT_LEAST, E_w_AT_LEAST, S_w_BELOW, E_w_BELOW, S_w_ABOVE, E_w_ABOVE, F_ordinal_w_AT_MOST, F_ordinal_w_ABOVE, F_ordinal_w_AT_LEAST, F_ordinal_w_BELOW⟩ := G'
  obtain ⟨T1, X1, e1, st1⟩ := getF X0 hx hZ hown (host := "") (Or.inl (hw _ (List.mem_of_getElem? (i := 24) rfl))) Via.refl e0 F_ordinal_w_AT_MOST (g := (mkF m 1 #[.val (.ref w_AT_MOST)] [(.ref w_AT_MOST)])) rfl rfl (hb hby d2_1)
  obtain ⟨fs, hr, hrun, hended, hW, hsame⟩ := X1.leave (v := some (.int (0 : Int32))) (fun h => by rw [Bd.returns] at h; cases h)
  refine ⟨_, _, pre0 _ ?_, hrun, hended, _, _, rfl, ?_, ⟨_, rfl⟩, hW, hsame.mono (by decide) (by decide)⟩
  · show Steps p.tables e below (s₁.setTop (mkF m 0 #[.val (.ref w_AT_MOST)] [])) _
    refine XS.aloadN X0.here hx rfl (hb hby d2_0) rfl rfl ?_
    show Steps p.tables e below (s₁.setTop (mkF m 1 #[.val (.ref w_AT_MOST)] [(.ref w_AT_MOST)])) _
    refine st1 _ ?_
    show Steps p.tables e below (T1.setTop (mkF m 4 #[.val (.ref w_AT_MOST)] [(.int (0 : Int32))])) _
    exact retOut X1 hx Bd.returns rfl (Or.inl ⟨rfl, Or.inl rfl, _, rfl⟩) (hb hby d2_4) hr
  · show QR _ h0 n0 _ T1.heap _
    rw [e1]
    exact ⟨rfl, N0, rfl⟩
theorem pd___I : parseMethodDescriptor "()I" = some ⟨[], some .int⟩ := by decide +kernel
theorem d1_4 : decode prog_5_method_9_code 4 = .ok (.tableswitch 32 0 3 #[42, 48, 54, 60], 32) := by decide +kernel
theorem d1_46 : decode prog_5_method_9_code 46 = .ok (.getstatic 13, 3) := by decide +kernel
theorem d1_49 : decode prog_5_method_9_code 49 = .ok (.goto 18, 3) := by decide +kernel
theorem d1_67 : decode prog_5_method_9_code 67 = .ok (.areturn, 1) := by decide +kernel
theorem ef_1_R (m : MethodId) (x0 : Addr) : entryFrame m #[(.ref x0)] 1 = mkF m 0 #[.val (.ref x0)] [] := by first | (simp [entryFrame, mkF, argsToLocals, Value.category]; done) | rfl
theorem pn_com_example_covenantry_covenantry_Direction : plainName "com/example/covenantry/covenantry/Direction" = true := by first | (simp [plainName, overriddenIn]; done) | decide +kernel
set_option maxRecDepth 65536 in
set_option maxHeartbeats 40000000 in
theorem c1_0 (l : Launch) (Z : State) (a0 : Array Value) (hw : ∀ d ∈ tables_1, d.before a0 Z = true) (ws : List Jvm.Cond) (w_AT_MOST : Addr) (w_AT_LEAST : Addr) (w_BELOW : Addr) (w_ABOVE : Addr) (h0 : Heap) (n0 : Nat) (Z0 : n0 ≤ h0.size) (G : Glob Z h0 w_AT_MOST w_AT_LEAST w_BELOW w_ABOVE)  :
    MetFree l (⟨"com/example/covenantry/covenantry/Direction", "opposite", "()Lcom/example/covenantry/covenantry/Direction;"⟩ : MethodName) (head1 (Jvm.Cond.code (⟨"com/example/covenantry/covenantry/Direction", "opposite", "()Lcom/example/covenantry/covenantry/Direction;"⟩ : MethodName) prog_5_method_9_code 1 (some (.object "com/example/covenantry/covenantry/Direction")) :: ws) ({ frames := 1, cells := 0, slots := 0, locals := 12 } : Room)) (fun a U => a = #[(.ref w_AT_MOST)] ∧ Z.Warmed39 U.vm ∧ U.heap = h0) (fun _ _ _ _ _ => True) (fun _ U o U' => ∃ v L, o = .returned v ∧ QR (some (.ref w_ABOVE)) h0 n0 v U'.heap L ∧ FrameEnd U o U' L ({ frames := 1, cells := 0, slots := 0, locals := 12 } : Room).cells ({ frames := 1, cells := 0, slots := 0, locals := 12 } : Room).slots) := by
  refine MetFree.of_bodySF (plainFor_of_name pn_com_example_covenantry_covenantry_Direction) hisR ?_
  intro p e s m args below meth c s₁ Bd hml0 hP hK
  obtain ⟨rfl, hZ, hh⟩ := hP
  have hx := Bd.exec
  have hby := Bd.bytes
  have hml : c.maxLocals = 1 := hml0
  have hown : s.vm.findClass "com/example/covenantry/covenantry/Direction" = some m.cls := findClass_of_methodNamed Bd.named
  have X0 : Stand p l e ({ frames := 1, cells := 0, slots := 0, locals := 12 } : Room) s m #[(.ref w_AT_MOST)] below meth c s₁ [] 0 0 := Stand.of_body Bd
  have e0 : s₁.heap = h0 := by rw [← hh, Bd.state]; rfl
  have N0 := Fr.nil n0
  have pre0 : ∀ t, Steps p.tables e below (s₁.setTop (mkF m 0 #[.val (.ref w_AT_MOST)] [])) t → Steps p.tables e below (s₁.setTop (entryFrame m #[(.ref w_AT_MOST)] 1)) t := fun t k => castTop (ef_1_R m w_AT_MOST) k
  have G' := G
  obtain ⟨S_w_AT_MOST, E_w_AT_MOST, S_w_AT_LEAST, E_w_AT_LEAST, S_w_BELOW, E_w_BELOW, S_w_ABOVE, E_w_ABOVE, F_ordinal_w_AT_MOST, F_ordinal_w_ABOVE, F_ordinal_w_AT_LEAST, F_ordinal_w_BELOW⟩ := G'
  obtain ⟨cq1, kq1, q1a, q1b, q1c⟩ := isOf hZ e0 E_w_AT_MOST
  obtain ⟨_, _, ⟨T1, L1, k1, n1⟩, -, X1, ⟨Lc1, hQ1, l1, y1, z1⟩, st1⟩ := X0.virtualBackUp hx (x := (⟨"com/example/covenantry/covenantry/Direction", "ordinal", "()I"⟩ : MethodName)) (y := (⟨"java/lang/Enum", "ordinal", "()I"⟩ : MethodName)) hown (mvT hZ (hw _ (List.mem_of_getElem? (i := 17) rfl))) (mvT hZ (hw _ (List.mem_of_getElem? (i := 18) rfl))) (mvT hZ (hw _ (List.mem_of_getElem? (i := 19) rfl))) (by decide) (mvT hZ (hw _ (List.mem_of_getElem? (i := 21) rfl))) (mvT hZ (hw _ (List.mem_of_getElem? (i := 20) rfl))) (backOf (W := 0) (c2_0 l Z a0 hw [] w_AT_MOST w_AT_LEAST w_BELOW w_ABOVE h0 n0 Z0 G) hZ (hw _ (List.mem_of_getElem? (i := 23) rfl)) (hw _ (List.mem_of_getElem? (i := 22) rfl)) (by decide) (by decide)) q1a q1c (g := (mkF m 1 #[.val (.ref w_AT_MOST)] [(.ref w_AT_MOST)])) rfl (by rw [hml]; rfl) (Steps.refl _) (argsL := []) (rest := []) (lenOf pd___I rfl) rfl (by show 2 * 0 + _ ≤ _; exact Nat.le_of_eq rfl) (hb hby d1_1) (fun _ _ => ⟨rfl, e0, (by decide : 0 + 0 ≤ _), (by decide : 0 + 0 ≤ _)⟩)
  dsimp only [Pt.U, Pt.locs, Pt.cells, Pt.slots] at X1 l1 y1 z1 st1 hQ1
  subst l1 y1 z1
  obtain ⟨rfl, N1q, e1⟩ := hQ1
  have N1 := Fr.app N0 N1q
  obtain ⟨T2, X2, e2, st2⟩ := getS2 X1 hx hZ hown (host := "") (Or.inl (hw _ (List.mem_of_getElem? (i := 26) rfl))) Via.refl e1 S_w_ABOVE (g := (mkF m 46 #[.val (.ref w_AT_MOST)] [])) rfl (hb hby d1_46)
  obtain ⟨fs, hr, hrun, hended, hW, hsame⟩ := X2.leave (v := some (.ref w_ABOVE)) (fun h => by rw [Bd.returns] at h; cases h)
  refine ⟨_, _, pre0 _ ?_, hrun, hended, _, _, rfl, ?_, ⟨_, rfl⟩, hW, hsame.mono (by decide) (by decide)⟩
  · show Steps p.tables e below (s₁.setTop (mkF m 0 #[.val (.ref w_AT_MOST)] [])) _
    refine XS.aloadN X0.here hx rfl (hb hby d1_0) rfl rfl ?_
    show Steps p.tables e below (s₁.setTop (mkF m 1 #[.val (.ref w_AT_MOST)] [(.ref w_AT_MOST)])) _
    refine st1.trans ?_
    show Steps p.tables e below (T1.setTop (mkF m 4 #[.val (.ref w_AT_MOST)] [(.int (0 : Int32))])) _
    refine XS.tswIn X1.here hx rfl (pc0 := 4) (pc' := 46) rfl (hb hby d1_4) rfl (by decide) (o := 42) (by decide) (by decide) (by decide) ?_
    show Steps p.tables e below (T1.setTop (mkF m 46 #[.val (.ref w_AT_MOST)] [])) _
    refine st2 _ ?_
    show Steps p.tables e below (T2.setTop (mkF m 49 #[.val (.ref w_AT_MOST)] [(.ref w_ABOVE)])) _
    refine XS.goto X2.here hx rfl (pc0 := 49) (pc' := 67) rfl (hb hby d1_49) (by decide) (by decide) ?_
    show Steps p.tables e below (T2.setTop (mkF m 67 #[.val (.ref w_AT_MOST)] [(.ref w_ABOVE)])) _
    exact retOut X2 hx Bd.returns rfl (Or.inr (Or.inr (Or.inr (Or.inr ⟨rfl, rfl, rfl⟩)))) (hb hby d1_67) hr
  · show QR _ h0 n0 _ T2.heap _
    rw [e2]
    exact ⟨rfl, N1, rfl⟩
theorem pd___Lcom_example_covenantry_covenantry_Direction_ : parseMethodDescriptor "()Lcom/example/covenantry/covenantry/Direction;" = some ⟨[], some (.object "com/example/covenantry/covenantry/Direction")⟩ := by decide +kernel
theorem d3_0 : decode prog_5_method_6_code 0 = .ok (.aload_n 0, 1) := by decide +kernel
theorem d3_1 : decode prog_5_method_6_code 1 = .ok (.getstatic 7, 3) := by decide +kernel
theorem d3_4 : decode prog_5_method_6_code 4 = .ok (.if_acmp .eq 10, 3) := by decide +kernel
theorem d3_7 : decode prog_5_method_6_code 7 = .ok (.aload_n 0, 1) := by decide +kernel
theorem d3_8 : decode prog_5_method_6_code 8 = .ok (.getstatic 13, 3) := by decide +kernel
theorem d3_11 : decode prog_5_method_6_code 11 = .ok (.if_acmp .ne 7, 3) := by decide +kernel
theorem d3_14 : decode prog_5_method_6_code 14 = .ok (.iconst 1, 1) := by decide +kernel
theorem d3_15 : decode prog_5_method_6_code 15 = .ok (.goto 4, 3) := by decide +kernel
theorem d3_19 : decode prog_5_method_6_code 19 = .ok (.ireturn, 1) := by decide +kernel
theorem ef_3_R (m : MethodId) (x0 : Addr) : entryFrame m #[(.ref x0)] 1 = mkF m 0 #[.val (.ref x0)] [] := by first | (simp [entryFrame, mkF, argsToLocals, Value.category]; done) | rfl
set_option maxRecDepth 65536 in
set_option maxHeartbeats 40000000 in
theorem c3_0 (l : Launch) (Z : State) (a0 : Array Value) (hw : ∀ d ∈ tables_1, d.before a0 Z = true) (ws : List Jvm.Cond) (w_AT_MOST : Addr) (w_AT_LEAST : Addr) (w_BELOW : Addr) (w_ABOVE : Addr) (h0 : Heap) (n0 : Nat) (Z0 : n0 ≤ h0.size) (G : Glob Z h0 w_AT_MOST w_AT_LEAST w_BELOW w_ABOVE)  :
    MetFree l (⟨"com/example/covenantry/covenantry/Direction", "floor", "()Z"⟩ : MethodName) (head1 (Jvm.Cond.code (⟨"com/example/covenantry/covenantry/Direction", "floor", "()Z"⟩ : MethodName) prog_5_method_6_code 1 (some .boolean) :: ws) ({ frames := 0, cells := 0, slots := 0, locals := 0 } : Room)) (fun a U => a = #[(.ref w_ABOVE)] ∧ Z.Warmed39 U.vm ∧ U.heap = h0) (fun _ _ _ _ _ => True) (fun _ U o U' => ∃ v L, o = .returned v ∧ QR (some (.int (1 : Int32))) h0 n0 v U'.heap L ∧ FrameEnd U o U' L ({ frames := 0, cells := 0, slots := 0, locals := 0 } : Room).cells ({ frames := 0, cells := 0, slots := 0, locals := 0 } : Room).slots) := by
  refine MetFree.of_bodySF (plainFor_of_name pn_com_example_covenantry_covenantry_Direction) hisR ?_
  intro p e s m args below meth c s₁ Bd hml0 hP hK
  obtain ⟨rfl, hZ, hh⟩ := hP
  have hx := Bd.exec
  have hby := Bd.bytes
  have hml : c.maxLocals = 1 := hml0
  have hown : s.vm.findClass "com/example/covenantry/covenantry/Direction" = some m.cls := findClass_of_methodNamed Bd.named
  have X0 : Stand p l e ({ frames := 0, cells := 0, slots := 0, locals := 0 } : Room) s m #[(.ref w_ABOVE)] below meth c s₁ [] 0 0 := Stand.of_body Bd
  have e0 : s₁.heap = h0 := by rw [← hh, Bd.state]; rfl
  have N0 := Fr.nil n0
  have pre0 : ∀ t, Steps p.tables e below (s₁.setTop (mkF m 0 #[.val (.ref w_ABOVE)] [])) t → Steps p.tables e below (s₁.setTop (entryFrame m #[(.ref w_ABOVE)] 1)) t := fun t k => castTop (ef_3_R m w_ABOVE) k
  have G' := G
  obtain ⟨S_w_AT_MOST, E_w_AT_MOST, S_w_AT_LEAST, E_w_AT_LEAST, S_w_BELOW, E_w_BELOW, S_w_ABOVE, E_w_ABOVE, F_ordinal_w_AT_MOST, F_ordinal_w_ABOVE, F_ordinal_w_AT_LEAST, F_ordinal_w_BELOW⟩ := G'
  obtain ⟨T1, X1, e1, st1⟩ := getS2 X0 hx hZ hown (host := "") (Or.inl (hw _ (List.mem_of_getElem? (i := 32) rfl))) Via.refl e0 S_w_AT_LEAST (g := (mkF m 1 #[.val (.ref w_ABOVE)] [(.ref w_ABOVE)])) rfl (hb hby d3_1)
  obtain ⟨T2, X2, e2, st2⟩ := getS2 X1 hx hZ hown (host := "") (Or.inl (hw _ (List.mem_of_getElem? (i := 26) rfl))) Via.refl e1 S_w_ABOVE (g := (mkF m 8 #[.val (.ref w_ABOVE)] [(.ref w_ABOVE)])) rfl (hb hby d3_8)
  obtain ⟨fs, hr, hrun, hended, hW, hsame⟩ := X2.leave (v := some (.int (1 : Int32))) (fun h => by rw [Bd.returns] at h; cases h)
  refine ⟨_, _, pre0 _ ?_, hrun, hended, _, _, rfl, ?_, ⟨_, rfl⟩, hW, hsame.mono (by decide) (by decide)⟩
  · show Steps p.tables e below (s₁.setTop (mkF m 0 #[.val (.ref w_ABOVE)] [])) _
    refine XS.aloadN X0.here hx rfl (hb hby d3_0) rfl rfl ?_
    show Steps p.tables e below (s₁.setTop (mkF m 1 #[.val (.ref w_ABOVE)] [(.ref w_ABOVE)])) _
    refine st1 _ ?_
    show Steps p.tables e below (T1.setTop (mkF m 4 #[.val (.ref w_ABOVE)] [(.ref w_AT_LEAST), (.ref w_ABOVE)])) _
    refine Jvm.RoadKit.acmp (g := (mkF m 4 #[.val (.ref w_ABOVE)] [(.ref w_AT_LEAST), (.ref w_ABOVE)])) X1 hx rfl rfl rfl (pc0 := 4) (pc' := 7) (same := false) rfl (hb hby d3_4) rfl (decide_eq_false fun q => (Fld.ne F_ordinal_w_ABOVE F_ordinal_w_AT_LEAST (by decide)) (Value.ref.inj q)) (by decide) (by decide) ?_
    show Steps p.tables e below (T1.setTop (mkF m 7 #[.val (.ref w_ABOVE)] [])) _
    refine XS.aloadN X1.here hx rfl (hb hby d3_7) rfl rfl ?_
    show Steps p.tables e below (T1.setTop (mkF m 8 #[.val (.ref w_ABOVE)] [(.ref w_ABOVE)])) _
    refine st2 _ ?_
    show Steps p.tables e below (T2.setTop (mkF m 11 #[.val (.ref w_ABOVE)] [(.ref w_ABOVE), (.ref w_ABOVE)])) _
    refine Jvm.RoadKit.acmp (g := (mkF m 11 #[.val (.ref w_ABOVE)] [(.ref w_ABOVE), (.ref w_ABOVE)])) X2 hx rfl rfl rfl (pc0 := 11) (pc' := 14) (same := true) rfl (hb hby d3_11) rfl (decide_eq_true rfl) (by decide) (by decide) ?_
    show Steps p.tables e below (T2.setTop (mkF m 14 #[.val (.ref w_ABOVE)] [])) _
    refine XS.iconst X2.here hx rfl (hb hby d3_14) ?_
    show Steps p.tables e below (T2.setTop (mkF m 15 #[.val (.ref w_ABOVE)] [(.int (1 : Int32))])) _
    refine XS.goto X2.here hx rfl (pc0 := 15) (pc' := 19) rfl (hb hby d3_15) (by decide) (by decide) ?_
    show Steps p.tables e below (T2.setTop (mkF m 19 #[.val (.ref w_ABOVE)] [(.int (1 : Int32))])) _
    exact retOut X2 hx Bd.returns rfl (Or.inl ⟨rfl, Or.inr (Or.inl rfl), _, rfl⟩) (hb hby d3_19) hr
  · show QR _ h0 n0 _ T2.heap _
    rw [e2]
    exact ⟨rfl, N0, rfl⟩
theorem pd___Z : parseMethodDescriptor "()Z" = some ⟨[], some .boolean⟩ := by decide +kernel
theorem d3_18 : decode prog_5_method_6_code 18 = .ok (.iconst 0, 1) := by decide +kernel
set_option maxRecDepth 65536 in
set_option maxHeartbeats 40000000 in
theorem c3_1 (l : Launch) (Z : State) (a0 : Array Value) (hw : ∀ d ∈ tables_1, d.before a0 Z = true) (ws : List Jvm.Cond) (w_AT_MOST : Addr) (w_AT_LEAST : Addr) (w_BELOW : Addr) (w_ABOVE : Addr) (h0 : Heap) (n0 : Nat) (Z0 : n0 ≤ h0.size) (G : Glob Z h0 w_AT_MOST w_AT_LEAST w_BELOW w_ABOVE)  :
    MetFree l (⟨"com/example/covenantry/covenantry/Direction", "floor", "()Z"⟩ : MethodName) (head1 (Jvm.Cond.code (⟨"com/example/covenantry/covenantry/Direction", "floor", "()Z"⟩ : MethodName) prog_5_method_6_code 1 (some .boolean) :: ws) ({ frames := 0, cells := 0, slots := 0, locals := 0 } : Room)) (fun a U => a = #[(.ref w_AT_MOST)] ∧ Z.Warmed39 U.vm ∧ U.heap = h0) (fun _ _ _ _ _ => True) (fun _ U o U' => ∃ v L, o = .returned v ∧ QR (some (.int (0 : Int32))) h0 n0 v U'.heap L ∧ FrameEnd U o U' L ({ frames := 0, cells := 0, slots := 0, locals := 0 } : Room).cells ({ frames := 0, cells := 0, slots := 0, locals := 0 } : Room).slots) := by
  refine MetFree.of_bodySF (plainFor_of_name pn_com_example_covenantry_covenantry_Direction) hisR ?_
  intro p e s m args below meth c s₁ Bd hml0 hP hK
  obtain ⟨rfl, hZ, hh⟩ := hP
  have hx := Bd.exec
  have hby := Bd.bytes
  have hml : c.maxLocals = 1 := hml0
  have hown : s.vm.findClass "com/example/covenantry/covenantry/Direction" = some m.cls := findClass_of_methodNamed Bd.named
  have X0 : Stand p l e ({ frames := 0, cells := 0, slots := 0, locals := 0 } : Room) s m #[(.ref w_AT_MOST)] below meth c s₁ [] 0 0 := Stand.of_body Bd
  have e0 : s₁.heap = h0 := by rw [← hh, Bd.state]; rfl
  have N0 := Fr.nil n0
  have pre0 : ∀ t, Steps p.tables e below (s₁.setTop (mkF m 0 #[.val (.ref w_AT_MOST)] [])) t → Steps p.tables e below (s₁.setTop (entryFrame m #[(.ref w_AT_MOST)] 1)) t := fun t k => castTop (ef_3_R m w_AT_MOST) k
  have G' := G
  obtain ⟨S_w_AT_MOST, E_w_AT_MOST, S_w_AT_LEAST, E_w_AT_LEAST, S_w_BELOW, E_w_BELOW, S_w_ABOVE, E_w_ABOVE, F_ordinal_w_AT_MOST, F_ordinal_w_ABOVE, F_ordinal_w_AT_LEAST, F_ordinal_w_BELOW⟩ := G'
  obtain ⟨T1, X1, e1, st1⟩ := getS2 X0 hx hZ hown (host := "") (Or.inl (hw _ (List.mem_of_getElem? (i := 32) rfl))) Via.refl e0 S_w_AT_LEAST (g := (mkF m 1 #[.val (.ref w_AT_MOST)] [(.ref w_AT_MOST)])) rfl (hb hby d3_1)
  obtain ⟨T2, X2, e2, st2⟩ := getS2 X1 hx hZ hown (host := "") (Or.inl (hw _ (List.mem_of_getElem? (i := 26) rfl))) Via.refl e1 S_w_ABOVE (g := (mkF m 8 #[.val (.ref w_AT_MOST)] [(.ref w_AT_MOST)])) rfl (hb hby d3_8)
  obtain ⟨fs, hr, hrun, hended, hW, hsame⟩ := X2.leave (v := some (.int (0 : Int32))) (fun h => by rw [Bd.returns] at h; cases h)
  refine ⟨_, _, pre0 _ ?_, hrun, hended, _, _, rfl, ?_, ⟨_, rfl⟩, hW, hsame.mono (by decide) (by decide)⟩
  · show Steps p.tables e below (s₁.setTop (mkF m 0 #[.val (.ref w_AT_MOST)] [])) _
    refine XS.aloadN X0.here hx rfl (hb hby d3_0) rfl rfl ?_
    show Steps p.tables e below (s₁.setTop (mkF m 1 #[.val (.ref w_AT_MOST)] [(.ref w_AT_MOST)])) _
    refine st1 _ ?_
    show Steps p.tables e below (T1.setTop (mkF m 4 #[.val (.ref w_AT_MOST)] [(.ref w_AT_LEAST), (.ref w_AT_MOST)])) _
    refine Jvm.RoadKit.acmp (g := (mkF m 4 #[.val (.ref w_AT_MOST)] [(.ref w_AT_LEAST), (.ref w_AT_MOST)])) X1 hx rfl rfl rfl (pc0 := 4) (pc' := 7) (same := false) rfl (hb hby d3_4) rfl (decide_eq_false fun q => (Fld.ne F_ordinal_w_AT_MOST F_ordinal_w_AT_LEAST (by decide)) (Value.ref.inj q)) (by decide) (by decide) ?_
    show Steps p.tables e below (T1.setTop (mkF m 7 #[.val (.ref w_AT_MOST)] [])) _
    refine XS.aloadN X1.here hx rfl (hb hby d3_7) rfl rfl ?_
    show Steps p.tables e below (T1.setTop (mkF m 8 #[.val (.ref w_AT_MOST)] [(.ref w_AT_MOST)])) _
    refine st2 _ ?_
    show Steps p.tables e below (T2.setTop (mkF m 11 #[.val (.ref w_AT_MOST)] [(.ref w_ABOVE), (.ref w_AT_MOST)])) _
    refine Jvm.RoadKit.acmp (g := (mkF m 11 #[.val (.ref w_AT_MOST)] [(.ref w_ABOVE), (.ref w_AT_MOST)])) X2 hx rfl rfl rfl (pc0 := 11) (pc' := 18) (same := false) rfl (hb hby d3_11) rfl (decide_eq_false fun q => (Fld.ne F_ordinal_w_AT_MOST F_ordinal_w_ABOVE (by decide)) (Value.ref.inj q)) (by decide) (by decide) ?_
    show Steps p.tables e below (T2.setTop (mkF m 18 #[.val (.ref w_AT_MOST)] [])) _
    refine XS.iconst X2.here hx rfl (hb hby d3_18) ?_
    show Steps p.tables e below (T2.setTop (mkF m 19 #[.val (.ref w_AT_MOST)] [(.int (0 : Int32))])) _
    exact retOut X2 hx Bd.returns rfl (Or.inl ⟨rfl, Or.inr (Or.inl rfl), _, rfl⟩) (hb hby d3_19) hr
  · show QR _ h0 n0 _ T2.heap _
    rw [e2]
    exact ⟨rfl, N0, rfl⟩
theorem d4_0 : decode method_3_code 0 = .ok (.aload_n 0, 1) := by decide +kernel
theorem d4_1 : decode method_3_code 1 = .ok (.getstatic 16, 3) := by decide +kernel
theorem d4_4 : decode method_3_code 4 = .ok (.if_acmp .eq 10, 3) := by decide +kernel
theorem d4_7 : decode method_3_code 7 = .ok (.aload_n 0, 1) := by decide +kernel
theorem d4_8 : decode method_3_code 8 = .ok (.getstatic 19, 3) := by decide +kernel
theorem d4_11 : decode method_3_code 11 = .ok (.if_acmp .ne 7, 3) := by decide +kernel
theorem d4_14 : decode method_3_code 14 = .ok (.iconst 1, 1) := by decide +kernel
theorem d4_15 : decode method_3_code 15 = .ok (.goto 4, 3) := by decide +kernel
theorem d4_19 : decode method_3_code 19 = .ok (.ireturn, 1) := by decide +kernel
theorem ef_4_R (m : MethodId) (x0 : Addr) : entryFrame m #[(.ref x0)] 1 = mkF m 0 #[.val (.ref x0)] [] := by first | (simp [entryFrame, mkF, argsToLocals, Value.category]; done) | rfl
theorem pn_com_example_covenantry_covenantry_DirectionOppositePinLaw : plainName "com/example/covenantry/covenantry/DirectionOppositePinLaw" = true := by first | (simp [plainName, overriddenIn]; done) | decide +kernel
set_option maxRecDepth 65536 in
set_option maxHeartbeats 40000000 in
theorem c4_0 (l : Launch) (Z : State) (a0 : Array Value) (hw : ∀ d ∈ tables_1, d.before a0 Z = true) (ws : List Jvm.Cond) (w_AT_MOST : Addr) (w_AT_LEAST : Addr) (w_BELOW : Addr) (w_ABOVE : Addr) (h0 : Heap) (n0 : Nat) (Z0 : n0 ≤ h0.size) (G : Glob Z h0 w_AT_MOST w_AT_LEAST w_BELOW w_ABOVE)  :
    MetFree l (⟨"com/example/covenantry/covenantry/DirectionOppositePinLaw", "strict", "(Lcom/example/covenantry/covenantry/Direction;)Z"⟩ : MethodName) (head1 (Jvm.Cond.code (⟨"com/example/covenantry/covenantry/DirectionOppositePinLaw", "strict", "(Lcom/example/covenantry/covenantry/Direction;)Z"⟩ : MethodName) method_3_code 1 (some .boolean) :: ws) ({ frames := 0, cells := 0, slots := 0, locals := 0 } : Room)) (fun a U => a = #[(.ref w_ABOVE)] ∧ Z.Warmed39 U.vm ∧ U.heap = h0) (fun _ _ _ _ _ => True) (fun _ U o U' => ∃ v L, o = .returned v ∧ QR (some (.int (1 : Int32))) h0 n0 v U'.heap L ∧ FrameEnd U o U' L ({ frames := 0, cells := 0, slots := 0, locals := 0 } : Room).cells ({ frames := 0, cells := 0, slots := 0, locals := 0 } : Room).slots) := by
  refine MetFree.of_bodySF (plainFor_of_name pn_com_example_covenantry_covenantry_DirectionOppositePinLaw) hisR ?_
  intro p e s m args below meth c s₁ Bd hml0 hP hK
  obtain ⟨rfl, hZ, hh⟩ := hP
  have hx := Bd.exec
  have hby := Bd.bytes
  have hml : c.maxLocals = 1 := hml0
  have hown : s.vm.findClass "com/example/covenantry/covenantry/DirectionOppositePinLaw" = some m.cls := findClass_of_methodNamed Bd.named
  have X0 : Stand p l e ({ frames := 0, cells := 0, slots := 0, locals := 0 } : Room) s m #[(.ref w_ABOVE)] below meth c s₁ [] 0 0 := Stand.of_body Bd
  have e0 : s₁.heap = h0 := by rw [← hh, Bd.state]; rfl
  have N0 := Fr.nil n0
  have pre0 : ∀ t, Steps p.tables e below (s₁.setTop (mkF m 0 #[.val (.ref w_ABOVE)] [])) t → Steps p.tables e below (s₁.setTop (entryFrame m #[(.ref w_ABOVE)] 1)) t := fun t k => castTop (ef_4_R m w_ABOVE) k
  have G' := G
  obtain ⟨S_w_AT_MOST, E_w_AT_MOST, S_w_AT_LEAST, E_w_AT_LEAST, S_w_BELOW, E_w_BELOW, S_w_ABOVE, E_w_ABOVE, F_ordinal_w_AT_MOST, F_ordinal_w_ABOVE, F_ordinal_w_AT_LEAST, F_ordinal_w_BELOW⟩ := G'
  obtain ⟨T1, X1, e1, st1⟩ := getS2 X0 hx hZ hown (host := "") (Or.inl (hw _ (List.mem_of_getElem? (i := 8) rfl))) Via.refl e0 S_w_BELOW (g := (mkF m 1 #[.val (.ref w_ABOVE)] [(.ref w_ABOVE)])) rfl (hb hby d4_1)
  obtain ⟨T2, X2, e2, st2⟩ := getS2 X1 hx hZ hown (host := "") (Or.inl (hw _ (List.mem_of_getElem? (i := 10) rfl))) Via.refl e1 S_w_ABOVE (g := (mkF m 8 #[.val (.ref w_ABOVE)] [(.ref w_ABOVE)])) rfl (hb hby d4_8)
  obtain ⟨fs, hr, hrun, hended, hW, hsame⟩ := X2.leave (v := some (.int (1 : Int32))) (fun h => by rw [Bd.returns] at h; cases h)
  refine ⟨_, _, pre0 _ ?_, hrun, hended, _, _, rfl, ?_, ⟨_, rfl⟩, hW, hsame.mono (by decide) (by decide)⟩
  · show Steps p.tables e below (s₁.setTop (mkF m 0 #[.val (.ref w_ABOVE)] [])) _
    refine XS.aloadN X0.here hx rfl (hb hby d4_0) rfl rfl ?_
    show Steps p.tables e below (s₁.setTop (mkF m 1 #[.val (.ref w_ABOVE)] [(.ref w_ABOVE)])) _
    refine st1 _ ?_
    show Steps p.tables e below (T1.setTop (mkF m 4 #[.val (.ref w_ABOVE)] [(.ref w_BELOW), (.ref w_ABOVE)])) _
    refine Jvm.RoadKit.acmp (g := (mkF m 4 #[.val (.ref w_ABOVE)] [(.ref w_BELOW), (.ref w_ABOVE)])) X1 hx rfl rfl rfl (pc0 := 4) (pc' := 7) (same := false) rfl (hb hby d4_4) rfl (decide_eq_false fun q => (Fld.ne F_ordinal_w_ABOVE F_ordinal_w_BELOW (by decide)) (Value.ref.inj q)) (by decide) (by decide) ?_
    show Steps p.tables e below (T1.setTop (mkF m 7 #[.val (.ref w_ABOVE)] [])) _
    refine XS.aloadN X1.here hx rfl (hb hby d4_7) rfl rfl ?_
    show Steps p.tables e below (T1.setTop (mkF m 8 #[.val (.ref w_ABOVE)] [(.ref w_ABOVE)])) _
    refine st2 _ ?_
    show Steps p.tables e below (T2.setTop (mkF m 11 #[.val (.ref w_ABOVE)] [(.ref w_ABOVE), (.ref w_ABOVE)])) _
    refine Jvm.RoadKit.acmp (g := (mkF m 11 #[.val (.ref w_ABOVE)] [(.ref w_ABOVE), (.ref w_ABOVE)])) X2 hx rfl rfl rfl (pc0 := 11) (pc' := 14) (same := true) rfl (hb hby d4_11) rfl (decide_eq_true rfl) (by decide) (by decide) ?_
    show Steps p.tables e below (T2.setTop (mkF m 14 #[.val (.ref w_ABOVE)] [])) _
    refine XS.iconst X2.here hx rfl (hb hby d4_14) ?_
    show Steps p.tables e below (T2.setTop (mkF m 15 #[.val (.ref w_ABOVE)] [(.int (1 : Int32))])) _
    refine XS.goto X2.here hx rfl (pc0 := 15) (pc' := 19) rfl (hb hby d4_15) (by decide) (by decide) ?_
    show Steps p.tables e below (T2.setTop (mkF m 19 #[.val (.ref w_ABOVE)] [(.int (1 : Int32))])) _
    exact retOut X2 hx Bd.returns rfl (Or.inl ⟨rfl, Or.inr (Or.inl rfl), _, rfl⟩) (hb hby d4_19) hr
  · show QR _ h0 n0 _ T2.heap _
    rw [e2]
    exact ⟨rfl, N0, rfl⟩
theorem pd__Lcom_example_covenantry_covenantry_Direction__Z : parseMethodDescriptor "(Lcom/example/covenantry/covenantry/Direction;)Z" = some ⟨[(.object "com/example/covenantry/covenantry/Direction")], some .boolean⟩ := by decide +kernel
theorem d4_18 : decode method_3_code 18 = .ok (.iconst 0, 1) := by decide +kernel
set_option maxRecDepth 65536 in
set_option maxHeartbeats 40000000 in
theorem c4_1 (l : Launch) (Z : State) (a0 : Array Value) (hw : ∀ d ∈ tables_1, d.before a0 Z = true) (ws : List Jvm.Cond) (w_AT_MOST : Addr) (w_AT_LEAST : Addr) (w_BELOW : Addr) (w_ABOVE : Addr) (h0 : Heap) (n0 : Nat) (Z0 : n0 ≤ h0.size) (G : Glob Z h0 w_AT_MOST w_AT_LEAST w_BELOW w_ABOVE)  :
    MetFree l (⟨"com/example/covenantry/covenantry/DirectionOppositePinLaw", "strict", "(Lcom/example/covenantry/covenantry/Direction;)Z"⟩ : MethodName) (head1 (Jvm.Cond.code (⟨"com/example/covenantry/covenantry/DirectionOppositePinLaw", "strict", "(Lcom/example/covenantry/covenantry/Direction;)Z"⟩ : MethodName) method_3_code 1 (some .boolean) :: ws) ({ frames := 0, cells := 0, slots := 0, locals := 0 } : Room)) (fun a U => a = #[(.ref w_AT_MOST)] ∧ Z.Warmed39 U.vm ∧ U.heap = h0) (fun _ _ _ _ _ => True) (fun _ U o U' => ∃ v L, o = .returned v ∧ QR (some (.int (0 : Int32))) h0 n0 v U'.heap L ∧ FrameEnd U o U' L ({ frames := 0, cells := 0, slots := 0, locals := 0 } : Room).cells ({ frames := 0, cells := 0, slots := 0, locals := 0 } : Room).slots) := by
  refine MetFree.of_bodySF (plainFor_of_name pn_com_example_covenantry_covenantry_DirectionOppositePinLaw) hisR ?_
  intro p e s m args below meth c s₁ Bd hml0 hP hK
  obtain ⟨rfl, hZ, hh⟩ := hP
  have hx := Bd.exec
  have hby := Bd.bytes
  have hml : c.maxLocals = 1 := hml0
  have hown : s.vm.findClass "com/example/covenantry/covenantry/DirectionOppositePinLaw" = some m.cls := findClass_of_methodNamed Bd.named
  have X0 : Stand p l e ({ frames := 0, cells := 0, slots := 0, locals := 0 } : Room) s m #[(.ref w_AT_MOST)] below meth c s₁ [] 0 0 := Stand.of_body Bd
  have e0 : s₁.heap = h0 := by rw [← hh, Bd.state]; rfl
  have N0 := Fr.nil n0
  have pre0 : ∀ t, Steps p.tables e below (s₁.setTop (mkF m 0 #[.val (.ref w_AT_MOST)] [])) t → Steps p.tables e below (s₁.setTop (entryFrame m #[(.ref w_AT_MOST)] 1)) t := fun t k => castTop (ef_4_R m w_AT_MOST) k
  have G' := G
  obtain ⟨S_w_AT_MOST, E_w_AT_MOST, S_w_AT_LEAST, E_w_AT_LEAST, S_w_BELOW, E_w_BELOW, S_w_ABOVE, E_w_ABOVE, F_ordinal_w_AT_MOST, F_ordinal_w_ABOVE, F_ordinal_w_AT_LEAST, F_ordinal_w_BELOW⟩ := G'
  obtain ⟨T1, X1, e1, st1⟩ := getS2 X0 hx hZ hown (host := "") (Or.inl (hw _ (List.mem_of_getElem? (i := 8) rfl))) Via.refl e0 S_w_BELOW (g := (mkF m 1 #[.val (.ref w_AT_MOST)] [(.ref w_AT_MOST)])) rfl (hb hby d4_1)
  obtain ⟨T2, X2, e2, st2⟩ := getS2 X1 hx hZ hown (host := "") (Or.inl (hw _ (List.mem_of_getElem? (i := 10) rfl))) Via.refl e1 S_w_ABOVE (g := (mkF m 8 #[.val (.ref w_AT_MOST)] [(.ref w_AT_MOST)])) rfl (hb hby d4_8)
  obtain ⟨fs, hr, hrun, hended, hW, hsame⟩ := X2.leave (v := some (.int (0 : Int32))) (fun h => by rw [Bd.returns] at h; cases h)
  refine ⟨_, _, pre0 _ ?_, hrun, hended, _, _, rfl, ?_, ⟨_, rfl⟩, hW, hsame.mono (by decide) (by decide)⟩
  · show Steps p.tables e below (s₁.setTop (mkF m 0 #[.val (.ref w_AT_MOST)] [])) _
    refine XS.aloadN X0.here hx rfl (hb hby d4_0) rfl rfl ?_
    show Steps p.tables e below (s₁.setTop (mkF m 1 #[.val (.ref w_AT_MOST)] [(.ref w_AT_MOST)])) _
    refine st1 _ ?_
    show Steps p.tables e below (T1.setTop (mkF m 4 #[.val (.ref w_AT_MOST)] [(.ref w_BELOW), (.ref w_AT_MOST)])) _
    refine Jvm.RoadKit.acmp (g := (mkF m 4 #[.val (.ref w_AT_MOST)] [(.ref w_BELOW), (.ref w_AT_MOST)])) X1 hx rfl rfl rfl (pc0 := 4) (pc' := 7) (same := false) rfl (hb hby d4_4) rfl (decide_eq_false fun q => (Fld.ne F_ordinal_w_AT_MOST F_ordinal_w_BELOW (by decide)) (Value.ref.inj q)) (by decide) (by decide) ?_
    show Steps p.tables e below (T1.setTop (mkF m 7 #[.val (.ref w_AT_MOST)] [])) _
    refine XS.aloadN X1.here hx rfl (hb hby d4_7) rfl rfl ?_
    show Steps p.tables e below (T1.setTop (mkF m 8 #[.val (.ref w_AT_MOST)] [(.ref w_AT_MOST)])) _
    refine st2 _ ?_
    show Steps p.tables e below (T2.setTop (mkF m 11 #[.val (.ref w_AT_MOST)] [(.ref w_ABOVE), (.ref w_AT_MOST)])) _
    refine Jvm.RoadKit.acmp (g := (mkF m 11 #[.val (.ref w_AT_MOST)] [(.ref w_ABOVE), (.ref w_AT_MOST)])) X2 hx rfl rfl rfl (pc0 := 11) (pc' := 18) (same := false) rfl (hb hby d4_11) rfl (decide_eq_false fun q => (Fld.ne F_ordinal_w_AT_MOST F_ordinal_w_ABOVE (by decide)) (Value.ref.inj q)) (by decide) (by decide) ?_
    show Steps p.tables e below (T2.setTop (mkF m 18 #[.val (.ref w_AT_MOST)] [])) _
    refine XS.iconst X2.here hx rfl (hb hby d4_18) ?_
    show Steps p.tables e below (T2.setTop (mkF m 19 #[.val (.ref w_AT_MOST)] [(.int (0 : Int32))])) _
    exact retOut X2 hx Bd.returns rfl (Or.inl ⟨rfl, Or.inr (Or.inl rfl), _, rfl⟩) (hb hby d4_19) hr
  · show QR _ h0 n0 _ T2.heap _
    rw [e2]
    exact ⟨rfl, N0, rfl⟩
set_option maxRecDepth 65536 in
set_option maxHeartbeats 40000000 in
theorem c2_1 (l : Launch) (Z : State) (a0 : Array Value) (hw : ∀ d ∈ tables_1, d.before a0 Z = true) (ws : List Jvm.Cond) (w_AT_MOST : Addr) (w_AT_LEAST : Addr) (w_BELOW : Addr) (w_ABOVE : Addr) (h0 : Heap) (n0 : Nat) (Z0 : n0 ≤ h0.size) (G : Glob Z h0 w_AT_MOST w_AT_LEAST w_BELOW w_ABOVE)  :
    MetFree l (⟨"java/lang/Enum", "ordinal", "()I"⟩ : MethodName) (head1 (Jvm.Cond.code (⟨"java/lang/Enum", "ordinal", "()I"⟩ : MethodName) jdk_37_method_2_code 1 (some .int) :: ws) ({ frames := 0, cells := 0, slots := 0, locals := 0 } : Room)) (fun a U => a = #[(.ref w_ABOVE)] ∧ Z.Warmed39 U.vm ∧ U.heap = h0) (fun _ _ _ _ _ => True) (fun _ U o U' => ∃ v L, o = .returned v ∧ QR (some (.int (3 : Int32))) h0 n0 v U'.heap L ∧ FrameEnd U o U' L ({ frames := 0, cells := 0, slots := 0, locals := 0 } : Room).cells ({ frames := 0, cells := 0, slots := 0, locals := 0 } : Room).slots) := by
  refine MetFree.of_bodySF (plainFor_of_name pn_java_lang_Enum) hisR ?_
  intro p e s m args below meth c s₁ Bd hml0 hP hK
  obtain ⟨rfl, hZ, hh⟩ := hP
  have hx := Bd.exec
  have hby := Bd.bytes
  have hml : c.maxLocals = 1 := hml0
  have hown : s.vm.findClass "java/lang/Enum" = some m.cls := findClass_of_methodNamed Bd.named
  have X0 : Stand p l e ({ frames := 0, cells := 0, slots := 0, locals := 0 } : Room) s m #[(.ref w_ABOVE)] below meth c s₁ [] 0 0 := Stand.of_body Bd
  have e0 : s₁.heap = h0 := by rw [← hh, Bd.state]; rfl
  have N0 := Fr.nil n0
  have pre0 : ∀ t, Steps p.tables e below (s₁.setTop (mkF m 0 #[.val (.ref w_ABOVE)] [])) t → Steps p.tables e below (s₁.setTop (entryFrame m #[(.ref w_ABOVE)] 1)) t := fun t k => castTop (ef_2_R m w_ABOVE) k
  have G' := G
  obtain ⟨S_w_AT_MOST, E_w_AT_MOST, S_w_AT_LEAST, E_w_AT_LEAST, S_w_BELOW, E_w_BELOW, S_w_ABOVE, E_w_ABOVE, F_ordinal_w_AT_MOST, F_ordinal_w_ABOVE, F_ordinal_w_AT_LEAST, F_ordinal_w_BELOW⟩ := G'
  obtain ⟨T1, X1, e1, st1⟩ := getF X0 hx hZ hown (host := "") (Or.inl (hw _ (List.mem_of_getElem? (i := 24) rfl))) Via.refl e0 F_ordinal_w_ABOVE (g := (mkF m 1 #[.val (.ref w_ABOVE)] [(.ref w_ABOVE)])) rfl rfl (hb hby d2_1)
  obtain ⟨fs, hr, hrun, hended, hW, hsame⟩ := X1.leave (v := some (.int (3 : Int32))) (fun h => by rw [Bd.returns] at h; cases h)
  refine ⟨_, _, pre0 _ ?_, hrun, hended, _, _, rfl, ?_, ⟨_, rfl⟩, hW, hsame.mono (by decide) (by decide)⟩
  · show Steps p.tables e below (s₁.setTop (mkF m 0 #[.val (.ref w_ABOVE)] [])) _
    refine XS.aloadN X0.here hx rfl (hb hby d2_0) rfl rfl ?_
    show Steps p.tables e below (s₁.setTop (mkF m 1 #[.val (.ref w_ABOVE)] [(.ref w_ABOVE)])) _
    refine st1 _ ?_
    show Steps p.tables e below (T1.setTop (mkF m 4 #[.val (.ref w_ABOVE)] [(.int (3 : Int32))])) _
    exact retOut X1 hx Bd.returns rfl (Or.inl ⟨rfl, Or.inl rfl, _, rfl⟩) (hb hby d2_4) hr
  · show QR _ h0 n0 _ T1.heap _
    rw [e1]
    exact ⟨rfl, N0, rfl⟩
theorem d1_64 : decode prog_5_method_9_code 64 = .ok (.getstatic 3, 3) := by decide +kernel
set_option maxRecDepth 65536 in
set_option maxHeartbeats 40000000 in
theorem c1_1 (l : Launch) (Z : State) (a0 : Array Value) (hw : ∀ d ∈ tables_1, d.before a0 Z = true) (ws : List Jvm.Cond) (w_AT_MOST : Addr) (w_AT_LEAST : Addr) (w_BELOW : Addr) (w_ABOVE : Addr) (h0 : Heap) (n0 : Nat) (Z0 : n0 ≤ h0.size) (G : Glob Z h0 w_AT_MOST w_AT_LEAST w_BELOW w_ABOVE)  :
    MetFree l (⟨"com/example/covenantry/covenantry/Direction", "opposite", "()Lcom/example/covenantry/covenantry/Direction;"⟩ : MethodName) (head1 (Jvm.Cond.code (⟨"com/example/covenantry/covenantry/Direction", "opposite", "()Lcom/example/covenantry/covenantry/Direction;"⟩ : MethodName) prog_5_method_9_code 1 (some (.object "com/example/covenantry/covenantry/Direction")) :: ws) ({ frames := 1, cells := 0, slots := 0, locals := 12 } : Room)) (fun a U => a = #[(.ref w_ABOVE)] ∧ Z.Warmed39 U.vm ∧ U.heap = h0) (fun _ _ _ _ _ => True) (fun _ U o U' => ∃ v L, o = .returned v ∧ QR (some (.ref w_AT_MOST)) h0 n0 v U'.heap L ∧ FrameEnd U o U' L ({ frames := 1, cells := 0, slots := 0, locals := 12 } : Room).cells ({ frames := 1, cells := 0, slots := 0, locals := 12 } : Room).slots) := by
  refine MetFree.of_bodySF (plainFor_of_name pn_com_example_covenantry_covenantry_Direction) hisR ?_
  intro p e s m args below meth c s₁ Bd hml0 hP hK
  obtain ⟨rfl, hZ, hh⟩ := hP
  have hx := Bd.exec
  have hby := Bd.bytes
  have hml : c.maxLocals = 1 := hml0
  have hown : s.vm.findClass "com/example/covenantry/covenantry/Direction" = some m.cls := findClass_of_methodNamed Bd.named
  have X0 : Stand p l e ({ frames := 1, cells := 0, slots := 0, locals := 12 } : Room) s m #[(.ref w_ABOVE)] below meth c s₁ [] 0 0 := Stand.of_body Bd
  have e0 : s₁.heap = h0 := by rw [← hh, Bd.state]; rfl
  have N0 := Fr.nil n0
  have pre0 : ∀ t, Steps p.tables e below (s₁.setTop (mkF m 0 #[.val (.ref w_ABOVE)] [])) t → Steps p.tables e below (s₁.setTop (entryFrame m #[(.ref w_ABOVE)] 1)) t := fun t k => castTop (ef_1_R m w_ABOVE) k
  have G' := G
  obtain ⟨S_w_AT_MOST, E_w_AT_MOST, S_w_AT_LEAST, E_w_AT_LEAST, S_w_BELOW, E_w_BELOW, S_w_ABOVE, E_w_ABOVE, F_ordinal_w_AT_MOST, F_ordinal_w_ABOVE, F_ordinal_w_AT_LEAST, F_ordinal_w_BELOW⟩ := G'
  obtain ⟨cq1, kq1, q1a, q1b, q1c⟩ := isOf hZ e0 E_w_ABOVE
  obtain ⟨_, _, ⟨T1, L1, k1, n1⟩, -, X1, ⟨Lc1, hQ1, l1, y1, z1⟩, st1⟩ := X0.virtualBackUp hx (x := (⟨"com/example/covenantry/covenantry/Direction", "ordinal", "()I"⟩ : MethodName)) (y := (⟨"java/lang/Enum", "ordinal", "()I"⟩ : MethodName)) hown (mvT hZ (hw _ (List.mem_of_getElem? (i := 17) rfl))) (mvT hZ (hw _ (List.mem_of_getElem? (i := 18) rfl))) (mvT hZ (hw _ (List.mem_of_getElem? (i := 19) rfl))) (by decide) (mvT hZ (hw _ (List.mem_of_getElem? (i := 21) rfl))) (mvT hZ (hw _ (List.mem_of_getElem? (i := 20) rfl))) (backOf (W := 0) (c2_1 l Z a0 hw [] w_AT_MOST w_AT_LEAST w_BELOW w_ABOVE h0 n0 Z0 G) hZ (hw _ (List.mem_of_getElem? (i := 23) rfl)) (hw _ (List.mem_of_getElem? (i := 22) rfl)) (by decide) (by decide)) q1a q1c (g := (mkF m 1 #[.val (.ref w_ABOVE)] [(.ref w_ABOVE)])) rfl (by rw [hml]; rfl) (Steps.refl _) (argsL := []) (rest := []) (lenOf pd___I rfl) rfl (by show 2 * 0 + _ ≤ _; exact Nat.le_of_eq rfl) (hb hby d1_1) (fun _ _ => ⟨rfl, e0, (by decide : 0 + 0 ≤ _), (by decide : 0 + 0 ≤ _)⟩)
  dsimp only [Pt.U, Pt.locs, Pt.cells, Pt.slots] at X1 l1 y1 z1 st1 hQ1
  subst l1 y1 z1
  obtain ⟨rfl, N1q, e1⟩ := hQ1
  have N1 := Fr.app N0 N1q
  obtain ⟨T2, X2, e2, st2⟩ := getS2 X1 hx hZ hown (host := "") (Or.inl (hw _ (List.mem_of_getElem? (i := 37) rfl))) Via.refl e1 S_w_AT_MOST (g := (mkF m 64 #[.val (.ref w_ABOVE)] [])) rfl (hb hby d1_64)
  obtain ⟨fs, hr, hrun, hended, hW, hsame⟩ := X2.leave (v := some (.ref w_AT_MOST)) (fun h => by rw [Bd.returns] at h; cases h)
  refine ⟨_, _, pre0 _ ?_, hrun, hended, _, _, rfl, ?_, ⟨_, rfl⟩, hW, hsame.mono (by decide) (by decide)⟩
  · show Steps p.tables e below (s₁.setTop (mkF m 0 #[.val (.ref w_ABOVE)] [])) _
    refine XS.aloadN X0.here hx rfl (hb hby d1_0) rfl rfl ?_
    show Steps p.tables e below (s₁.setTop (mkF m 1 #[.val (.ref w_ABOVE)] [(.ref w_ABOVE)])) _
    refine st1.trans ?_
    show Steps p.tables e below (T1.setTop (mkF m 4 #[.val (.ref w_ABOVE)] [(.int (3 : Int32))])) _
    refine XS.tswIn X1.here hx rfl (pc0 := 4) (pc' := 64) rfl (hb hby d1_4) rfl (by decide) (o := 60) (by decide) (by decide) (by decide) ?_
    show Steps p.tables e below (T1.setTop (mkF m 64 #[.val (.ref w_ABOVE)] [])) _
    refine st2 _ ?_
    show Steps p.tables e below (T2.setTop (mkF m 67 #[.val (.ref w_ABOVE)] [(.ref w_AT_MOST)])) _
    exact retOut X2 hx Bd.returns rfl (Or.inr (Or.inr (Or.inr (Or.inr ⟨rfl, rfl, rfl⟩)))) (hb hby d1_67) hr
  · show QR _ h0 n0 _ T2.heap _
    rw [e2]
    exact ⟨rfl, N1, rfl⟩
theorem ef_0_I (m : MethodId) (x0 : Int32) : entryFrame m #[(.int x0)] maxLocals = mkF m 0 #[.val (.int x0), .unset, .unset, .unset, .unset, .unset, .unset] [] := by first | (simp [entryFrame, mkF, argsToLocals, Value.category, maxLocals]; done) | rfl
set_option maxRecDepth 65536 in
set_option maxHeartbeats 40000000 in
theorem law_0 (l : Launch) (Z : State) (a0 : Array Value) (hw : ∀ d ∈ tables_1, d.before a0 Z = true) (ws : List Jvm.Cond) (w_AT_MOST : Addr) (w_AT_LEAST : Addr) (w_BELOW : Addr) (w_ABOVE : Addr) (h0 : Heap) (n0 : Nat) (Z0 : n0 ≤ h0.size) (G : Glob Z h0 w_AT_MOST w_AT_LEAST w_BELOW w_ABOVE) (p0 : Int32) (hi0 : (p0 &&& (3 : Int32)) = (0 : Int32)) :
    MetFree l x (head1 (Jvm.Cond.code x code maxLocals ret :: ws) room_1) (fun a U => a = #[(.int p0)] ∧ Z.Warmed39 U.vm ∧ U.heap = h0) (fun _ _ _ _ _ => True) (fun _ U o U' => ∃ v L, o = .returned v ∧ QL (some (.int (1 : Int32))) h0 n0 v U'.heap L ∧ FrameEnd U o U' L room_1.cells room_1.slots) := by
  refine MetFree.of_bodySF (plainFor_of_name pn_com_example_covenantry_covenantry_DirectionOppositePinLaw) hisR ?_
  intro p e s m args below meth c s₁ Bd hml0 hP hK
  obtain ⟨rfl, hZ, hh⟩ := hP
  have hx := Bd.exec
  have hby := Bd.bytes
  have hml : c.maxLocals = 7 := hml0
  have hown : s.vm.findClass "com/example/covenantry/covenantry/DirectionOppositePinLaw" = some m.cls := findClass_of_methodNamed Bd.named
  have X0 : Stand p l e room_1 s m #[(.int p0)] below meth c s₁ [] 0 0 := Stand.of_body Bd
  have e0 : s₁.heap = h0 := by rw [← hh, Bd.state]; rfl
  have N0 := Fr.nil n0
  have pre0 : ∀ t, Steps p.tables e below (s₁.setTop (mkF m 0 #[.val (.int p0), .unset, .unset, .unset, .unset, .unset, .unset] [])) t → Steps p.tables e below (s₁.setTop (entryFrame m #[(.int p0)] maxLocals)) t := fun t k => castTop (ef_0_I m p0) k
  have G' := G
  obtain ⟨S_w_AT_MOST, E_w_AT_MOST, S_w_AT_LEAST, E_w_AT_LEAST, S_w_BELOW, E_w_BELOW, S_w_ABOVE, E_w_ABOVE, F_ordinal_w_AT_MOST, F_ordinal_w_ABOVE, F_ordinal_w_AT_LEAST, F_ordinal_w_BELOW⟩ := G'
  obtain ⟨T1, h1, k1, X1, e1, E1, A1, O1, st1⟩ := newR X0 hx hZ hown (hw _ (List.mem_of_getElem? (i := 0) rfl)) (hw _ (List.mem_of_getElem? (i := 1) rfl)) e0 (g := (mkF m 1 #[.val (.int p0), .unset, .unset, .unset, .unset, .unset, .unset] [(.int (4 : Int32))])) rfl (hb hby at_1) rfl (by decide) (cap := 4) (by decide) (by decide) (by decide) (by decide)
  obtain ⟨b1, g1⟩ : ∃ z, z = h0.size := ⟨_, rfl⟩
  rw [← g1] at A1 st1
  have V1 : Arv Z h1 b1 k1 (.object "com/example/covenantry/covenantry/Direction") (4 : Int32) [.null, .null, .null, .null] .null := (Arv.new A1 (by decide)).pad (pad_rep [] .null 4)
  have K1 : Keep h0 h1 [] := (Keep.refl h0 []).ext E1
  have sz_b1 : h0.size ≤ b1 := Nat.le_of_eq g1.symm
  have g_b1 : n0 ≤ b1 := Nat.le_trans Z0 sz_b1
  obtain ⟨T2, X2, e2, st2⟩ := getS2 X1 hx hZ hown (host := "") (Or.inl (hw _ (List.mem_of_getElem? (i := 2) rfl))) Via.refl e1 (own_sta_keep S_w_AT_MOST K1) (g := (mkF m 6 #[.val (.int p0), .unset, .unset, .unset, .unset, .unset, .unset] [(.int (0 : Int32)), (.ref b1), (.ref b1)])) rfl (hb hby at_6)
  obtain ⟨cl3, Ar3, q3, s3, m3, H3, F3⟩ := V1
  have hin3 : ¬ ((0 : Int32) < 0 ∨ cl3.slots.size ≤ ((0 : Int32)).toNatClampNeg) := inb_of s3 ⟨by decide, by decide⟩
  have sto3 : Sto Z h1 b1 (.ref w_AT_MOST) := Sto.ofV Ar3 q3 O1 (Ins.of_exa (E_w_AT_MOST.keep K1) (hw _ (List.mem_of_getElem? (i := 5) rfl)))
  obtain ⟨T3, h3, X3, e3, W3, st3⟩ := stR X2 hx hZ e2 Ar3 (j := (0 : Int32)) hin3 rfl sto3 (g := (mkF m 9 #[.val (.int p0), .unset, .unset, .unset, .unset, .unset, .unset] [(.ref w_AT_MOST), (.int (0 : Int32)), (.ref b1), (.ref b1)])) rfl rfl (hb hby at_9)
  have V3 : Arv Z h3 b1 k1 (.object "com/example/covenantry/covenantry/Direction") (4 : Int32) [(.ref w_AT_MOST), .null, .null, .null] .null := Arv.set Ar3 q3 s3 m3 H3 F3 rfl W3 0 rfl (Nat.le_of_ble_eq_true rfl)
  have K3 : Keep h0 h3 [] := K1.wr W3 (Or.inr sz_b1)
  have N3 := Fr.snoc X3 N0 g_b1
  obtain ⟨T4, X4, e4, st4⟩ := getS2 X3 hx hZ hown (host := "") (Or.inl (hw _ (List.mem_of_getElem? (i := 6) rfl))) Via.refl e3 (own_sta_keep S_w_AT_LEAST K3) (g := (mkF m 12 #[.val (.int p0), .unset, .unset, .unset, .unset, .unset, .unset] [(.int (1 : Int32)), (.ref b1), (.ref b1)])) rfl (hb hby at_12)
  obtain ⟨cl5, Ar5, q5, s5, m5, H5, F5⟩ := V3
  have hin5 : ¬ ((1 : Int32) < 0 ∨ cl5.slots.size ≤ ((1 : Int32)).toNatClampNeg) := inb_of s5 ⟨by decide, by decide⟩
  have sto5 : Sto Z h3 b1 (.ref w_AT_LEAST) := Sto.ofV Ar5 q5 O1 (Ins.of_exa (E_w_AT_LEAST.keep K3) (hw _ (List.mem_of_getElem? (i := 5) rfl)))
  obtain ⟨T5, h5, X5, e5, W5, st5⟩ := stR X4 hx hZ e4 Ar5 (j := (1 : Int32)) hin5 rfl sto5 (g := (mkF m 15 #[.val (.int p0), .unset, .unset, .unset, .unset, .unset, .unset] [(.ref w_AT_LEAST), (.int (1 : Int32)), (.ref b1), (.ref b1)])) rfl rfl (hb hby at_15)
  have V5 : Arv Z h5 b1 k1 (.object "com/example/covenantry/covenantry/Direction") (4 : Int32) [(.ref w_AT_MOST), (.ref w_AT_LEAST), .null, .null] .null := Arv.set Ar5 q5 s5 m5 H5 F5 rfl W5 1 rfl (Nat.le_of_ble_eq_true rfl)
  have K5 : Keep h0 h5 [] := K3.wr W5 (Or.inr sz_b1)
  have N5 := Fr.snoc X5 N3 g_b1
  obtain ⟨T6, X6, e6, st6⟩ := getS2 X5 hx hZ hown (host := "") (Or.inl (hw _ (List.mem_of_getElem? (i := 8) rfl))) Via.refl e5 (own_sta_keep S_w_BELOW K5) (g := (mkF m 18 #[.val (.int p0), .unset, .unset, .unset, .unset, .unset, .unset] [(.int (2 : Int32)), (.ref b1), (.ref b1)])) rfl (hb hby at_18)
  obtain ⟨cl7, Ar7, q7, s7, m7, H7, F7⟩ := V5
  have hin7 : ¬ ((2 : Int32) < 0 ∨ cl7.slots.size ≤ ((2 : Int32)).toNatClampNeg) := inb_of s7 ⟨by decide, by decide⟩
  have sto7 : Sto Z h5 b1 (.ref w_BELOW) := Sto.ofV Ar7 q7 O1 (Ins.of_exa (E_w_BELOW.keep K5) (hw _ (List.mem_of_getElem? (i := 5) rfl)))
  obtain ⟨T7, h7, X7, e7, W7, st7⟩ := stR X6 hx hZ e6 Ar7 (j := (2 : Int32)) hin7 rfl sto7 (g := (mkF m 21 #[.val (.int p0), .unset, .unset, .unset, .unset, .unset, .unset] [(.ref w_BELOW), (.int (2 : Int32)), (.ref b1), (.ref b1)])) rfl rfl (hb hby at_21)
  have V7 : Arv Z h7 b1 k1 (.object "com/example/covenantry/covenantry/Direction") (4 : Int32) [(.ref w_AT_MOST), (.ref w_AT_LEAST), (.ref w_BELOW), .null] .null := Arv.set Ar7 q7 s7 m7 H7 F7 rfl W7 2 rfl (Nat.le_of_ble_eq_true rfl)
  have K7 : Keep h0 h7 [] := K5.wr W7 (Or.inr sz_b1)
  have N7 := Fr.snoc X7 N5 g_b1
  obtain ⟨T8, X8, e8, st8⟩ := getS2 X7 hx hZ hown (host := "") (Or.inl (hw _ (List.mem_of_getElem? (i := 10) rfl))) Via.refl e7 (own_sta_keep S_w_ABOVE K7) (g := (mkF m 24 #[.val (.int p0), .unset, .unset, .unset, .unset, .unset, .unset] [(.int (3 : Int32)), (.ref b1), (.ref b1)])) rfl (hb hby at_24)
  obtain ⟨cl9, Ar9, q9, s9, m9, H9, F9⟩ := V7
  have hin9 : ¬ ((3 : Int32) < 0 ∨ cl9.slots.size ≤ ((3 : Int32)).toNatClampNeg) := inb_of s9 ⟨by decide, by decide⟩
  have sto9 : Sto Z h7 b1 (.ref w_ABOVE) := Sto.ofV Ar9 q9 O1 (Ins.of_exa (E_w_ABOVE.keep K7) (hw _ (List.mem_of_getElem? (i := 5) rfl)))
  obtain ⟨T9, h9, X9, e9, W9, st9⟩ := stR X8 hx hZ e8 Ar9 (j := (3 : Int32)) hin9 rfl sto9 (g := (mkF m 27 #[.val (.int p0), .unset, .unset, .unset, .unset, .unset, .unset] [(.ref w_ABOVE), (.int (3 : Int32)), (.ref b1), (.ref b1)])) rfl rfl (hb hby at_27)
  have V9 : Arv Z h9 b1 k1 (.object "com/example/covenantry/covenantry/Direction") (4 : Int32) [(.ref w_AT_MOST), (.ref w_AT_LEAST), (.ref w_BELOW), (.ref w_ABOVE)] .null := Arv.set Ar9 q9 s9 m9 H9 F9 rfl W9 3 rfl (Nat.le_of_ble_eq_true rfl)
  have K9 : Keep h0 h9 [] := K7.wr W9 (Or.inr sz_b1)
  have N9 := Fr.snoc X9 N7 g_b1
  obtain ⟨cl10, Ar10, q10, s10, m10, H10, F10⟩ := V9
  have hin10 : ¬ ((0 : Int32) < 0 ∨ cl10.slots.size ≤ ((0 : Int32)).toNatClampNeg) := inb_of s10 ⟨by decide, by decide⟩
  have hat10 : cl10.slots[((0 : Int32)).toNatClampNeg]? = some (.ref w_AT_MOST) := H10.at hin10 rfl
  obtain ⟨cq11, kq11, q11a, q11b, q11c⟩ := isOf hZ e9 (E_w_AT_MOST.keep K9)
  obtain ⟨_, _, ⟨T11, L11, k11, n11⟩, -, X11, ⟨Lc11, hQ11, l11, y11, z11⟩, st11⟩ := X9.virtualBack hx (y := (⟨"com/example/covenantry/covenantry/Direction", "opposite", "()Lcom/example/covenantry/covenantry/Direction;"⟩ : MethodName)) (z := (⟨"com/example/covenantry/covenantry/Direction", "opposite", "()Lcom/example/covenantry/covenantry/Direction;"⟩ : MethodName)) hown (mvT hZ (hw _ (List.mem_of_getElem? (i := 12) rfl))) (mvT hZ (hw _ (List.mem_of_getElem? (i := 13) rfl))) (notFace_of_selects (args := #[]) (mvT hZ (hw _ (List.mem_of_getElem? (i := 15) rfl)))) (mvT hZ (hw _ (List.mem_of_getElem? (i := 15) rfl))) (mvT hZ (hw _ (List.mem_of_getElem? (i := 14) rfl))) (by decide) (backOf (W := 0) (c1_0 l Z a0 hw [] w_AT_MOST w_AT_LEAST w_BELOW w_ABOVE h9 n0 (Nat.le_trans Z0 K9.1) (G.keep K9)) hZ (hw _ (List.mem_of_getElem? (i := 16) rfl)) (hw _ (List.mem_of_getElem? (i := 3) rfl)) (by decide) (by decide)) q11a q11c (g := (mkF m 36 #[.val (.int p0), .val (.ref b1), .val (.ref w_AT_MOST), .unset, .unset, .unset, .unset] [(.ref w_AT_MOST)])) rfl (by rw [hml]; rfl) (Steps.refl _) (argsL := []) (rest := []) (lenOf pd___Lcom_example_covenantry_covenantry_Direction_ rfl) rfl (by show 2 * 0 + _ ≤ _; exact Nat.le_of_eq rfl) (hb hby at_36) (fun _ _ => ⟨rfl, e9, (by decide : 1 + 0 ≤ _), (by decide : 4 + 0 ≤ _)⟩)
  dsimp only [Pt.U, Pt.locs, Pt.cells, Pt.slots] at X11 l11 y11 z11 st11 hQ11
  subst l11 y11 z11
  obtain ⟨rfl, N11q, e11⟩ := hQ11
  have N11 := Fr.app N9 N11q
  obtain ⟨cq12, kq12, q12a, q12b, q12c⟩ := isOf hZ e11 (E_w_ABOVE.keep K9)
  obtain ⟨_, _, ⟨T12, L12, k12, n12⟩, -, X12, ⟨Lc12, hQ12, l12, y12, z12⟩, st12⟩ := X11.virtualBack hx (y := (⟨"com/example/covenantry/covenantry/Direction", "floor", "()Z"⟩ : MethodName)) (z := (⟨"com/example/covenantry/covenantry/Direction", "floor", "()Z"⟩ : MethodName)) hown (mvT hZ (hw _ (List.mem_of_getElem? (i := 27) rfl))) (mvT hZ (hw _ (List.mem_of_getElem? (i := 28) rfl))) (notFace_of_selects (args := #[]) (mvT hZ (hw _ (List.mem_of_getElem? (i := 30) rfl)))) (mvT hZ (hw _ (List.mem_of_getElem? (i := 30) rfl))) (mvT hZ (hw _ (List.mem_of_getElem? (i := 29) rfl))) (by decide) (backOf (W := 0) (c3_0 l Z a0 hw [] w_AT_MOST w_AT_LEAST w_BELOW w_ABOVE h9 n0 (Nat.le_trans Z0 K9.1) (G.keep K9)) hZ (hw _ (List.mem_of_getElem? (i := 31) rfl)) (hw _ (List.mem_of_getElem? (i := 3) rfl)) (by decide) (by decide)) q12a q12c (g := (mkF m 47 #[.val (.int p0), .val (.ref b1), .val (.ref w_AT_MOST), .val (.ref w_ABOVE), .unset, .unset, .unset] [(.ref w_ABOVE)])) rfl (by rw [hml]; rfl) (Steps.refl _) (argsL := []) (rest := []) (lenOf pd___Z rfl) rfl (by show 2 * 0 + _ ≤ _; exact Nat.le_of_eq rfl) (hb hby at_47) (fun _ _ => ⟨rfl, e11, (by decide : 1 + 0 ≤ _), (by decide : 4 + 0 ≤ _)⟩)
  dsimp only [Pt.U, Pt.locs, Pt.cells, Pt.slots] at X12 l12 y12 z12 st12 hQ12
  subst l12 y12 z12
  obtain ⟨rfl, N12q, e12⟩ := hQ12
  have N12 := Fr.app N11 N12q
  obtain ⟨cq13, kq13, q13a, q13b, q13c⟩ := isOf hZ e12 (E_w_AT_MOST.keep K9)
  obtain ⟨_, _, ⟨T13, L13, k13, n13⟩, -, X13, ⟨Lc13, hQ13, l13, y13, z13⟩, st13⟩ := X12.virtualBack hx (y := (⟨"com/example/covenantry/covenantry/Direction", "floor", "()Z"⟩ : MethodName)) (z := (⟨"com/example/covenantry/covenantry/Direction", "floor", "()Z"⟩ : MethodName)) hown (mvT hZ (hw _ (List.mem_of_getElem? (i := 27) rfl))) (mvT hZ (hw _ (List.mem_of_getElem? (i := 28) rfl))) (notFace_of_selects (args := #[]) (mvT hZ (hw _ (List.mem_of_getElem? (i := 30) rfl)))) (mvT hZ (hw _ (List.mem_of_getElem? (i := 30) rfl))) (mvT hZ (hw _ (List.mem_of_getElem? (i := 29) rfl))) (by decide) (backOf (W := 1) (c3_1 l Z a0 hw [] w_AT_MOST w_AT_LEAST w_BELOW w_ABOVE h9 n0 (Nat.le_trans Z0 K9.1) (G.keep K9)) hZ (hw _ (List.mem_of_getElem? (i := 31) rfl)) (hw _ (List.mem_of_getElem? (i := 3) rfl)) (by decide) (by decide)) q13a q13c (g := (mkF m 51 #[.val (.int p0), .val (.ref b1), .val (.ref w_AT_MOST), .val (.ref w_ABOVE), .unset, .unset, .unset] [(.ref w_AT_MOST), (.int (1 : Int32))])) rfl (by rw [hml]; rfl) (Steps.refl _) (argsL := []) (rest := [(.int (1 : Int32))]) (lenOf pd___Z rfl) rfl (by show 2 * 0 + _ ≤ _; exact Nat.le_of_eq rfl) (hb hby at_51) (fun _ _ => ⟨rfl, e12, (by decide : 1 + 0 ≤ _), (by decide : 4 + 0 ≤ _)⟩)
  dsimp only [Pt.U, Pt.locs, Pt.cells, Pt.slots] at X13 l13 y13 z13 st13 hQ13
  subst l13 y13 z13
  obtain ⟨rfl, N13q, e13⟩ := hQ13
  have N13 := Fr.app N12 N13q
  obtain ⟨_, _, ⟨T14, L14, k14, n14⟩, -, X14, ⟨Lc14, hQ14, l14, y14, z14⟩, st14⟩ := Jvm.LawKit.callS X13 hx (y := (⟨"com/example/covenantry/covenantry/DirectionOppositePinLaw", "strict", "(Lcom/example/covenantry/covenantry/Direction;)Z"⟩ : MethodName)) hown (mvT hZ (hw _ (List.mem_of_getElem? (i := 33) rfl))) (mvT hZ (hw _ (List.mem_of_getElem? (i := 34) rfl))) (mvT hZ (hw _ (List.mem_of_getElem? (i := 35) rfl))) (mvT hZ (hw _ (List.mem_of_getElem? (i := 36) rfl))) (by decide) (backOf (W := 0) (c4_0 l Z a0 hw [] w_AT_MOST w_AT_LEAST w_BELOW w_ABOVE h9 n0 (Nat.le_trans Z0 K9.1) (G.keep K9)) hZ (hw _ (List.mem_of_getElem? (i := 36) rfl)) (hw _ (List.mem_of_getElem? (i := 35) rfl)) (by decide) (by decide)) (g := (mkF m 65 #[.val (.int p0), .val (.ref b1), .val (.ref w_AT_MOST), .val (.ref w_ABOVE), .val (.int (1 : Int32)), .unset, .unset] [(.ref w_ABOVE)])) rfl (by rw [hml]; rfl) (argsL := [(.ref w_ABOVE)]) (rest := []) (lenOf pd__Lcom_example_covenantry_covenantry_Direction__Z rfl) rfl (by show 2 * 0 + _ ≤ _; exact Nat.le_of_eq rfl) (hb hby at_65) (fun _ _ => ⟨rfl, e13, (by decide : 1 + 0 ≤ _), (by decide : 4 + 0 ≤ _)⟩)
  dsimp only [Pt.U, Pt.locs, Pt.cells, Pt.slots] at X14 l14 y14 z14 st14 hQ14
  subst l14 y14 z14
  obtain ⟨rfl, N14q, e14⟩ := hQ14
  have N14 := Fr.app N13 N14q
  obtain ⟨_, _, ⟨T15, L15, k15, n15⟩, -, X15, ⟨Lc15, hQ15, l15, y15, z15⟩, st15⟩ := Jvm.LawKit.callS X14 hx (y := (⟨"com/example/covenantry/covenantry/DirectionOppositePinLaw", "strict", "(Lcom/example/covenantry/covenantry/Direction;)Z"⟩ : MethodName)) hown (mvT hZ (hw _ (List.mem_of_getElem? (i := 33) rfl))) (mvT hZ (hw _ (List.mem_of_getElem? (i := 34) rfl))) (mvT hZ (hw _ (List.mem_of_getElem? (i := 35) rfl))) (mvT hZ (hw _ (List.mem_of_getElem? (i := 36) rfl))) (by decide) (backOf (W := 1) (c4_1 l Z a0 hw [] w_AT_MOST w_AT_LEAST w_BELOW w_ABOVE h9 n0 (Nat.le_trans Z0 K9.1) (G.keep K9)) hZ (hw _ (List.mem_of_getElem? (i := 36) rfl)) (hw _ (List.mem_of_getElem? (i := 35) rfl)) (by decide) (by decide)) (g := (mkF m 69 #[.val (.int p0), .val (.ref b1), .val (.ref w_AT_MOST), .val (.ref w_ABOVE), .val (.int (1 : Int32)), .unset, .unset] [(.ref w_AT_MOST), (.int (1 : Int32))])) rfl (by rw [hml]; rfl) (argsL := [(.ref w_AT_MOST)]) (rest := [(.int (1 : Int32))]) (lenOf pd__Lcom_example_covenantry_covenantry_Direction__Z rfl) rfl (by show 2 * 0 + _ ≤ _; exact Nat.le_of_eq rfl) (hb hby at_69) (fun _ _ => ⟨rfl, e14, (by decide : 1 + 0 ≤ _), (by decide : 4 + 0 ≤ _)⟩)
  dsimp only [Pt.U, Pt.locs, Pt.cells, Pt.slots] at X15 l15 y15 z15 st15 hQ15
  subst l15 y15 z15
  obtain ⟨rfl, N15q, e15⟩ := hQ15
  have N15 := Fr.app N14 N15q
  obtain ⟨cq16, kq16, q16a, q16b, q16c⟩ := isOf hZ e15 (E_w_ABOVE.keep K9)
  obtain ⟨_, _, ⟨T16, L16, k16, n16⟩, -, X16, ⟨Lc16, hQ16, l16, y16, z16⟩, st16⟩ := X15.virtualBack hx (y := (⟨"com/example/covenantry/covenantry/Direction", "opposite", "()Lcom/example/covenantry/covenantry/Direction;"⟩ : MethodName)) (z := (⟨"com/example/covenantry/covenantry/Direction", "opposite", "()Lcom/example/covenantry/covenantry/Direction;"⟩ : MethodName)) hown (mvT hZ (hw _ (List.mem_of_getElem? (i := 12) rfl))) (mvT hZ (hw _ (List.mem_of_getElem? (i := 13) rfl))) (notFace_of_selects (args := #[]) (mvT hZ (hw _ (List.mem_of_getElem? (i := 15) rfl)))) (mvT hZ (hw _ (List.mem_of_getElem? (i := 15) rfl))) (mvT hZ (hw _ (List.mem_of_getElem? (i := 14) rfl))) (by decide) (backOf (W := 0) (c1_1 l Z a0 hw [] w_AT_MOST w_AT_LEAST w_BELOW w_ABOVE h9 n0 (Nat.le_trans Z0 K9.1) (G.keep K9)) hZ (hw _ (List.mem_of_getElem? (i := 16) rfl)) (hw _ (List.mem_of_getElem? (i := 3) rfl)) (by decide) (by decide)) q16a q16c (g := (mkF m 83 #[.val (.int p0), .val (.ref b1), .val (.ref w_AT_MOST), .val (.ref w_ABOVE), .val (.int (1 : Int32)), .val (.int (1 : Int32)), .unset] [(.ref w_ABOVE)])) rfl (by rw [hml]; rfl) (Steps.refl _) (argsL := []) (rest := []) (lenOf pd___Lcom_example_covenantry_covenantry_Direction_ rfl) rfl (by show 2 * 0 + _ ≤ _; exact Nat.le_of_eq rfl) (hb hby at_83) (fun _ _ => ⟨rfl, e15, (by decide : 1 + 0 ≤ _), (by decide : 4 + 0 ≤ _)⟩)
  dsimp only [Pt.U, Pt.locs, Pt.cells, Pt.slots] at X16 l16 y16 z16 st16 hQ16
  subst l16 y16 z16
  obtain ⟨rfl, N16q, e16⟩ := hQ16
  have N16 := Fr.app N15 N16q
  obtain ⟨fs, hr, hrun, hended, hW, hsame⟩ := X16.leave (v := some (.int (1 : Int32))) (fun h => by rw [Bd.returns] at h; cases h)
  refine ⟨_, _, pre0 _ ?_, hrun, hended, _, _, rfl, ?_, ⟨_, rfl⟩, hW, hsame.mono (by decide) (by decide)⟩
  · show Steps p.tables e below (s₁.setTop (mkF m 0 #[.val (.int p0), .unset, .unset, .unset, .unset, .unset, .unset] [])) _
    refine XS.iconst X0.here hx rfl (hb hby at_0) ?_
    show Steps p.tables e below (s₁.setTop (mkF m 1 #[.val (.int p0), .unset, .unset, .unset, .unset, .unset, .unset] [(.int (4 : Int32))])) _
    refine st1 _ ?_
    show Steps p.tables e below (T1.setTop (mkF m 4 #[.val (.int p0), .unset, .unset, .unset, .unset, .unset, .unset] [(.ref b1)])) _
    refine XS.dup X1.here hx rfl (hb hby at_4) rfl rfl ?_
    show Steps p.tables e below (T1.setTop (mkF m 5 #[.val (.int p0), .unset, .unset, .unset, .unset, .unset, .unset] [(.ref b1), (.ref b1)])) _
    refine XS.iconst X1.here hx rfl (hb hby at_5) ?_
    show Steps p.tables e below (T1.setTop (mkF m 6 #[.val (.int p0), .unset, .unset, .unset, .unset, .unset, .unset] [(.int (0 : Int32)), (.ref b1), (.ref b1)])) _
    refine st2 _ ?_
    show Steps p.tables e below (T2.setTop (mkF m 9 #[.val (.int p0), .unset, .unset, .unset, .unset, .unset, .unset] [(.ref w_AT_MOST), (.int (0 : Int32)), (.ref b1), (.ref b1)])) _
    refine st3 _ ?_
    show Steps p.tables e below (T3.setTop (mkF m 10 #[.val (.int p0), .unset, .unset, .unset, .unset, .unset, .unset] [(.ref b1)])) _
    refine XS.dup X3.here hx rfl (hb hby at_10) rfl rfl ?_
    show Steps p.tables e below (T3.setTop (mkF m 11 #[.val (.int p0), .unset, .unset, .unset, .unset, .unset, .unset] [(.ref b1), (.ref b1)])) _
    refine XS.iconst X3.here hx rfl (hb hby at_11) ?_
    show Steps p.tables e below (T3.setTop (mkF m 12 #[.val (.int p0), .unset, .unset, .unset, .unset, .unset, .unset] [(.int (1 : Int32)), (.ref b1), (.ref b1)])) _
    refine st4 _ ?_
    show Steps p.tables e below (T4.setTop (mkF m 15 #[.val (.int p0), .unset, .unset, .unset, .unset, .unset, .unset] [(.ref w_AT_LEAST), (.int (1 : Int32)), (.ref b1), (.ref b1)])) _
    refine st5 _ ?_
    show Steps p.tables e below (T5.setTop (mkF m 16 #[.val (.int p0), .unset, .unset, .unset, .unset, .unset, .unset] [(.ref b1)])) _
    refine XS.dup X5.here hx rfl (hb hby at_16) rfl rfl ?_
    show Steps p.tables e below (T5.setTop (mkF m 17 #[.val (.int p0), .unset, .unset, .unset, .unset, .unset, .unset] [(.ref b1), (.ref b1)])) _
    refine XS.iconst X5.here hx rfl (hb hby at_17) ?_
    show Steps p.tables e below (T5.setTop (mkF m 18 #[.val (.int p0), .unset, .unset, .unset, .unset, .unset, .unset] [(.int (2 : Int32)), (.ref b1), (.ref b1)])) _
    refine st6 _ ?_
    show Steps p.tables e below (T6.setTop (mkF m 21 #[.val (.int p0), .unset, .unset, .unset, .unset, .unset, .unset] [(.ref w_BELOW), (.int (2 : Int32)), (.ref b1), (.ref b1)])) _
    refine st7 _ ?_
    show Steps p.tables e below (T7.setTop (mkF m 22 #[.val (.int p0), .unset, .unset, .unset, .unset, .unset, .unset] [(.ref b1)])) _
    refine XS.dup X7.here hx rfl (hb hby at_22) rfl rfl ?_
    show Steps p.tables e below (T7.setTop (mkF m 23 #[.val (.int p0), .unset, .unset, .unset, .unset, .unset, .unset] [(.ref b1), (.ref b1)])) _
    refine XS.iconst X7.here hx rfl (hb hby at_23) ?_
    show Steps p.tables e below (T7.setTop (mkF m 24 #[.val (.int p0), .unset, .unset, .unset, .unset, .unset, .unset] [(.int (3 : Int32)), (.ref b1), (.ref b1)])) _
    refine st8 _ ?_
    show Steps p.tables e below (T8.setTop (mkF m 27 #[.val (.int p0), .unset, .unset, .unset, .unset, .unset, .unset] [(.ref w_ABOVE), (.int (3 : Int32)), (.ref b1), (.ref b1)])) _
    refine st9 _ ?_
    show Steps p.tables e below (T9.setTop (mkF m 28 #[.val (.int p0), .unset, .unset, .unset, .unset, .unset, .unset] [(.ref b1)])) _
    refine XS.astoreN X9.here hx rfl (hb hby at_28) rfl rfl (l' := #[.val (.int p0), .val (.ref b1), .unset, .unset, .unset, .unset, .unset]) rfl ?_
    show Steps p.tables e below (T9.setTop (mkF m 29 #[.val (.int p0), .val (.ref b1), .unset, .unset, .unset, .unset, .unset] [])) _
    refine XS.aloadN X9.here hx rfl (hb hby at_29) rfl rfl ?_
    show Steps p.tables e below (T9.setTop (mkF m 30 #[.val (.int p0), .val (.ref b1), .unset, .unset, .unset, .unset, .unset] [(.ref b1)])) _
    refine XS.iloadN X9.here hx rfl (hb hby at_30) rfl ?_
    show Steps p.tables e below (T9.setTop (mkF m 31 #[.val (.int p0), .val (.ref b1), .unset, .unset, .unset, .unset, .unset] [(.int p0), (.ref b1)])) _
    refine XS.iconst X9.here hx rfl (hb hby at_31) ?_
    show Steps p.tables e below (T9.setTop (mkF m 32 #[.val (.int p0), .val (.ref b1), .unset, .unset, .unset, .unset, .unset] [(.int (3 : Int32)), (.int p0), (.ref b1)])) _
    refine XS.iand X9.here hx rfl (hb hby at_32) rfl ?_
    show Steps p.tables e below (T9.setTop (mkF m 33 #[.val (.int p0), .val (.ref b1), .unset, .unset, .unset, .unset, .unset] [(.int (p0 &&& (3 : Int32))), (.ref b1)])) _
    rw [hi0]
    show Steps p.tables e below (T9.setTop (mkF m 33 #[.val (.int p0), .val (.ref b1), .unset, .unset, .unset, .unset, .unset] [(.int (0 : Int32)), (.ref b1)])) _
    refine X9.aaload hx (j := (0 : Int32)) (v := (.ref w_AT_MOST)) (by rw [e9]; exact Ar10.1) (State.isArrayOf_alike hZ.alike Ar10.2.1) rfl Ar10.2.2 hin10 hat10 (g := (mkF m 33 #[.val (.int p0), .val (.ref b1), .unset, .unset, .unset, .unset, .unset] [(.int (0 : Int32)), (.ref b1)])) rfl rfl (hb hby at_33) _ ?_
    show Steps p.tables e below (T9.setTop (mkF m 34 #[.val (.int p0), .val (.ref b1), .unset, .unset, .unset, .unset, .unset] [(.ref w_AT_MOST)])) _
    refine XS.astoreN X9.here hx rfl (hb hby at_34) rfl rfl (l' := #[.val (.int p0), .val (.ref b1), .val (.ref w_AT_MOST), .unset, .unset, .unset, .unset]) rfl ?_
    show Steps p.tables e below (T9.setTop (mkF m 35 #[.val (.int p0), .val (.ref b1), .val (.ref w_AT_MOST), .unset, .unset, .unset, .unset] [])) _
    refine XS.aloadN X9.here hx rfl (hb hby at_35) rfl rfl ?_
    show Steps p.tables e below (T9.setTop (mkF m 36 #[.val (.int p0), .val (.ref b1), .val (.ref w_AT_MOST), .unset, .unset, .unset, .unset] [(.ref w_AT_MOST)])) _
    refine st11.trans ?_
    show Steps p.tables e below (T11.setTop (mkF m 39 #[.val (.int p0), .val (.ref b1), .val (.ref w_AT_MOST), .unset, .unset, .unset, .unset] [(.ref w_ABOVE)])) _
    refine XS.astoreN X11.here hx rfl (hb hby at_39) rfl rfl (l' := #[.val (.int p0), .val (.ref b1), .val (.ref w_AT_MOST), .val (.ref w_ABOVE), .unset, .unset, .unset]) rfl ?_
    show Steps p.tables e below (T11.setTop (mkF m 40 #[.val (.int p0), .val (.ref b1), .val (.ref w_AT_MOST), .val (.ref w_ABOVE), .unset, .unset, .unset] [])) _
    refine XS.aloadN X11.here hx rfl (hb hby at_40) rfl rfl ?_
    show Steps p.tables e below (T11.setTop (mkF m 41 #[.val (.int p0), .val (.ref b1), .val (.ref w_AT_MOST), .val (.ref w_ABOVE), .unset, .unset, .unset] [(.ref w_ABOVE)])) _
    refine XS.ifnonnullYes X11.here hx rfl (pc0 := 41) (pc' := 46) rfl (hb hby at_41) rfl (by decide) (by decide) ?_
    show Steps p.tables e below (T11.setTop (mkF m 46 #[.val (.int p0), .val (.ref b1), .val (.ref w_AT_MOST), .val (.ref w_ABOVE), .unset, .unset, .unset] [])) _
    refine XS.aloadN X11.here hx rfl (hb hby at_46) rfl rfl ?_
    show Steps p.tables e below (T11.setTop (mkF m 47 #[.val (.int p0), .val (.ref b1), .val (.ref w_AT_MOST), .val (.ref w_ABOVE), .unset, .unset, .unset] [(.ref w_ABOVE)])) _
    refine st12.trans ?_
    show Steps p.tables e below (T12.setTop (mkF m 50 #[.val (.int p0), .val (.ref b1), .val (.ref w_AT_MOST), .val (.ref w_ABOVE), .unset, .unset, .unset] [(.int (1 : Int32))])) _
    refine XS.aloadN X12.here hx rfl (hb hby at_50) rfl rfl ?_
    show Steps p.tables e below (T12.setTop (mkF m 51 #[.val (.int p0), .val (.ref b1), .val (.ref w_AT_MOST), .val (.ref w_ABOVE), .unset, .unset, .unset] [(.ref w_AT_MOST), (.int (1 : Int32))])) _
    refine st13.trans ?_
    show Steps p.tables e below (T13.setTop (mkF m 54 #[.val (.int p0), .val (.ref b1), .val (.ref w_AT_MOST), .val (.ref w_ABOVE), .unset, .unset, .unset] [(.int (0 : Int32)), (.int (1 : Int32))])) _
    refine XS.icmpNo X13.here hx rfl (hb hby at_54) rfl (feq (by decide : ¬ ((1 : Int32) = (0 : Int32)))).1 ?_
    show Steps p.tables e below (T13.setTop (mkF m 57 #[.val (.int p0), .val (.ref b1), .val (.ref w_AT_MOST), .val (.ref w_ABOVE), .unset, .unset, .unset] [])) _
    refine XS.iconst X13.here hx rfl (hb hby at_57) ?_
    show Steps p.tables e below (T13.setTop (mkF m 58 #[.val (.int p0), .val (.ref b1), .val (.ref w_AT_MOST), .val (.ref w_ABOVE), .unset, .unset, .unset] [(.int (1 : Int32))])) _
    refine XS.goto X13.here hx rfl (pc0 := 58) (pc' := 62) rfl (hb hby at_58) (by decide) (by decide) ?_
    show Steps p.tables e below (T13.setTop (mkF m 62 #[.val (.int p0), .val (.ref b1), .val (.ref w_AT_MOST), .val (.ref w_ABOVE), .unset, .unset, .unset] [(.int (1 : Int32))])) _
    refine XS.istore X13.here hx rfl (hb hby at_62) rfl (l' := #[.val (.int p0), .val (.ref b1), .val (.ref w_AT_MOST), .val (.ref w_ABOVE), .val (.int (1 : Int32)), .unset, .unset]) rfl ?_
    show Steps p.tables e below (T13.setTop (mkF m 64 #[.val (.int p0), .val (.ref b1), .val (.ref w_AT_MOST), .val (.ref w_ABOVE), .val (.int (1 : Int32)), .unset, .unset] [])) _
    refine XS.aloadN X13.here hx rfl (hb hby at_64) rfl rfl ?_
    show Steps p.tables e below (T13.setTop (mkF m 65 #[.val (.int p0), .val (.ref b1), .val (.ref w_AT_MOST), .val (.ref w_ABOVE), .val (.int (1 : Int32)), .unset, .unset] [(.ref w_ABOVE)])) _
    refine st14 _ ?_
    show Steps p.tables e below (T14.setTop (mkF m 68 #[.val (.int p0), .val (.ref b1), .val (.ref w_AT_MOST), .val (.ref w_ABOVE), .val (.int (1 : Int32)), .unset, .unset] [(.int (1 : Int32))])) _
    refine XS.aloadN X14.here hx rfl (hb hby at_68) rfl rfl ?_
    show Steps p.tables e below (T14.setTop (mkF m 69 #[.val (.int p0), .val (.ref b1), .val (.ref w_AT_MOST), .val (.ref w_ABOVE), .val (.int (1 : Int32)), .unset, .unset] [(.ref w_AT_MOST), (.int (1 : Int32))])) _
    refine st15 _ ?_
    show Steps p.tables e below (T15.setTop (mkF m 72 #[.val (.int p0), .val (.ref b1), .val (.ref w_AT_MOST), .val (.ref w_ABOVE), .val (.int (1 : Int32)), .unset, .unset] [(.int (0 : Int32)), (.int (1 : Int32))])) _
    refine XS.icmpNo X15.here hx rfl (hb hby at_72) rfl (feq (by decide : ¬ ((1 : Int32) = (0 : Int32)))).1 ?_
    show Steps p.tables e below (T15.setTop (mkF m 75 #[.val (.int p0), .val (.ref b1), .val (.ref w_AT_MOST), .val (.ref w_ABOVE), .val (.int (1 : Int32)), .unset, .unset] [])) _
    refine XS.iconst X15.here hx rfl (hb hby at_75) ?_
    show Steps p.tables e below (T15.setTop (mkF m 76 #[.val (.int p0), .val (.ref b1), .val (.ref w_AT_MOST), .val (.ref w_ABOVE), .val (.int (1 : Int32)), .unset, .unset] [(.int (1 : Int32))])) _
    refine XS.goto X15.here hx rfl (pc0 := 76) (pc' := 80) rfl (hb hby at_76) (by decide) (by decide) ?_
    show Steps p.tables e below (T15.setTop (mkF m 80 #[.val (.int p0), .val (.ref b1), .val (.ref w_AT_MOST), .val (.ref w_ABOVE), .val (.int (1 : Int32)), .unset, .unset] [(.int (1 : Int32))])) _
    refine XS.istore X15.here hx rfl (hb hby at_80) rfl (l' := #[.val (.int p0), .val (.ref b1), .val (.ref w_AT_MOST), .val (.ref w_ABOVE), .val (.int (1 : Int32)), .val (.int (1 : Int32)), .unset]) rfl ?_
    show Steps p.tables e below (T15.setTop (mkF m 82 #[.val (.int p0), .val (.ref b1), .val (.ref w_AT_MOST), .val (.ref w_ABOVE), .val (.int (1 : Int32)), .val (.int (1 : Int32)), .unset] [])) _
    refine XS.aloadN X15.here hx rfl (hb hby at_82) rfl rfl ?_
    show Steps p.tables e below (T15.setTop (mkF m 83 #[.val (.int p0), .val (.ref b1), .val (.ref w_AT_MOST), .val (.ref w_ABOVE), .val (.int (1 : Int32)), .val (.int (1 : Int32)), .unset] [(.ref w_ABOVE)])) _
    refine st16.trans ?_
    show Steps p.tables e below (T16.setTop (mkF m 86 #[.val (.int p0), .val (.ref b1), .val (.ref w_AT_MOST), .val (.ref w_ABOVE), .val (.int (1 : Int32)), .val (.int (1 : Int32)), .unset] [(.ref w_AT_MOST)])) _
    refine XS.aloadN X16.here hx rfl (hb hby at_86) rfl rfl ?_
    show Steps p.tables e below (T16.setTop (mkF m 87 #[.val (.int p0), .val (.ref b1), .val (.ref w_AT_MOST), .val (.ref w_ABOVE), .val (.int (1 : Int32)), .val (.int (1 : Int32)), .unset] [(.ref w_AT_MOST), (.ref w_AT_MOST)])) _
    refine Jvm.RoadKit.acmp (g := (mkF m 87 #[.val (.int p0), .val (.ref b1), .val (.ref w_AT_MOST), .val (.ref w_ABOVE), .val (.int (1 : Int32)), .val (.int (1 : Int32)), .unset] [(.ref w_AT_MOST), (.ref w_AT_MOST)])) X16 hx rfl rfl rfl (pc0 := 87) (pc' := 90) (same := true) rfl (hb hby at_87) rfl (decide_eq_true rfl) (by decide) (by decide) ?_
    show Steps p.tables e below (T16.setTop (mkF m 90 #[.val (.int p0), .val (.ref b1), .val (.ref w_AT_MOST), .val (.ref w_ABOVE), .val (.int (1 : Int32)), .val (.int (1 : Int32)), .unset] [])) _
    refine XS.iconst X16.here hx rfl (hb hby at_90) ?_
    show Steps p.tables e below (T16.setTop (mkF m 91 #[.val (.int p0), .val (.ref b1), .val (.ref w_AT_MOST), .val (.ref w_ABOVE), .val (.int (1 : Int32)), .val (.int (1 : Int32)), .unset] [(.int (1 : Int32))])) _
    refine XS.goto X16.here hx rfl (pc0 := 91) (pc' := 95) rfl (hb hby at_91) (by decide) (by decide) ?_
    show Steps p.tables e below (T16.setTop (mkF m 95 #[.val (.int p0), .val (.ref b1), .val (.ref w_AT_MOST), .val (.ref w_ABOVE), .val (.int (1 : Int32)), .val (.int (1 : Int32)), .unset] [(.int (1 : Int32))])) _
    refine XS.istore X16.here hx rfl (hb hby at_95) rfl (l' := #[.val (.int p0), .val (.ref b1), .val (.ref w_AT_MOST), .val (.ref w_ABOVE), .val (.int (1 : Int32)), .val (.int (1 : Int32)), .val (.int (1 : Int32))]) rfl ?_
    show Steps p.tables e below (T16.setTop (mkF m 97 #[.val (.int p0), .val (.ref b1), .val (.ref w_AT_MOST), .val (.ref w_ABOVE), .val (.int (1 : Int32)), .val (.int (1 : Int32)), .val (.int (1 : Int32))] [])) _
    refine XS.iload X16.here hx rfl (hb hby at_97) rfl ?_
    show Steps p.tables e below (T16.setTop (mkF m 99 #[.val (.int p0), .val (.ref b1), .val (.ref w_AT_MOST), .val (.ref w_ABOVE), .val (.int (1 : Int32)), .val (.int (1 : Int32)), .val (.int (1 : Int32))] [(.int (1 : Int32))])) _
    refine XS.ifNo X16.here hx rfl (hb hby at_99) rfl ((if0 _ _).trans (feq (by decide : ¬ ((1 : Int32) = (0 : Int32)))).1) ?_
    show Steps p.tables e below (T16.setTop (mkF m 102 #[.val (.int p0), .val (.ref b1), .val (.ref w_AT_MOST), .val (.ref w_ABOVE), .val (.int (1 : Int32)), .val (.int (1 : Int32)), .val (.int (1 : Int32))] [])) _
    refine XS.iload X16.here hx rfl (hb hby at_102) rfl ?_
    show Steps p.tables e below (T16.setTop (mkF m 104 #[.val (.int p0), .val (.ref b1), .val (.ref w_AT_MOST), .val (.ref w_ABOVE), .val (.int (1 : Int32)), .val (.int (1 : Int32)), .val (.int (1 : Int32))] [(.int (1 : Int32))])) _
    refine XS.ifNo X16.here hx rfl (hb hby at_104) rfl ((if0 _ _).trans (feq (by decide : ¬ ((1 : Int32) = (0 : Int32)))).1) ?_
    show Steps p.tables e below (T16.setTop (mkF m 107 #[.val (.int p0), .val (.ref b1), .val (.ref w_AT_MOST), .val (.ref w_ABOVE), .val (.int (1 : Int32)), .val (.int (1 : Int32)), .val (.int (1 : Int32))] [])) _
    refine XS.iload X16.here hx rfl (hb hby at_107) rfl ?_
    show Steps p.tables e below (T16.setTop (mkF m 109 #[.val (.int p0), .val (.ref b1), .val (.ref w_AT_MOST), .val (.ref w_ABOVE), .val (.int (1 : Int32)), .val (.int (1 : Int32)), .val (.int (1 : Int32))] [(.int (1 : Int32))])) _
    refine XS.ifNo X16.here hx rfl (hb hby at_109) rfl ((if0 _ _).trans (feq (by decide : ¬ ((1 : Int32) = (0 : Int32)))).1) ?_
    show Steps p.tables e below (T16.setTop (mkF m 112 #[.val (.int p0), .val (.ref b1), .val (.ref w_AT_MOST), .val (.ref w_ABOVE), .val (.int (1 : Int32)), .val (.int (1 : Int32)), .val (.int (1 : Int32))] [])) _
    refine XS.iconst X16.here hx rfl (hb hby at_112) ?_
    show Steps p.tables e below (T16.setTop (mkF m 113 #[.val (.int p0), .val (.ref b1), .val (.ref w_AT_MOST), .val (.ref w_ABOVE), .val (.int (1 : Int32)), .val (.int (1 : Int32)), .val (.int (1 : Int32))] [(.int (1 : Int32))])) _
    refine XS.goto X16.here hx rfl (pc0 := 113) (pc' := 117) rfl (hb hby at_113) (by decide) (by decide) ?_
    show Steps p.tables e below (T16.setTop (mkF m 117 #[.val (.int p0), .val (.ref b1), .val (.ref w_AT_MOST), .val (.ref w_ABOVE), .val (.int (1 : Int32)), .val (.int (1 : Int32)), .val (.int (1 : Int32))] [(.int (1 : Int32))])) _
    exact retOut X16 hx Bd.returns rfl (Or.inl ⟨rfl, Or.inr (Or.inl rfl), _, rfl⟩) (hb hby at_117) hr
  · exact ⟨rfl, N16⟩
set_option maxRecDepth 65536 in
set_option maxHeartbeats 40000000 in
theorem c2_2 (l : Launch) (Z : State) (a0 : Array Value) (hw : ∀ d ∈ tables_1, d.before a0 Z = true) (ws : List Jvm.Cond) (w_AT_MOST : Addr) (w_AT_LEAST : Addr) (w_BELOW : Addr) (w_ABOVE : Addr) (h0 : Heap) (n0 : Nat) (Z0 : n0 ≤ h0.size) (G : Glob Z h0 w_AT_MOST w_AT_LEAST w_BELOW w_ABOVE)  :
    MetFree l (⟨"java/lang/Enum", "ordinal", "()I"⟩ : MethodName) (head1 (Jvm.Cond.code (⟨"java/lang/Enum", "ordinal", "()I"⟩ : MethodName) jdk_37_method_2_code 1 (some .int) :: ws) ({ frames := 0, cells := 0, slots := 0, locals := 0 } : Room)) (fun a U => a = #[(.ref w_AT_LEAST)] ∧ Z.Warmed39 U.vm ∧ U.heap = h0) (fun _ _ _ _ _ => True) (fun _ U o U' => ∃ v L, o = .returned v ∧ QR (some (.int (1 : Int32))) h0 n0 v U'.heap L ∧ FrameEnd U o U' L ({ frames := 0, cells := 0, slots := 0, locals := 0 } : Room).cells ({ frames := 0, cells := 0, slots := 0, locals := 0 } : Room).slots) := by
  refine MetFree.of_bodySF (plainFor_of_name pn_java_lang_Enum) hisR ?_
  intro p e s m args below meth c s₁ Bd hml0 hP hK
  obtain ⟨rfl, hZ, hh⟩ := hP
  have hx := Bd.exec
  have hby := Bd.bytes
  have hml : c.maxLocals = 1 := hml0
  have hown : s.vm.findClass "java/lang/Enum" = some m.cls := findClass_of_methodNamed Bd.named
  have X0 : Stand p l e ({ frames := 0, cells := 0, slots := 0, locals := 0 } : Room) s m #[(.ref w_AT_LEAST)] below meth c s₁ [] 0 0 := Stand.of_body Bd
  have e0 : s₁.heap = h0 := by rw [← hh, Bd.state]; rfl
  have N0 := Fr.nil n0
  have pre0 : ∀ t, Steps p.tables e below (s₁.setTop (mkF m 0 #[.val (.ref w_AT_LEAST)] [])) t → Steps p.tables e below (s₁.setTop (entryFrame m #[(.ref w_AT_LEAST)] 1)) t := fun t k => castTop (ef_2_R m w_AT_LEAST) k
  have G' := G
  obtain ⟨S_w_AT_MOST, E_w_AT_MOST, S_w_AT_LEAST, E_w_AT_LEAST, S_w_BELOW, E_w_BELOW, S_w_ABOVE, E_w_ABOVE, F_ordinal_w_AT_MOST, F_ordinal_w_ABOVE, F_ordinal_w_AT_LEAST, F_ordinal_w_BELOW⟩ := G'
  obtain ⟨T1, X1, e1, st1⟩ := getF X0 hx hZ hown (host := "") (Or.inl (hw _ (List.mem_of_getElem? (i := 24) rfl))) Via.refl e0 F_ordinal_w_AT_LEAST (g := (mkF m 1 #[.val (.ref w_AT_LEAST)] [(.ref w_AT_LEAST)])) rfl rfl (hb hby d2_1)
  obtain ⟨fs, hr, hrun, hended, hW, hsame⟩ := X1.leave (v := some (.int (1 : Int32))) (fun h => by rw [Bd.returns] at h; cases h)
  refine ⟨_, _, pre0 _ ?_, hrun, hended, _, _, rfl, ?_, ⟨_, rfl⟩, hW, hsame.mono (by decide) (by decide)⟩
  · show Steps p.tables e below (s₁.setTop (mkF m 0 #[.val (.ref w_AT_LEAST)] [])) _
    refine XS.aloadN X0.here hx rfl (hb hby d2_0) rfl rfl ?_
    show Steps p.tables e below (s₁.setTop (mkF m 1 #[.val (.ref w_AT_LEAST)] [(.ref w_AT_LEAST)])) _
    refine st1 _ ?_
    show Steps p.tables e below (T1.setTop (mkF m 4 #[.val (.ref w_AT_LEAST)] [(.int (1 : Int32))])) _
    exact retOut X1 hx Bd.returns rfl (Or.inl ⟨rfl, Or.inl rfl, _, rfl⟩) (hb hby d2_4) hr
  · show QR _ h0 n0 _ T1.heap _
    rw [e1]
    exact ⟨rfl, N0, rfl⟩
theorem d1_52 : decode prog_5_method_9_code 52 = .ok (.getstatic 10, 3) := by decide +kernel
theorem d1_55 : decode prog_5_method_9_code 55 = .ok (.goto 12, 3) := by decide +kernel
set_option maxRecDepth 65536 in
set_option maxHeartbeats 40000000 in
theorem c1_2 (l : Launch) (Z : State) (a0 : Array Value) (hw : ∀ d ∈ tables_1, d.before a0 Z = true) (ws : List Jvm.Cond) (w_AT_MOST : Addr) (w_AT_LEAST : Addr) (w_BELOW : Addr) (w_ABOVE : Addr) (h0 : Heap) (n0 : Nat) (Z0 : n0 ≤ h0.size) (G : Glob Z h0 w_AT_MOST w_AT_LEAST w_BELOW w_ABOVE)  :
    MetFree l (⟨"com/example/covenantry/covenantry/Direction", "opposite", "()Lcom/example/covenantry/covenantry/Direction;"⟩ : MethodName) (head1 (Jvm.Cond.code (⟨"com/example/covenantry/covenantry/Direction", "opposite", "()Lcom/example/covenantry/covenantry/Direction;"⟩ : MethodName) prog_5_method_9_code 1 (some (.object "com/example/covenantry/covenantry/Direction")) :: ws) ({ frames := 1, cells := 0, slots := 0, locals := 12 } : Room)) (fun a U => a = #[(.ref w_AT_LEAST)] ∧ Z.Warmed39 U.vm ∧ U.heap = h0) (fun _ _ _ _ _ => True) (fun _ U o U' => ∃ v L, o = .returned v ∧ QR (some (.ref w_BELOW)) h0 n0 v U'.heap L ∧ FrameEnd U o U' L ({ frames := 1, cells := 0, slots := 0, locals := 12 } : Room).cells ({ frames := 1, cells := 0, slots := 0, locals := 12 } : Room).slots) := by
  refine MetFree.of_bodySF (plainFor_of_name pn_com_example_covenantry_covenantry_Direction) hisR ?_
  intro p e s m args below meth c s₁ Bd hml0 hP hK
  obtain ⟨rfl, hZ, hh⟩ := hP
  have hx := Bd.exec
  have hby := Bd.bytes
  have hml : c.maxLocals = 1 := hml0
  have hown : s.vm.findClass "com/example/covenantry/covenantry/Direction" = some m.cls := findClass_of_methodNamed Bd.named
  have X0 : Stand p l e ({ frames := 1, cells := 0, slots := 0, locals := 12 } : Room) s m #[(.ref w_AT_LEAST)] below meth c s₁ [] 0 0 := Stand.of_body Bd
  have e0 : s₁.heap = h0 := by rw [← hh, Bd.state]; rfl
  have N0 := Fr.nil n0
  have pre0 : ∀ t, Steps p.tables e below (s₁.setTop (mkF m 0 #[.val (.ref w_AT_LEAST)] [])) t → Steps p.tables e below (s₁.setTop (entryFrame m #[(.ref w_AT_LEAST)] 1)) t := fun t k => castTop (ef_1_R m w_AT_LEAST) k
  have G' := G
  obtain ⟨S_w_AT_MOST, E_w_AT_MOST, S_w_AT_LEAST, E_w_AT_LEAST, S_w_BELOW, E_w_BELOW, S_w_ABOVE, E_w_ABOVE, F_ordinal_w_AT_MOST, F_ordinal_w_ABOVE, F_ordinal_w_AT_LEAST, F_ordinal_w_BELOW⟩ := G'
  obtain ⟨cq1, kq1, q1a, q1b, q1c⟩ := isOf hZ e0 E_w_AT_LEAST
  obtain ⟨_, _, ⟨T1, L1, k1, n1⟩, -, X1, ⟨Lc1, hQ1, l1, y1, z1⟩, st1⟩ := X0.virtualBackUp hx (x := (⟨"com/example/covenantry/covenantry/Direction", "ordinal", "()I"⟩ : MethodName)) (y := (⟨"java/lang/Enum", "ordinal", "()I"⟩ : MethodName)) hown (mvT hZ (hw _ (List.mem_of_getElem? (i := 17) rfl))) (mvT hZ (hw _ (List.mem_of_getElem? (i := 18) rfl))) (mvT hZ (hw _ (List.mem_of_getElem? (i := 19) rfl))) (by decide) (mvT hZ (hw _ (List.mem_of_getElem? (i := 21) rfl))) (mvT hZ (hw _ (List.mem_of_getElem? (i := 20) rfl))) (backOf (W := 0) (c2_2 l Z a0 hw [] w_AT_MOST w_AT_LEAST w_BELOW w_ABOVE h0 n0 Z0 G) hZ (hw _ (List.mem_of_getElem? (i := 23) rfl)) (hw _ (List.mem_of_getElem? (i := 22) rfl)) (by decide) (by decide)) q1a q1c (g := (mkF m 1 #[.val (.ref w_AT_LEAST)] [(.ref w_AT_LEAST)])) rfl (by rw [hml]; rfl) (Steps.refl _) (argsL := []) (rest := []) (lenOf pd___I rfl) rfl (by show 2 * 0 + _ ≤ _; exact Nat.le_of_eq rfl) (hb hby d1_1) (fun _ _ => ⟨rfl, e0, (by decide : 0 + 0 ≤ _), (by decide : 0 + 0 ≤ _)⟩)
  dsimp only [Pt.U, Pt.locs, Pt.cells, Pt.slots] at X1 l1 y1 z1 st1 hQ1
  subst l1 y1 z1
  obtain ⟨rfl, N1q, e1⟩ := hQ1
  have N1 := Fr.app N0 N1q
  obtain ⟨T2, X2, e2, st2⟩ := getS2 X1 hx hZ hown (host := "") (Or.inl (hw _ (List.mem_of_getElem? (i := 38) rfl))) Via.refl e1 S_w_BELOW (g := (mkF m 52 #[.val (.ref w_AT_LEAST)] [])) rfl (hb hby d1_52)
  obtain ⟨fs, hr, hrun, hended, hW, hsame⟩ := X2.leave (v := some (.ref w_BELOW)) (fun h => by rw [Bd.returns] at h; cases h)
  refine ⟨_, _, pre0 _ ?_, hrun, hended, _, _, rfl, ?_, ⟨_, rfl⟩, hW, hsame.mono (by decide) (by decide)⟩
  · show Steps p.tables e below (s₁.setTop (mkF m 0 #[.val (.ref w_AT_LEAST)] [])) _
    refine XS.aloadN X0.here hx rfl (hb hby d1_0) rfl rfl ?_
    show Steps p.tables e below (s₁.setTop (mkF m 1 #[.val (.ref w_AT_LEAST)] [(.ref w_AT_LEAST)])) _
    refine st1.trans ?_
    show Steps p.tables e below (T1.setTop (mkF m 4 #[.val (.ref w_AT_LEAST)] [(.int (1 : Int32))])) _
    refine XS.tswIn X1.here hx rfl (pc0 := 4) (pc' := 52) rfl (hb hby d1_4) rfl (by decide) (o := 48) (by decide) (by decide) (by decide) ?_
    show Steps p.tables e below (T1.setTop (mkF m 52 #[.val (.ref w_AT_LEAST)] [])) _
    refine st2 _ ?_
    show Steps p.tables e below (T2.setTop (mkF m 55 #[.val (.ref w_AT_LEAST)] [(.ref w_BELOW)])) _
    refine XS.goto X2.here hx rfl (pc0 := 55) (pc' := 67) rfl (hb hby d1_55) (by decide) (by decide) ?_
    show Steps p.tables e below (T2.setTop (mkF m 67 #[.val (.ref w_AT_LEAST)] [(.ref w_BELOW)])) _
    exact retOut X2 hx Bd.returns rfl (Or.inr (Or.inr (Or.inr (Or.inr ⟨rfl, rfl, rfl⟩)))) (hb hby d1_67) hr
  · show QR _ h0 n0 _ T2.heap _
    rw [e2]
    exact ⟨rfl, N1, rfl⟩
set_option maxRecDepth 65536 in
set_option maxHeartbeats 40000000 in
theorem c3_2 (l : Launch) (Z : State) (a0 : Array Value) (hw : ∀ d ∈ tables_1, d.before a0 Z = true) (ws : List Jvm.Cond) (w_AT_MOST : Addr) (w_AT_LEAST : Addr) (w_BELOW : Addr) (w_ABOVE : Addr) (h0 : Heap) (n0 : Nat) (Z0 : n0 ≤ h0.size) (G : Glob Z h0 w_AT_MOST w_AT_LEAST w_BELOW w_ABOVE)  :
    MetFree l (⟨"com/example/covenantry/covenantry/Direction", "floor", "()Z"⟩ : MethodName) (head1 (Jvm.Cond.code (⟨"com/example/covenantry/covenantry/Direction", "floor", "()Z"⟩ : MethodName) prog_5_method_6_code 1 (some .boolean) :: ws) ({ frames := 0, cells := 0, slots := 0, locals := 0 } : Room)) (fun a U => a = #[(.ref w_BELOW)] ∧ Z.Warmed39 U.vm ∧ U.heap = h0) (fun _ _ _ _ _ => True) (fun _ U o U' => ∃ v L, o = .returned v ∧ QR (some (.int (0 : Int32))) h0 n0 v U'.heap L ∧ FrameEnd U o U' L ({ frames := 0, cells := 0, slots := 0, locals := 0 } : Room).cells ({ frames := 0, cells := 0, slots := 0, locals := 0 } : Room).slots) := by
  refine MetFree.of_bodySF (plainFor_of_name pn_com_example_covenantry_covenantry_Direction) hisR ?_
  intro p e s m args below meth c s₁ Bd hml0 hP hK
  obtain ⟨rfl, hZ, hh⟩ := hP
  have hx := Bd.exec
  have hby := Bd.bytes
  have hml : c.maxLocals = 1 := hml0
  have hown : s.vm.findClass "com/example/covenantry/covenantry/Direction" = some m.cls := findClass_of_methodNamed Bd.named
  have X0 : Stand p l e ({ frames := 0, cells := 0, slots := 0, locals := 0 } : Room) s m #[(.ref w_BELOW)] below meth c s₁ [] 0 0 := Stand.of_body Bd
  have e0 : s₁.heap = h0 := by rw [← hh, Bd.state]; rfl
  have N0 := Fr.nil n0
  have pre0 : ∀ t, Steps p.tables e below (s₁.setTop (mkF m 0 #[.val (.ref w_BELOW)] [])) t → Steps p.tables e below (s₁.setTop (entryFrame m #[(.ref w_BELOW)] 1)) t := fun t k => castTop (ef_3_R m w_BELOW) k
  have G' := G
  obtain ⟨S_w_AT_MOST, E_w_AT_MOST, S_w_AT_LEAST, E_w_AT_LEAST, S_w_BELOW, E_w_BELOW, S_w_ABOVE, E_w_ABOVE, F_ordinal_w_AT_MOST, F_ordinal_w_ABOVE, F_ordinal_w_AT_LEAST, F_ordinal_w_BELOW⟩ := G'
  obtain ⟨T1, X1, e1, st1⟩ := getS2 X0 hx hZ hown (host := "") (Or.inl (hw _ (List.mem_of_getElem? (i := 32) rfl))) Via.refl e0 S_w_AT_LEAST (g := (mkF m 1 #[.val (.ref w_BELOW)] [(.ref w_BELOW)])) rfl (hb hby d3_1)
  obtain ⟨T2, X2, e2, st2⟩ := getS2 X1 hx hZ hown (host := "") (Or.inl (hw _ (List.mem_of_getElem? (i := 26) rfl))) Via.refl e1 S_w_ABOVE (g := (mkF m 8 #[.val (.ref w_BELOW)] [(.ref w_BELOW)])) rfl (hb hby d3_8)
  obtain ⟨fs, hr, hrun, hended, hW, hsame⟩ := X2.leave (v := some (.int (0 : Int32))) (fun h => by rw [Bd.returns] at h; cases h)
  refine ⟨_, _, pre0 _ ?_, hrun, hended, _, _, rfl, ?_, ⟨_, rfl⟩, hW, hsame.mono (by decide) (by decide)⟩
  · show Steps p.tables e below (s₁.setTop (mkF m 0 #[.val (.ref w_BELOW)] [])) _
    refine XS.aloadN X0.here hx rfl (hb hby d3_0) rfl rfl ?_
    show Steps p.tables e below (s₁.setTop (mkF m 1 #[.val (.ref w_BELOW)] [(.ref w_BELOW)])) _
    refine st1 _ ?_
    show Steps p.tables e below (T1.setTop (mkF m 4 #[.val (.ref w_BELOW)] [(.ref w_AT_LEAST), (.ref w_BELOW)])) _
    refine Jvm.RoadKit.acmp (g := (mkF m 4 #[.val (.ref w_BELOW)] [(.ref w_AT_LEAST), (.ref w_BELOW)])) X1 hx rfl rfl rfl (pc0 := 4) (pc' := 7) (same := false) rfl (hb hby d3_4) rfl (decide_eq_false fun q => (Fld.ne F_ordinal_w_BELOW F_ordinal_w_AT_LEAST (by decide)) (Value.ref.inj q)) (by decide) (by decide) ?_
    show Steps p.tables e below (T1.setTop (mkF m 7 #[.val (.ref w_BELOW)] [])) _
    refine XS.aloadN X1.here hx rfl (hb hby d3_7) rfl rfl ?_
    show Steps p.tables e below (T1.setTop (mkF m 8 #[.val (.ref w_BELOW)] [(.ref w_BELOW)])) _
    refine st2 _ ?_
    show Steps p.tables e below (T2.setTop (mkF m 11 #[.val (.ref w_BELOW)] [(.ref w_ABOVE), (.ref w_BELOW)])) _
    refine Jvm.RoadKit.acmp (g := (mkF m 11 #[.val (.ref w_BELOW)] [(.ref w_ABOVE), (.ref w_BELOW)])) X2 hx rfl rfl rfl (pc0 := 11) (pc' := 18) (same := false) rfl (hb hby d3_11) rfl (decide_eq_false fun q => (Fld.ne F_ordinal_w_BELOW F_ordinal_w_ABOVE (by decide)) (Value.ref.inj q)) (by decide) (by decide) ?_
    show Steps p.tables e below (T2.setTop (mkF m 18 #[.val (.ref w_BELOW)] [])) _
    refine XS.iconst X2.here hx rfl (hb hby d3_18) ?_
    show Steps p.tables e below (T2.setTop (mkF m 19 #[.val (.ref w_BELOW)] [(.int (0 : Int32))])) _
    exact retOut X2 hx Bd.returns rfl (Or.inl ⟨rfl, Or.inr (Or.inl rfl), _, rfl⟩) (hb hby d3_19) hr
  · show QR _ h0 n0 _ T2.heap _
    rw [e2]
    exact ⟨rfl, N0, rfl⟩
set_option maxRecDepth 65536 in
set_option maxHeartbeats 40000000 in
theorem c3_3 (l : Launch) (Z : State) (a0 : Array Value) (hw : ∀ d ∈ tables_1, d.before a0 Z = true) (ws : List Jvm.Cond) (w_AT_MOST : Addr) (w_AT_LEAST : Addr) (w_BELOW : Addr) (w_ABOVE : Addr) (h0 : Heap) (n0 : Nat) (Z0 : n0 ≤ h0.size) (G : Glob Z h0 w_AT_MOST w_AT_LEAST w_BELOW w_ABOVE)  :
    MetFree l (⟨"com/example/covenantry/covenantry/Direction", "floor", "()Z"⟩ : MethodName) (head1 (Jvm.Cond.code (⟨"com/example/covenantry/covenantry/Direction", "floor", "()Z"⟩ : MethodName) prog_5_method_6_code 1 (some .boolean) :: ws) ({ frames := 0, cells := 0, slots := 0, locals := 0 } : Room)) (fun a U => a = #[(.ref w_AT_LEAST)] ∧ Z.Warmed39 U.vm ∧ U.heap = h0) (fun _ _ _ _ _ => True) (fun _ U o U' => ∃ v L, o = .returned v ∧ QR (some (.int (1 : Int32))) h0 n0 v U'.heap L ∧ FrameEnd U o U' L ({ frames := 0, cells := 0, slots := 0, locals := 0 } : Room).cells ({ frames := 0, cells := 0, slots := 0, locals := 0 } : Room).slots) := by
  refine MetFree.of_bodySF (plainFor_of_name pn_com_example_covenantry_covenantry_Direction) hisR ?_
  intro p e s m args below meth c s₁ Bd hml0 hP hK
  obtain ⟨rfl, hZ, hh⟩ := hP
  have hx := Bd.exec
  have hby := Bd.bytes
  have hml : c.maxLocals = 1 := hml0
  have hown : s.vm.findClass "com/example/covenantry/covenantry/Direction" = some m.cls := findClass_of_methodNamed Bd.named
  have X0 : Stand p l e ({ frames := 0, cells := 0, slots := 0, locals := 0 } : Room) s m #[(.ref w_AT_LEAST)] below meth c s₁ [] 0 0 := Stand.of_body Bd
  have e0 : s₁.heap = h0 := by rw [← hh, Bd.state]; rfl
  have N0 := Fr.nil n0
  have pre0 : ∀ t, Steps p.tables e below (s₁.setTop (mkF m 0 #[.val (.ref w_AT_LEAST)] [])) t → Steps p.tables e below (s₁.setTop (entryFrame m #[(.ref w_AT_LEAST)] 1)) t := fun t k => castTop (ef_3_R m w_AT_LEAST) k
  have G' := G
  obtain ⟨S_w_AT_MOST, E_w_AT_MOST, S_w_AT_LEAST, E_w_AT_LEAST, S_w_BELOW, E_w_BELOW, S_w_ABOVE, E_w_ABOVE, F_ordinal_w_AT_MOST, F_ordinal_w_ABOVE, F_ordinal_w_AT_LEAST, F_ordinal_w_BELOW⟩ := G'
  obtain ⟨T1, X1, e1, st1⟩ := getS2 X0 hx hZ hown (host := "") (Or.inl (hw _ (List.mem_of_getElem? (i := 32) rfl))) Via.refl e0 S_w_AT_LEAST (g := (mkF m 1 #[.val (.ref w_AT_LEAST)] [(.ref w_AT_LEAST)])) rfl (hb hby d3_1)
  obtain ⟨fs, hr, hrun, hended, hW, hsame⟩ := X1.leave (v := some (.int (1 : Int32))) (fun h => by rw [Bd.returns] at h; cases h)
  refine ⟨_, _, pre0 _ ?_, hrun, hended, _, _, rfl, ?_, ⟨_, rfl⟩, hW, hsame.mono (by decide) (by decide)⟩
  · show Steps p.tables e below (s₁.setTop (mkF m 0 #[.val (.ref w_AT_LEAST)] [])) _
    refine XS.aloadN X0.here hx rfl (hb hby d3_0) rfl rfl ?_
    show Steps p.tables e below (s₁.setTop (mkF m 1 #[.val (.ref w_AT_LEAST)] [(.ref w_AT_LEAST)])) _
    refine st1 _ ?_
    show Steps p.tables e below (T1.setTop (mkF m 4 #[.val (.ref w_AT_LEAST)] [(.ref w_AT_LEAST), (.ref w_AT_LEAST)])) _
    refine Jvm.RoadKit.acmp (g := (mkF m 4 #[.val (.ref w_AT_LEAST)] [(.ref w_AT_LEAST), (.ref w_AT_LEAST)])) X1 hx rfl rfl rfl (pc0 := 4) (pc' := 14) (same := true) rfl (hb hby d3_4) rfl (decide_eq_true rfl) (by decide) (by decide) ?_
    show Steps p.tables e below (T1.setTop (mkF m 14 #[.val (.ref w_AT_LEAST)] [])) _
    refine XS.iconst X1.here hx rfl (hb hby d3_14) ?_
    show Steps p.tables e below (T1.setTop (mkF m 15 #[.val (.ref w_AT_LEAST)] [(.int (1 : Int32))])) _
    refine XS.goto X1.here hx rfl (pc0 := 15) (pc' := 19) rfl (hb hby d3_15) (by decide) (by decide) ?_
    show Steps p.tables e below (T1.setTop (mkF m 19 #[.val (.ref w_AT_LEAST)] [(.int (1 : Int32))])) _
    exact retOut X1 hx Bd.returns rfl (Or.inl ⟨rfl, Or.inr (Or.inl rfl), _, rfl⟩) (hb hby d3_19) hr
  · show QR _ h0 n0 _ T1.heap _
    rw [e1]
    exact ⟨rfl, N0, rfl⟩
set_option maxRecDepth 65536 in
set_option maxHeartbeats 40000000 in
theorem c4_2 (l : Launch) (Z : State) (a0 : Array Value) (hw : ∀ d ∈ tables_1, d.before a0 Z = true) (ws : List Jvm.Cond) (w_AT_MOST : Addr) (w_AT_LEAST : Addr) (w_BELOW : Addr) (w_ABOVE : Addr) (h0 : Heap) (n0 : Nat) (Z0 : n0 ≤ h0.size) (G : Glob Z h0 w_AT_MOST w_AT_LEAST w_BELOW w_ABOVE)  :
    MetFree l (⟨"com/example/covenantry/covenantry/DirectionOppositePinLaw", "strict", "(Lcom/example/covenantry/covenantry/Direction;)Z"⟩ : MethodName) (head1 (Jvm.Cond.code (⟨"com/example/covenantry/covenantry/DirectionOppositePinLaw", "strict", "(Lcom/example/covenantry/covenantry/Direction;)Z"⟩ : MethodName) method_3_code 1 (some .boolean) :: ws) ({ frames := 0, cells := 0, slots := 0, locals := 0 } : Room)) (fun a U => a = #[(.ref w_BELOW)] ∧ Z.Warmed39 U.vm ∧ U.heap = h0) (fun _ _ _ _ _ => True) (fun _ U o U' => ∃ v L, o = .returned v ∧ QR (some (.int (1 : Int32))) h0 n0 v U'.heap L ∧ FrameEnd U o U' L ({ frames := 0, cells := 0, slots := 0, locals := 0 } : Room).cells ({ frames := 0, cells := 0, slots := 0, locals := 0 } : Room).slots) := by
  refine MetFree.of_bodySF (plainFor_of_name pn_com_example_covenantry_covenantry_DirectionOppositePinLaw) hisR ?_
  intro p e s m args below meth c s₁ Bd hml0 hP hK
  obtain ⟨rfl, hZ, hh⟩ := hP
  have hx := Bd.exec
  have hby := Bd.bytes
  have hml : c.maxLocals = 1 := hml0
  have hown : s.vm.findClass "com/example/covenantry/covenantry/DirectionOppositePinLaw" = some m.cls := findClass_of_methodNamed Bd.named
  have X0 : Stand p l e ({ frames := 0, cells := 0, slots := 0, locals := 0 } : Room) s m #[(.ref w_BELOW)] below meth c s₁ [] 0 0 := Stand.of_body Bd
  have e0 : s₁.heap = h0 := by rw [← hh, Bd.state]; rfl
  have N0 := Fr.nil n0
  have pre0 : ∀ t, Steps p.tables e below (s₁.setTop (mkF m 0 #[.val (.ref w_BELOW)] [])) t → Steps p.tables e below (s₁.setTop (entryFrame m #[(.ref w_BELOW)] 1)) t := fun t k => castTop (ef_4_R m w_BELOW) k
  have G' := G
  obtain ⟨S_w_AT_MOST, E_w_AT_MOST, S_w_AT_LEAST, E_w_AT_LEAST, S_w_BELOW, E_w_BELOW, S_w_ABOVE, E_w_ABOVE, F_ordinal_w_AT_MOST, F_ordinal_w_ABOVE, F_ordinal_w_AT_LEAST, F_ordinal_w_BELOW⟩ := G'
  obtain ⟨T1, X1, e1, st1⟩ := getS2 X0 hx hZ hown (host := "") (Or.inl (hw _ (List.mem_of_getElem? (i := 8) rfl))) Via.refl e0 S_w_BELOW (g := (mkF m 1 #[.val (.ref w_BELOW)] [(.ref w_BELOW)])) rfl (hb hby d4_1)
  obtain ⟨fs, hr, hrun, hended, hW, hsame⟩ := X1.leave (v := some (.int (1 : Int32))) (fun h => by rw [Bd.returns] at h; cases h)
  refine ⟨_, _, pre0 _ ?_, hrun, hended, _, _, rfl, ?_, ⟨_, rfl⟩, hW, hsame.mono (by decide) (by decide)⟩
  · show Steps p.tables e below (s₁.setTop (mkF m 0 #[.val (.ref w_BELOW)] [])) _
    refine XS.aloadN X0.here hx rfl (hb hby d4_0) rfl rfl ?_
    show Steps p.tables e below (s₁.setTop (mkF m 1 #[.val (.ref w_BELOW)] [(.ref w_BELOW)])) _
    refine st1 _ ?_
    show Steps p.tables e below (T1.setTop (mkF m 4 #[.val (.ref w_BELOW)] [(.ref w_BELOW), (.ref w_BELOW)])) _
    refine Jvm.RoadKit.acmp (g := (mkF m 4 #[.val (.ref w_BELOW)] [(.ref w_BELOW), (.ref w_BELOW)])) X1 hx rfl rfl rfl (pc0 := 4) (pc' := 14) (same := true) rfl (hb hby d4_4) rfl (decide_eq_true rfl) (by decide) (by decide) ?_
    show Steps p.tables e below (T1.setTop (mkF m 14 #[.val (.ref w_BELOW)] [])) _
    refine XS.iconst X1.here hx rfl (hb hby d4_14) ?_
    show Steps p.tables e below (T1.setTop (mkF m 15 #[.val (.ref w_BELOW)] [(.int (1 : Int32))])) _
    refine XS.goto X1.here hx rfl (pc0 := 15) (pc' := 19) rfl (hb hby d4_15) (by decide) (by decide) ?_
    show Steps p.tables e below (T1.setTop (mkF m 19 #[.val (.ref w_BELOW)] [(.int (1 : Int32))])) _
    exact retOut X1 hx Bd.returns rfl (Or.inl ⟨rfl, Or.inr (Or.inl rfl), _, rfl⟩) (hb hby d4_19) hr
  · show QR _ h0 n0 _ T1.heap _
    rw [e1]
    exact ⟨rfl, N0, rfl⟩
set_option maxRecDepth 65536 in
set_option maxHeartbeats 40000000 in
theorem c4_3 (l : Launch) (Z : State) (a0 : Array Value) (hw : ∀ d ∈ tables_1, d.before a0 Z = true) (ws : List Jvm.Cond) (w_AT_MOST : Addr) (w_AT_LEAST : Addr) (w_BELOW : Addr) (w_ABOVE : Addr) (h0 : Heap) (n0 : Nat) (Z0 : n0 ≤ h0.size) (G : Glob Z h0 w_AT_MOST w_AT_LEAST w_BELOW w_ABOVE)  :
    MetFree l (⟨"com/example/covenantry/covenantry/DirectionOppositePinLaw", "strict", "(Lcom/example/covenantry/covenantry/Direction;)Z"⟩ : MethodName) (head1 (Jvm.Cond.code (⟨"com/example/covenantry/covenantry/DirectionOppositePinLaw", "strict", "(Lcom/example/covenantry/covenantry/Direction;)Z"⟩ : MethodName) method_3_code 1 (some .boolean) :: ws) ({ frames := 0, cells := 0, slots := 0, locals := 0 } : Room)) (fun a U => a = #[(.ref w_AT_LEAST)] ∧ Z.Warmed39 U.vm ∧ U.heap = h0) (fun _ _ _ _ _ => True) (fun _ U o U' => ∃ v L, o = .returned v ∧ QR (some (.int (0 : Int32))) h0 n0 v U'.heap L ∧ FrameEnd U o U' L ({ frames := 0, cells := 0, slots := 0, locals := 0 } : Room).cells ({ frames := 0, cells := 0, slots := 0, locals := 0 } : Room).slots) := by
  refine MetFree.of_bodySF (plainFor_of_name pn_com_example_covenantry_covenantry_DirectionOppositePinLaw) hisR ?_
  intro p e s m args below meth c s₁ Bd hml0 hP hK
  obtain ⟨rfl, hZ, hh⟩ := hP
  have hx := Bd.exec
  have hby := Bd.bytes
  have hml : c.maxLocals = 1 := hml0
  have hown : s.vm.findClass "com/example/covenantry/covenantry/DirectionOppositePinLaw" = some m.cls := findClass_of_methodNamed Bd.named
  have X0 : Stand p l e ({ frames := 0, cells := 0, slots := 0, locals := 0 } : Room) s m #[(.ref w_AT_LEAST)] below meth c s₁ [] 0 0 := Stand.of_body Bd
  have e0 : s₁.heap = h0 := by rw [← hh, Bd.state]; rfl
  have N0 := Fr.nil n0
  have pre0 : ∀ t, Steps p.tables e below (s₁.setTop (mkF m 0 #[.val (.ref w_AT_LEAST)] [])) t → Steps p.tables e below (s₁.setTop (entryFrame m #[(.ref w_AT_LEAST)] 1)) t := fun t k => castTop (ef_4_R m w_AT_LEAST) k
  have G' := G
  obtain ⟨S_w_AT_MOST, E_w_AT_MOST, S_w_AT_LEAST, E_w_AT_LEAST, S_w_BELOW, E_w_BELOW, S_w_ABOVE, E_w_ABOVE, F_ordinal_w_AT_MOST, F_ordinal_w_ABOVE, F_ordinal_w_AT_LEAST, F_ordinal_w_BELOW⟩ := G'
  obtain ⟨T1, X1, e1, st1⟩ := getS2 X0 hx hZ hown (host := "") (Or.inl (hw _ (List.mem_of_getElem? (i := 8) rfl))) Via.refl e0 S_w_BELOW (g := (mkF m 1 #[.val (.ref w_AT_LEAST)] [(.ref w_AT_LEAST)])) rfl (hb hby d4_1)
  obtain ⟨T2, X2, e2, st2⟩ := getS2 X1 hx hZ hown (host := "") (Or.inl (hw _ (List.mem_of_getElem? (i := 10) rfl))) Via.refl e1 S_w_ABOVE (g := (mkF m 8 #[.val (.ref w_AT_LEAST)] [(.ref w_AT_LEAST)])) rfl (hb hby d4_8)
  obtain ⟨fs, hr, hrun, hended, hW, hsame⟩ := X2.leave (v := some (.int (0 : Int32))) (fun h => by rw [Bd.returns] at h; cases h)
  refine ⟨_, _, pre0 _ ?_, hrun, hended, _, _, rfl, ?_, ⟨_, rfl⟩, hW, hsame.mono (by decide) (by decide)⟩
  · show Steps p.tables e below (s₁.setTop (mkF m 0 #[.val (.ref w_AT_LEAST)] [])) _
    refine XS.aloadN X0.here hx rfl (hb hby d4_0) rfl rfl ?_
    show Steps p.tables e below (s₁.setTop (mkF m 1 #[.val (.ref w_AT_LEAST)] [(.ref w_AT_LEAST)])) _
    refine st1 _ ?_
    show Steps p.tables e below (T1.setTop (mkF m 4 #[.val (.ref w_AT_LEAST)] [(.ref w_BELOW), (.ref w_AT_LEAST)])) _
    refine Jvm.RoadKit.acmp (g := (mkF m 4 #[.val (.ref w_AT_LEAST)] [(.ref w_BELOW), (.ref w_AT_LEAST)])) X1 hx rfl rfl rfl (pc0 := 4) (pc' := 7) (same := false) rfl (hb hby d4_4) rfl (decide_eq_false fun q => (Fld.ne F_ordinal_w_AT_LEAST F_ordinal_w_BELOW (by decide)) (Value.ref.inj q)) (by decide) (by decide) ?_
    show Steps p.tables e below (T1.setTop (mkF m 7 #[.val (.ref w_AT_LEAST)] [])) _
    refine XS.aloadN X1.here hx rfl (hb hby d4_7) rfl rfl ?_
    show Steps p.tables e below (T1.setTop (mkF m 8 #[.val (.ref w_AT_LEAST)] [(.ref w_AT_LEAST)])) _
    refine st2 _ ?_
    show Steps p.tables e below (T2.setTop (mkF m 11 #[.val (.ref w_AT_LEAST)] [(.ref w_ABOVE), (.ref w_AT_LEAST)])) _
    refine Jvm.RoadKit.acmp (g := (mkF m 11 #[.val (.ref w_AT_LEAST)] [(.ref w_ABOVE), (.ref w_AT_LEAST)])) X2 hx rfl rfl rfl (pc0 := 11) (pc' := 18) (same := false) rfl (hb hby d4_11) rfl (decide_eq_false fun q => (Fld.ne F_ordinal_w_AT_LEAST F_ordinal_w_ABOVE (by decide)) (Value.ref.inj q)) (by decide) (by decide) ?_
    show Steps p.tables e below (T2.setTop (mkF m 18 #[.val (.ref w_AT_LEAST)] [])) _
    refine XS.iconst X2.here hx rfl (hb hby d4_18) ?_
    show Steps p.tables e below (T2.setTop (mkF m 19 #[.val (.ref w_AT_LEAST)] [(.int (0 : Int32))])) _
    exact retOut X2 hx Bd.returns rfl (Or.inl ⟨rfl, Or.inr (Or.inl rfl), _, rfl⟩) (hb hby d4_19) hr
  · show QR _ h0 n0 _ T2.heap _
    rw [e2]
    exact ⟨rfl, N0, rfl⟩
set_option maxRecDepth 65536 in
set_option maxHeartbeats 40000000 in
theorem c2_3 (l : Launch) (Z : State) (a0 : Array Value) (hw : ∀ d ∈ tables_1, d.before a0 Z = true) (ws : List Jvm.Cond) (w_AT_MOST : Addr) (w_AT_LEAST : Addr) (w_BELOW : Addr) (w_ABOVE : Addr) (h0 : Heap) (n0 : Nat) (Z0 : n0 ≤ h0.size) (G : Glob Z h0 w_AT_MOST w_AT_LEAST w_BELOW w_ABOVE)  :
    MetFree l (⟨"java/lang/Enum", "ordinal", "()I"⟩ : MethodName) (head1 (Jvm.Cond.code (⟨"java/lang/Enum", "ordinal", "()I"⟩ : MethodName) jdk_37_method_2_code 1 (some .int) :: ws) ({ frames := 0, cells := 0, slots := 0, locals := 0 } : Room)) (fun a U => a = #[(.ref w_BELOW)] ∧ Z.Warmed39 U.vm ∧ U.heap = h0) (fun _ _ _ _ _ => True) (fun _ U o U' => ∃ v L, o = .returned v ∧ QR (some (.int (2 : Int32))) h0 n0 v U'.heap L ∧ FrameEnd U o U' L ({ frames := 0, cells := 0, slots := 0, locals := 0 } : Room).cells ({ frames := 0, cells := 0, slots := 0, locals := 0 } : Room).slots) := by
  refine MetFree.of_bodySF (plainFor_of_name pn_java_lang_Enum) hisR ?_
  intro p e s m args below meth c s₁ Bd hml0 hP hK
  obtain ⟨rfl, hZ, hh⟩ := hP
  have hx := Bd.exec
  have hby := Bd.bytes
  have hml : c.maxLocals = 1 := hml0
  have hown : s.vm.findClass "java/lang/Enum" = some m.cls := findClass_of_methodNamed Bd.named
  have X0 : Stand p l e ({ frames := 0, cells := 0, slots := 0, locals := 0 } : Room) s m #[(.ref w_BELOW)] below meth c s₁ [] 0 0 := Stand.of_body Bd
  have e0 : s₁.heap = h0 := by rw [← hh, Bd.state]; rfl
  have N0 := Fr.nil n0
  have pre0 : ∀ t, Steps p.tables e below (s₁.setTop (mkF m 0 #[.val (.ref w_BELOW)] [])) t → Steps p.tables e below (s₁.setTop (entryFrame m #[(.ref w_BELOW)] 1)) t := fun t k => castTop (ef_2_R m w_BELOW) k
  have G' := G
  obtain ⟨S_w_AT_MOST, E_w_AT_MOST, S_w_AT_LEAST, E_w_AT_LEAST, S_w_BELOW, E_w_BELOW, S_w_ABOVE, E_w_ABOVE, F_ordinal_w_AT_MOST, F_ordinal_w_ABOVE, F_ordinal_w_AT_LEAST, F_ordinal_w_BELOW⟩ := G'
  obtain ⟨T1, X1, e1, st1⟩ := getF X0 hx hZ hown (host := "") (Or.inl (hw _ (List.mem_of_getElem? (i := 24) rfl))) Via.refl e0 F_ordinal_w_BELOW (g := (mkF m 1 #[.val (.ref w_BELOW)] [(.ref w_BELOW)])) rfl rfl (hb hby d2_1)
  obtain ⟨fs, hr, hrun, hended, hW, hsame⟩ := X1.leave (v := some (.int (2 : Int32))) (fun h => by rw [Bd.returns] at h; cases h)
  refine ⟨_, _, pre0 _ ?_, hrun, hended, _, _, rfl, ?_, ⟨_, rfl⟩, hW, hsame.mono (by decide) (by decide)⟩
  · show Steps p.tables e below (s₁.setTop (mkF m 0 #[.val (.ref w_BELOW)] [])) _
    refine XS.aloadN X0.here hx rfl (hb hby d2_0) rfl rfl ?_
    show Steps p.tables e below (s₁.setTop (mkF m 1 #[.val (.ref w_BELOW)] [(.ref w_BELOW)])) _
    refine st1 _ ?_
    show Steps p.tables e below (T1.setTop (mkF m 4 #[.val (.ref w_BELOW)] [(.int (2 : Int32))])) _
    exact retOut X1 hx Bd.returns rfl (Or.inl ⟨rfl, Or.inl rfl, _, rfl⟩) (hb hby d2_4) hr
  · show QR _ h0 n0 _ T1.heap _
    rw [e1]
    exact ⟨rfl, N0, rfl⟩
theorem d1_58 : decode prog_5_method_9_code 58 = .ok (.getstatic 7, 3) := by decide +kernel
theorem d1_61 : decode prog_5_method_9_code 61 = .ok (.goto 6, 3) := by decide +kernel
set_option maxRecDepth 65536 in
set_option maxHeartbeats 40000000 in
theorem c1_3 (l : Launch) (Z : State) (a0 : Array Value) (hw : ∀ d ∈ tables_1, d.before a0 Z = true) (ws : List Jvm.Cond) (w_AT_MOST : Addr) (w_AT_LEAST : Addr) (w_BELOW : Addr) (w_ABOVE : Addr) (h0 : Heap) (n0 : Nat) (Z0 : n0 ≤ h0.size) (G : Glob Z h0 w_AT_MOST w_AT_LEAST w_BELOW w_ABOVE)  :
    MetFree l (⟨"com/example/covenantry/covenantry/Direction", "opposite", "()Lcom/example/covenantry/covenantry/Direction;"⟩ : MethodName) (head1 (Jvm.Cond.code (⟨"com/example/covenantry/covenantry/Direction", "opposite", "()Lcom/example/covenantry/covenantry/Direction;"⟩ : MethodName) prog_5_method_9_code 1 (some (.object "com/example/covenantry/covenantry/Direction")) :: ws) ({ frames := 1, cells := 0, slots := 0, locals := 12 } : Room)) (fun a U => a = #[(.ref w_BELOW)] ∧ Z.Warmed39 U.vm ∧ U.heap = h0) (fun _ _ _ _ _ => True) (fun _ U o U' => ∃ v L, o = .returned v ∧ QR (some (.ref w_AT_LEAST)) h0 n0 v U'.heap L ∧ FrameEnd U o U' L ({ frames := 1, cells := 0, slots := 0, locals := 12 } : Room).cells ({ frames := 1, cells := 0, slots := 0, locals := 12 } : Room).slots) := by
  refine MetFree.of_bodySF (plainFor_of_name pn_com_example_covenantry_covenantry_Direction) hisR ?_
  intro p e s m args below meth c s₁ Bd hml0 hP hK
  obtain ⟨rfl, hZ, hh⟩ := hP
  have hx := Bd.exec
  have hby := Bd.bytes
  have hml : c.maxLocals = 1 := hml0
  have hown : s.vm.findClass "com/example/covenantry/covenantry/Direction" = some m.cls := findClass_of_methodNamed Bd.named
  have X0 : Stand p l e ({ frames := 1, cells := 0, slots := 0, locals := 12 } : Room) s m #[(.ref w_BELOW)] below meth c s₁ [] 0 0 := Stand.of_body Bd
  have e0 : s₁.heap = h0 := by rw [← hh, Bd.state]; rfl
  have N0 := Fr.nil n0
  have pre0 : ∀ t, Steps p.tables e below (s₁.setTop (mkF m 0 #[.val (.ref w_BELOW)] [])) t → Steps p.tables e below (s₁.setTop (entryFrame m #[(.ref w_BELOW)] 1)) t := fun t k => castTop (ef_1_R m w_BELOW) k
  have G' := G
  obtain ⟨S_w_AT_MOST, E_w_AT_MOST, S_w_AT_LEAST, E_w_AT_LEAST, S_w_BELOW, E_w_BELOW, S_w_ABOVE, E_w_ABOVE, F_ordinal_w_AT_MOST, F_ordinal_w_ABOVE, F_ordinal_w_AT_LEAST, F_ordinal_w_BELOW⟩ := G'
  obtain ⟨cq1, kq1, q1a, q1b, q1c⟩ := isOf hZ e0 E_w_BELOW
  obtain ⟨_, _, ⟨T1, L1, k1, n1⟩, -, X1, ⟨Lc1, hQ1, l1, y1, z1⟩, st1⟩ := X0.virtualBackUp hx (x := (⟨"com/example/covenantry/covenantry/Direction", "ordinal", "()I"⟩ : MethodName)) (y := (⟨"java/lang/Enum", "ordinal", "()I"⟩ : MethodName)) hown (mvT hZ (hw _ (List.mem_of_getElem? (i := 17) rfl))) (mvT hZ (hw _ (List.mem_of_getElem? (i := 18) rfl))) (mvT hZ (hw _ (List.mem_of_getElem? (i := 19) rfl))) (by decide) (mvT hZ (hw _ (List.mem_of_getElem? (i := 21) rfl))) (mvT hZ (hw _ (List.mem_of_getElem? (i := 20) rfl))) (backOf (W := 0) (c2_3 l Z a0 hw [] w_AT_MOST w_AT_LEAST w_BELOW w_ABOVE h0 n0 Z0 G) hZ (hw _ (List.mem_of_getElem? (i := 23) rfl)) (hw _ (List.mem_of_getElem? (i := 22) rfl)) (by decide) (by decide)) q1a q1c (g := (mkF m 1 #[.val (.ref w_BELOW)] [(.ref w_BELOW)])) rfl (by rw [hml]; rfl) (Steps.refl _) (argsL := []) (rest := []) (lenOf pd___I rfl) rfl (by show 2 * 0 + _ ≤ _; exact Nat.le_of_eq rfl) (hb hby d1_1) (fun _ _ => ⟨rfl, e0, (by decide : 0 + 0 ≤ _), (by decide : 0 + 0 ≤ _)⟩)
  dsimp only [Pt.U, Pt.locs, Pt.cells, Pt.slots] at X1 l1 y1 z1 st1 hQ1
  subst l1 y1 z1
  obtain ⟨rfl, N1q, e1⟩ := hQ1
  have N1 := Fr.app N0 N1q
  obtain ⟨T2, X2, e2, st2⟩ := getS2 X1 hx hZ hown (host := "") (Or.inl (hw _ (List.mem_of_getElem? (i := 32) rfl))) Via.refl e1 S_w_AT_LEAST (g := (mkF m 58 #[.val (.ref w_BELOW)] [])) rfl (hb hby d1_58)
  obtain ⟨fs, hr, hrun, hended, hW, hsame⟩ := X2.leave (v := some (.ref w_AT_LEAST)) (fun h => by rw [Bd.returns] at h; cases h)
  refine ⟨_, _, pre0 _ ?_, hrun, hended, _, _, rfl, ?_, ⟨_, rfl⟩, hW, hsame.mono (by decide) (by decide)⟩
  · show Steps p.tables e below (s₁.setTop (mkF m 0 #[.val (.ref w_BELOW)] [])) _
    refine XS.aloadN X0.here hx rfl (hb hby d1_0) rfl rfl ?_
    show Steps p.tables e below (s₁.setTop (mkF m 1 #[.val (.ref w_BELOW)] [(.ref w_BELOW)])) _
    refine st1.trans ?_
    show Steps p.tables e below (T1.setTop (mkF m 4 #[.val (.ref w_BELOW)] [(.int (2 : Int32))])) _
    refine XS.tswIn X1.here hx rfl (pc0 := 4) (pc' := 58) rfl (hb hby d1_4) rfl (by decide) (o := 54) (by decide) (by decide) (by decide) ?_
    show Steps p.tables e below (T1.setTop (mkF m 58 #[.val (.ref w_BELOW)] [])) _
    refine st2 _ ?_
    show Steps p.tables e below (T2.setTop (mkF m 61 #[.val (.ref w_BELOW)] [(.ref w_AT_LEAST)])) _
    refine XS.goto X2.here hx rfl (pc0 := 61) (pc' := 67) rfl (hb hby d1_61) (by decide) (by decide) ?_
    show Steps p.tables e below (T2.setTop (mkF m 67 #[.val (.ref w_BELOW)] [(.ref w_AT_LEAST)])) _
    exact retOut X2 hx Bd.returns rfl (Or.inr (Or.inr (Or.inr (Or.inr ⟨rfl, rfl, rfl⟩)))) (hb hby d1_67) hr
  · show QR _ h0 n0 _ T2.heap _
    rw [e2]
    exact ⟨rfl, N1, rfl⟩
set_option maxRecDepth 65536 in
set_option maxHeartbeats 40000000 in
theorem law_1 (l : Launch) (Z : State) (a0 : Array Value) (hw : ∀ d ∈ tables_1, d.before a0 Z = true) (ws : List Jvm.Cond) (w_AT_MOST : Addr) (w_AT_LEAST : Addr) (w_BELOW : Addr) (w_ABOVE : Addr) (h0 : Heap) (n0 : Nat) (Z0 : n0 ≤ h0.size) (G : Glob Z h0 w_AT_MOST w_AT_LEAST w_BELOW w_ABOVE) (p0 : Int32) (hi1 : (p0 &&& (3 : Int32)) = (1 : Int32)) :
    MetFree l x (head1 (Jvm.Cond.code x code maxLocals ret :: ws) room_1) (fun a U => a = #[(.int p0)] ∧ Z.Warmed39 U.vm ∧ U.heap = h0) (fun _ _ _ _ _ => True) (fun _ U o U' => ∃ v L, o = .returned v ∧ QL (some (.int (1 : Int32))) h0 n0 v U'.heap L ∧ FrameEnd U o U' L room_1.cells room_1.slots) := by
  refine MetFree.of_bodySF (plainFor_of_name pn_com_example_covenantry_covenantry_DirectionOppositePinLaw) hisR ?_
  intro p e s m args below meth c s₁ Bd hml0 hP hK
  obtain ⟨rfl, hZ, hh⟩ := hP
  have hx := Bd.exec
  have hby := Bd.bytes
  have hml : c.maxLocals = 7 := hml0
  have hown : s.vm.findClass "com/example/covenantry/covenantry/DirectionOppositePinLaw" = some m.cls := findClass_of_methodNamed Bd.named
  have X0 : Stand p l e room_1 s m #[(.int p0)] below meth c s₁ [] 0 0 := Stand.of_body Bd
  have e0 : s₁.heap = h0 := by rw [← hh, Bd.state]; rfl
  have N0 := Fr.nil n0
  have pre0 : ∀ t, Steps p.tables e below (s₁.setTop (mkF m 0 #[.val (.int p0), .unset, .unset, .unset, .unset, .unset, .unset] [])) t → Steps p.tables e below (s₁.setTop (entryFrame m #[(.int p0)] maxLocals)) t := fun t k => castTop (ef_0_I m p0) k
  have G' := G
  obtain ⟨S_w_AT_MOST, E_w_AT_MOST, S_w_AT_LEAST, E_w_AT_LEAST, S_w_BELOW, E_w_BELOW, S_w_ABOVE, E_w_ABOVE, F_ordinal_w_AT_MOST, F_ordinal_w_ABOVE, F_ordinal_w_AT_LEAST, F_ordinal_w_BELOW⟩ := G'
  obtain ⟨T1, h1, k1, X1, e1, E1, A1, O1, st1⟩ := newR X0 hx hZ hown (hw _ (List.mem_of_getElem? (i := 0) rfl)) (hw _ (List.mem_of_getElem? (i := 1) rfl)) e0 (g := (mkF m 1 #[.val (.int p0), .unset, .unset, .unset, .unset, .unset, .unset] [(.int (4 : Int32))])) rfl (hb hby at_1) rfl (by decide) (cap := 4) (by decide) (by decide) (by decide) (by decide)
  obtain ⟨b1, g1⟩ : ∃ z, z = h0.size := ⟨_, rfl⟩
  rw [← g1] at A1 st1
  have V1 : Arv Z h1 b1 k1 (.object "com/example/covenantry/covenantry/Direction") (4 : Int32) [.null, .null, .null, .null] .null := (Arv.new A1 (by decide)).pad (pad_rep [] .null 4)
  have K1 : Keep h0 h1 [] := (Keep.refl h0 []).ext E1
  have sz_b1 : h0.size ≤ b1 := Nat.le_of_eq g1.symm
  have g_b1 : n0 ≤ b1 := Nat.le_trans Z0 sz_b1
  obtain ⟨T2, X2, e2, st2⟩ := getS2 X1 hx hZ hown (host := "") (Or.inl (hw _ (List.mem_of_getElem? (i := 2) rfl))) Via.refl e1 (own_sta_keep S_w_AT_MOST K1) (g := (mkF m 6 #[.val (.int p0), .unset, .unset, .unset, .unset, .unset, .unset] [(.int (0 : Int32)), (.ref b1), (.ref b1)])) rfl (hb hby at_6)
  obtain ⟨cl3, Ar3, q3, s3, m3, H3, F3⟩ := V1
  have hin3 : ¬ ((0 : Int32) < 0 ∨ cl3.slots.size ≤ ((0 : Int32)).toNatClampNeg) := inb_of s3 ⟨by decide, by decide⟩
  have sto3 : Sto Z h1 b1 (.ref w_AT_MOST) := Sto.ofV Ar3 q3 O1 (Ins.of_exa (E_w_AT_MOST.keep K1) (hw _ (List.mem_of_getElem? (i := 5) rfl)))
  obtain ⟨T3, h3, X3, e3, W3, st3⟩ := stR X2 hx hZ e2 Ar3 (j := (0 : Int32)) hin3 rfl sto3 (g := (mkF m 9 #[.val (.int p0), .unset, .unset, .unset, .unset, .unset, .unset] [(.ref w_AT_MOST), (.int (0 : Int32)), (.ref b1), (.ref b1)])) rfl rfl (hb hby at_9)
  have V3 : Arv Z h3 b1 k1 (.object "com/example/covenantry/covenantry/Direction") (4 : Int32) [(.ref w_AT_MOST), .null, .null, .null] .null := Arv.set Ar3 q3 s3 m3 H3 F3 rfl W3 0 rfl (Nat.le_of_ble_eq_true rfl)
  have K3 : Keep h0 h3 [] := K1.wr W3 (Or.inr sz_b1)
  have N3 := Fr.snoc X3 N0 g_b1
  obtain ⟨T4, X4, e4, st4⟩ := getS2 X3 hx hZ hown (host := "") (Or.inl (hw _ (List.mem_of_getElem? (i := 6) rfl))) Via.refl e3 (own_sta_keep S_w_AT_LEAST K3) (g := (mkF m 12 #[.val (.int p0), .unset, .unset, .unset, .unset, .unset, .unset] [(.int (1 : Int32)), (.ref b1), (.ref b1)])) rfl (hb hby at_12)
  obtain ⟨cl5, Ar5, q5, s5, m5, H5, F5⟩ := V3
  have hin5 : ¬ ((1 : Int32) < 0 ∨ cl5.slots.size ≤ ((1 : Int32)).toNatClampNeg) := inb_of s5 ⟨by decide, by decide⟩
  have sto5 : Sto Z h3 b1 (.ref w_AT_LEAST) := Sto.ofV Ar5 q5 O1 (Ins.of_exa (E_w_AT_LEAST.keep K3) (hw _ (List.mem_of_getElem? (i := 5) rfl)))
  obtain ⟨T5, h5, X5, e5, W5, st5⟩ := stR X4 hx hZ e4 Ar5 (j := (1 : Int32)) hin5 rfl sto5 (g := (mkF m 15 #[.val (.int p0), .unset, .unset, .unset, .unset, .unset, .unset] [(.ref w_AT_LEAST), (.int (1 : Int32)), (.ref b1), (.ref b1)])) rfl rfl (hb hby at_15)
  have V5 : Arv Z h5 b1 k1 (.object "com/example/covenantry/covenantry/Direction") (4 : Int32) [(.ref w_AT_MOST), (.ref w_AT_LEAST), .null, .null] .null := Arv.set Ar5 q5 s5 m5 H5 F5 rfl W5 1 rfl (Nat.le_of_ble_eq_true rfl)
  have K5 : Keep h0 h5 [] := K3.wr W5 (Or.inr sz_b1)
  have N5 := Fr.snoc X5 N3 g_b1
  obtain ⟨T6, X6, e6, st6⟩ := getS2 X5 hx hZ hown (host := "") (Or.inl (hw _ (List.mem_of_getElem? (i := 8) rfl))) Via.refl e5 (own_sta_keep S_w_BELOW K5) (g := (mkF m 18 #[.val (.int p0), .unset, .unset, .unset, .unset, .unset, .unset] [(.int (2 : Int32)), (.ref b1), (.ref b1)])) rfl (hb hby at_18)
  obtain ⟨cl7, Ar7, q7, s7, m7, H7, F7⟩ := V5
  have hin7 : ¬ ((2 : Int32) < 0 ∨ cl7.slots.size ≤ ((2 : Int32)).toNatClampNeg) := inb_of s7 ⟨by decide, by decide⟩
  have sto7 : Sto Z h5 b1 (.ref w_BELOW) := Sto.ofV Ar7 q7 O1 (Ins.of_exa (E_w_BELOW.keep K5) (hw _ (List.mem_of_getElem? (i := 5) rfl)))
  obtain ⟨T7, h7, X7, e7, W7, st7⟩ := stR X6 hx hZ e6 Ar7 (j := (2 : Int32)) hin7 rfl sto7 (g := (mkF m 21 #[.val (.int p0), .unset, .unset, .unset, .unset, .unset, .unset] [(.ref w_BELOW), (.int (2 : Int32)), (.ref b1), (.ref b1)])) rfl rfl (hb hby at_21)
  have V7 : Arv Z h7 b1 k1 (.object "com/example/covenantry/covenantry/Direction") (4 : Int32) [(.ref w_AT_MOST), (.ref w_AT_LEAST), (.ref w_BELOW), .null] .null := Arv.set Ar7 q7 s7 m7 H7 F7 rfl W7 2 rfl (Nat.le_of_ble_eq_true rfl)
  have K7 : Keep h0 h7 [] := K5.wr W7 (Or.inr sz_b1)
  have N7 := Fr.snoc X7 N5 g_b1
  obtain ⟨T8, X8, e8, st8⟩ := getS2 X7 hx hZ hown (host := "") (Or.inl (hw _ (List.mem_of_getElem? (i := 10) rfl))) Via.refl e7 (own_sta_keep S_w_ABOVE K7) (g := (mkF m 24 #[.val (.int p0), .unset, .unset, .unset, .unset, .unset, .unset] [(.int (3 : Int32)), (.ref b1), (.ref b1)])) rfl (hb hby at_24)
  obtain ⟨cl9, Ar9, q9, s9, m9, H9, F9⟩ := V7
  have hin9 : ¬ ((3 : Int32) < 0 ∨ cl9.slots.size ≤ ((3 : Int32)).toNatClampNeg) := inb_of s9 ⟨by decide, by decide⟩
  have sto9 : Sto Z h7 b1 (.ref w_ABOVE) := Sto.ofV Ar9 q9 O1 (Ins.of_exa (E_w_ABOVE.keep K7) (hw _ (List.mem_of_getElem? (i := 5) rfl)))
  obtain ⟨T9, h9, X9, e9, W9, st9⟩ := stR X8 hx hZ e8 Ar9 (j := (3 : Int32)) hin9 rfl sto9 (g := (mkF m 27 #[.val (.int p0), .unset, .unset, .unset, .unset, .unset, .unset] [(.ref w_ABOVE), (.int (3 : Int32)), (.ref b1), (.ref b1)])) rfl rfl (hb hby at_27)
  have V9 : Arv Z h9 b1 k1 (.object "com/example/covenantry/covenantry/Direction") (4 : Int32) [(.ref w_AT_MOST), (.ref w_AT_LEAST), (.ref w_BELOW), (.ref w_ABOVE)] .null := Arv.set Ar9 q9 s9 m9 H9 F9 rfl W9 3 rfl (Nat.le_of_ble_eq_true rfl)
  have K9 : Keep h0 h9 [] := K7.wr W9 (Or.inr sz_b1)
  have N9 := Fr.snoc X9 N7 g_b1
  obtain ⟨cl10, Ar10, q10, s10, m10, H10, F10⟩ := V9
  have hin10 : ¬ ((1 : Int32) < 0 ∨ cl10.slots.size ≤ ((1 : Int32)).toNatClampNeg) := inb_of s10 ⟨by decide, by decide⟩
  have hat10 : cl10.slots[((1 : Int32)).toNatClampNeg]? = some (.ref w_AT_LEAST) := H10.at hin10 rfl
  obtain ⟨cq11, kq11, q11a, q11b, q11c⟩ := isOf hZ e9 (E_w_AT_LEAST.keep K9)
  obtain ⟨_, _, ⟨T11, L11, k11, n11⟩, -, X11, ⟨Lc11, hQ11, l11, y11, z11⟩, st11⟩ := X9.virtualBack hx (y := (⟨"com/example/covenantry/covenantry/Direction", "opposite", "()Lcom/example/covenantry/covenantry/Direction;"⟩ : MethodName)) (z := (⟨"com/example/covenantry/covenantry/Direction", "opposite", "()Lcom/example/covenantry/covenantry/Direction;"⟩ : MethodName)) hown (mvT hZ (hw _ (List.mem_of_getElem? (i := 12) rfl))) (mvT hZ (hw _ (List.mem_of_getElem? (i := 13) rfl))) (notFace_of_selects (args := #[]) (mvT hZ (hw _ (List.mem_of_getElem? (i := 15) rfl)))) (mvT hZ (hw _ (List.mem_of_getElem? (i := 15) rfl))) (mvT hZ (hw _ (List.mem_of_getElem? (i := 14) rfl))) (by decide) (backOf (W := 0) (c1_2 l Z a0 hw [] w_AT_MOST w_AT_LEAST w_BELOW w_ABOVE h9 n0 (Nat.le_trans Z0 K9.1) (G.keep K9)) hZ (hw _ (List.mem_of_getElem? (i := 16) rfl)) (hw _ (List.mem_of_getElem? (i := 3) rfl)) (by decide) (by decide)) q11a q11c (g := (mkF m 36 #[.val (.int p0), .val (.ref b1), .val (.ref w_AT_LEAST), .unset, .unset, .unset, .unset] [(.ref w_AT_LEAST)])) rfl (by rw [hml]; rfl) (Steps.refl _) (argsL := []) (rest := []) (lenOf pd___Lcom_example_covenantry_covenantry_Direction_ rfl) rfl (by show 2 * 0 + _ ≤ _; exact Nat.le_of_eq rfl) (hb hby at_36) (fun _ _ => ⟨rfl, e9, (by decide : 1 + 0 ≤ _), (by decide : 4 + 0 ≤ _)⟩)
  dsimp only [Pt.U, Pt.locs, Pt.cells, Pt.slots] at X11 l11 y11 z11 st11 hQ11
  subst l11 y11 z11
  obtain ⟨rfl, N11q, e11⟩ := hQ11
  have N11 := Fr.app N9 N11q
  obtain ⟨cq12, kq12, q12a, q12b, q12c⟩ := isOf hZ e11 (E_w_BELOW.keep K9)
  obtain ⟨_, _, ⟨T12, L12, k12, n12⟩, -, X12, ⟨Lc12, hQ12, l12, y12, z12⟩, st12⟩ := X11.virtualBack hx (y := (⟨"com/example/covenantry/covenantry/Direction", "floor", "()Z"⟩ : MethodName)) (z := (⟨"com/example/covenantry/covenantry/Direction", "floor", "()Z"⟩ : MethodName)) hown (mvT hZ (hw _ (List.mem_of_getElem? (i := 27) rfl))) (mvT hZ (hw _ (List.mem_of_getElem? (i := 28) rfl))) (notFace_of_selects (args := #[]) (mvT hZ (hw _ (List.mem_of_getElem? (i := 30) rfl)))) (mvT hZ (hw _ (List.mem_of_getElem? (i := 30) rfl))) (mvT hZ (hw _ (List.mem_of_getElem? (i := 29) rfl))) (by decide) (backOf (W := 0) (c3_2 l Z a0 hw [] w_AT_MOST w_AT_LEAST w_BELOW w_ABOVE h9 n0 (Nat.le_trans Z0 K9.1) (G.keep K9)) hZ (hw _ (List.mem_of_getElem? (i := 31) rfl)) (hw _ (List.mem_of_getElem? (i := 3) rfl)) (by decide) (by decide)) q12a q12c (g := (mkF m 47 #[.val (.int p0), .val (.ref b1), .val (.ref w_AT_LEAST), .val (.ref w_BELOW), .unset, .unset, .unset] [(.ref w_BELOW)])) rfl (by rw [hml]; rfl) (Steps.refl _) (argsL := []) (rest := []) (lenOf pd___Z rfl) rfl (by show 2 * 0 + _ ≤ _; exact Nat.le_of_eq rfl) (hb hby at_47) (fun _ _ => ⟨rfl, e11, (by decide : 1 + 0 ≤ _), (by decide : 4 + 0 ≤ _)⟩)
  dsimp only [Pt.U, Pt.locs, Pt.cells, Pt.slots] at X12 l12 y12 z12 st12 hQ12
  subst l12 y12 z12
  obtain ⟨rfl, N12q, e12⟩ := hQ12
  have N12 := Fr.app N11 N12q
  obtain ⟨cq13, kq13, q13a, q13b, q13c⟩ := isOf hZ e12 (E_w_AT_LEAST.keep K9)
  obtain ⟨_, _, ⟨T13, L13, k13, n13⟩, -, X13, ⟨Lc13, hQ13, l13, y13, z13⟩, st13⟩ := X12.virtualBack hx (y := (⟨"com/example/covenantry/covenantry/Direction", "floor", "()Z"⟩ : MethodName)) (z := (⟨"com/example/covenantry/covenantry/Direction", "floor", "()Z"⟩ : MethodName)) hown (mvT hZ (hw _ (List.mem_of_getElem? (i := 27) rfl))) (mvT hZ (hw _ (List.mem_of_getElem? (i := 28) rfl))) (notFace_of_selects (args := #[]) (mvT hZ (hw _ (List.mem_of_getElem? (i := 30) rfl)))) (mvT hZ (hw _ (List.mem_of_getElem? (i := 30) rfl))) (mvT hZ (hw _ (List.mem_of_getElem? (i := 29) rfl))) (by decide) (backOf (W := 1) (c3_3 l Z a0 hw [] w_AT_MOST w_AT_LEAST w_BELOW w_ABOVE h9 n0 (Nat.le_trans Z0 K9.1) (G.keep K9)) hZ (hw _ (List.mem_of_getElem? (i := 31) rfl)) (hw _ (List.mem_of_getElem? (i := 3) rfl)) (by decide) (by decide)) q13a q13c (g := (mkF m 51 #[.val (.int p0), .val (.ref b1), .val (.ref w_AT_LEAST), .val (.ref w_BELOW), .unset, .unset, .unset] [(.ref w_AT_LEAST), (.int (0 : Int32))])) rfl (by rw [hml]; rfl) (Steps.refl _) (argsL := []) (rest := [(.int (0 : Int32))]) (lenOf pd___Z rfl) rfl (by show 2 * 0 + _ ≤ _; exact Nat.le_of_eq rfl) (hb hby at_51) (fun _ _ => ⟨rfl, e12, (by decide : 1 + 0 ≤ _), (by decide : 4 + 0 ≤ _)⟩)
  dsimp only [Pt.U, Pt.locs, Pt.cells, Pt.slots] at X13 l13 y13 z13 st13 hQ13
  subst l13 y13 z13
  obtain ⟨rfl, N13q, e13⟩ := hQ13
  have N13 := Fr.app N12 N13q
  obtain ⟨_, _, ⟨T14, L14, k14, n14⟩, -, X14, ⟨Lc14, hQ14, l14, y14, z14⟩, st14⟩ := Jvm.LawKit.callS X13 hx (y := (⟨"com/example/covenantry/covenantry/DirectionOppositePinLaw", "strict", "(Lcom/example/covenantry/covenantry/Direction;)Z"⟩ : MethodName)) hown (mvT hZ (hw _ (List.mem_of_getElem? (i := 33) rfl))) (mvT hZ (hw _ (List.mem_of_getElem? (i := 34) rfl))) (mvT hZ (hw _ (List.mem_of_getElem? (i := 35) rfl))) (mvT hZ (hw _ (List.mem_of_getElem? (i := 36) rfl))) (by decide) (backOf (W := 0) (c4_2 l Z a0 hw [] w_AT_MOST w_AT_LEAST w_BELOW w_ABOVE h9 n0 (Nat.le_trans Z0 K9.1) (G.keep K9)) hZ (hw _ (List.mem_of_getElem? (i := 36) rfl)) (hw _ (List.mem_of_getElem? (i := 35) rfl)) (by decide) (by decide)) (g := (mkF m 65 #[.val (.int p0), .val (.ref b1), .val (.ref w_AT_LEAST), .val (.ref w_BELOW), .val (.int (1 : Int32)), .unset, .unset] [(.ref w_BELOW)])) rfl (by rw [hml]; rfl) (argsL := [(.ref w_BELOW)]) (rest := []) (lenOf pd__Lcom_example_covenantry_covenantry_Direction__Z rfl) rfl (by show 2 * 0 + _ ≤ _; exact Nat.le_of_eq rfl) (hb hby at_65) (fun _ _ => ⟨rfl, e13, (by decide : 1 + 0 ≤ _), (by decide : 4 + 0 ≤ _)⟩)
  dsimp only [Pt.U, Pt.locs, Pt.cells, Pt.slots] at X14 l14 y14 z14 st14 hQ14
  subst l14 y14 z14
  obtain ⟨rfl, N14q, e14⟩ := hQ14
  have N14 := Fr.app N13 N14q
  obtain ⟨_, _, ⟨T15, L15, k15, n15⟩, -, X15, ⟨Lc15, hQ15, l15, y15, z15⟩, st15⟩ := Jvm.LawKit.callS X14 hx (y := (⟨"com/example/covenantry/covenantry/DirectionOppositePinLaw", "strict", "(Lcom/example/covenantry/covenantry/Direction;)Z"⟩ : MethodName)) hown (mvT hZ (hw _ (List.mem_of_getElem? (i := 33) rfl))) (mvT hZ (hw _ (List.mem_of_getElem? (i := 34) rfl))) (mvT hZ (hw _ (List.mem_of_getElem? (i := 35) rfl))) (mvT hZ (hw _ (List.mem_of_getElem? (i := 36) rfl))) (by decide) (backOf (W := 1) (c4_3 l Z a0 hw [] w_AT_MOST w_AT_LEAST w_BELOW w_ABOVE h9 n0 (Nat.le_trans Z0 K9.1) (G.keep K9)) hZ (hw _ (List.mem_of_getElem? (i := 36) rfl)) (hw _ (List.mem_of_getElem? (i := 35) rfl)) (by decide) (by decide)) (g := (mkF m 69 #[.val (.int p0), .val (.ref b1), .val (.ref w_AT_LEAST), .val (.ref w_BELOW), .val (.int (1 : Int32)), .unset, .unset] [(.ref w_AT_LEAST), (.int (1 : Int32))])) rfl (by rw [hml]; rfl) (argsL := [(.ref w_AT_LEAST)]) (rest := [(.int (1 : Int32))]) (lenOf pd__Lcom_example_covenantry_covenantry_Direction__Z rfl) rfl (by show 2 * 0 + _ ≤ _; exact Nat.le_of_eq rfl) (hb hby at_69) (fun _ _ => ⟨rfl, e14, (by decide : 1 + 0 ≤ _), (by decide : 4 + 0 ≤ _)⟩)
  dsimp only [Pt.U, Pt.locs, Pt.cells, Pt.slots] at X15 l15 y15 z15 st15 hQ15
  subst l15 y15 z15
  obtain ⟨rfl, N15q, e15⟩ := hQ15
  have N15 := Fr.app N14 N15q
  obtain ⟨cq16, kq16, q16a, q16b, q16c⟩ := isOf hZ e15 (E_w_BELOW.keep K9)
  obtain ⟨_, _, ⟨T16, L16, k16, n16⟩, -, X16, ⟨Lc16, hQ16, l16, y16, z16⟩, st16⟩ := X15.virtualBack hx (y := (⟨"com/example/covenantry/covenantry/Direction", "opposite", "()Lcom/example/covenantry/covenantry/Direction;"⟩ : MethodName)) (z := (⟨"com/example/covenantry/covenantry/Direction", "opposite", "()Lcom/example/covenantry/covenantry/Direction;"⟩ : MethodName)) hown (mvT hZ (hw _ (List.mem_of_getElem? (i := 12) rfl))) (mvT hZ (hw _ (List.mem_of_getElem? (i := 13) rfl))) (notFace_of_selects (args := #[]) (mvT hZ (hw _ (List.mem_of_getElem? (i := 15) rfl)))) (mvT hZ (hw _ (List.mem_of_getElem? (i := 15) rfl))) (mvT hZ (hw _ (List.mem_of_getElem? (i := 14) rfl))) (by decide) (backOf (W := 0) (c1_3 l Z a0 hw [] w_AT_MOST w_AT_LEAST w_BELOW w_ABOVE h9 n0 (Nat.le_trans Z0 K9.1) (G.keep K9)) hZ (hw _ (List.mem_of_getElem? (i := 16) rfl)) (hw _ (List.mem_of_getElem? (i := 3) rfl)) (by decide) (by decide)) q16a q16c (g := (mkF m 83 #[.val (.int p0), .val (.ref b1), .val (.ref w_AT_LEAST), .val (.ref w_BELOW), .val (.int (1 : Int32)), .val (.int (1 : Int32)), .unset] [(.ref w_BELOW)])) rfl (by rw [hml]; rfl) (Steps.refl _) (argsL := []) (rest := []) (lenOf pd___Lcom_example_covenantry_covenantry_Direction_ rfl) rfl (by show 2 * 0 + _ ≤ _; exact Nat.le_of_eq rfl) (hb hby at_83) (fun _ _ => ⟨rfl, e15, (by decide : 1 + 0 ≤ _), (by decide : 4 + 0 ≤ _)⟩)
  dsimp only [Pt.U, Pt.locs, Pt.cells, Pt.slots] at X16 l16 y16 z16 st16 hQ16
  subst l16 y16 z16
  obtain ⟨rfl, N16q, e16⟩ := hQ16
  have N16 := Fr.app N15 N16q
  obtain ⟨fs, hr, hrun, hended, hW, hsame⟩ := X16.leave (v := some (.int (1 : Int32))) (fun h => by rw [Bd.returns] at h; cases h)
  refine ⟨_, _, pre0 _ ?_, hrun, hended, _, _, rfl, ?_, ⟨_, rfl⟩, hW, hsame.mono (by decide) (by decide)⟩
  · show Steps p.tables e below (s₁.setTop (mkF m 0 #[.val (.int p0), .unset, .unset, .unset, .unset, .unset, .unset] [])) _
    refine XS.iconst X0.here hx rfl (hb hby at_0) ?_
    show Steps p.tables e below (s₁.setTop (mkF m 1 #[.val (.int p0), .unset, .unset, .unset, .unset, .unset, .unset] [(.int (4 : Int32))])) _
    refine st1 _ ?_
    show Steps p.tables e below (T1.setTop (mkF m 4 #[.val (.int p0), .unset, .unset, .unset, .unset, .unset, .unset] [(.ref b1)])) _
    refine XS.dup X1.here hx rfl (hb hby at_4) rfl rfl ?_
    show Steps p.tables e below (T1.setTop (mkF m 5 #[.val (.int p0), .unset, .unset, .unset, .unset, .unset, .unset] [(.ref b1), (.ref b1)])) _
    refine XS.iconst X1.here hx rfl (hb hby at_5) ?_
    show Steps p.tables e below (T1.setTop (mkF m 6 #[.val (.int p0), .unset, .unset, .unset, .unset, .unset, .unset] [(.int (0 : Int32)), (.ref b1), (.ref b1)])) _
    refine st2 _ ?_
    show Steps p.tables e below (T2.setTop (mkF m 9 #[.val (.int p0), .unset, .unset, .unset, .unset, .unset, .unset] [(.ref w_AT_MOST), (.int (0 : Int32)), (.ref b1), (.ref b1)])) _
    refine st3 _ ?_
    show Steps p.tables e below (T3.setTop (mkF m 10 #[.val (.int p0), .unset, .unset, .unset, .unset, .unset, .unset] [(.ref b1)])) _
    refine XS.dup X3.here hx rfl (hb hby at_10) rfl rfl ?_
    show Steps p.tables e below (T3.setTop (mkF m 11 #[.val (.int p0), .unset, .unset, .unset, .unset, .unset, .unset] [(.ref b1), (.ref b1)])) _
    refine XS.iconst X3.here hx rfl (hb hby at_11) ?_
    show Steps p.tables e below (T3.setTop (mkF m 12 #[.val (.int p0), .unset, .unset, .unset, .unset, .unset, .unset] [(.int (1 : Int32)), (.ref b1), (.ref b1)])) _
    refine st4 _ ?_
    show Steps p.tables e below (T4.setTop (mkF m 15 #[.val (.int p0), .unset, .unset, .unset, .unset, .unset, .unset] [(.ref w_AT_LEAST), (.int (1 : Int32)), (.ref b1), (.ref b1)])) _
    refine st5 _ ?_
    show Steps p.tables e below (T5.setTop (mkF m 16 #[.val (.int p0), .unset, .unset, .unset, .unset, .unset, .unset] [(.ref b1)])) _
    refine XS.dup X5.here hx rfl (hb hby at_16) rfl rfl ?_
    show Steps p.tables e below (T5.setTop (mkF m 17 #[.val (.int p0), .unset, .unset, .unset, .unset, .unset, .unset] [(.ref b1), (.ref b1)])) _
    refine XS.iconst X5.here hx rfl (hb hby at_17) ?_
    show Steps p.tables e below (T5.setTop (mkF m 18 #[.val (.int p0), .unset, .unset, .unset, .unset, .unset, .unset] [(.int (2 : Int32)), (.ref b1), (.ref b1)])) _
    refine st6 _ ?_
    show Steps p.tables e below (T6.setTop (mkF m 21 #[.val (.int p0), .unset, .unset, .unset, .unset, .unset, .unset] [(.ref w_BELOW), (.int (2 : Int32)), (.ref b1), (.ref b1)])) _
    refine st7 _ ?_
    show Steps p.tables e below (T7.setTop (mkF m 22 #[.val (.int p0), .unset, .unset, .unset, .unset, .unset, .unset] [(.ref b1)])) _
    refine XS.dup X7.here hx rfl (hb hby at_22) rfl rfl ?_
    show Steps p.tables e below (T7.setTop (mkF m 23 #[.val (.int p0), .unset, .unset, .unset, .unset, .unset, .unset] [(.ref b1), (.ref b1)])) _
    refine XS.iconst X7.here hx rfl (hb hby at_23) ?_
    show Steps p.tables e below (T7.setTop (mkF m 24 #[.val (.int p0), .unset, .unset, .unset, .unset, .unset, .unset] [(.int (3 : Int32)), (.ref b1), (.ref b1)])) _
    refine st8 _ ?_
    show Steps p.tables e below (T8.setTop (mkF m 27 #[.val (.int p0), .unset, .unset, .unset, .unset, .unset, .unset] [(.ref w_ABOVE), (.int (3 : Int32)), (.ref b1), (.ref b1)])) _
    refine st9 _ ?_
    show Steps p.tables e below (T9.setTop (mkF m 28 #[.val (.int p0), .unset, .unset, .unset, .unset, .unset, .unset] [(.ref b1)])) _
    refine XS.astoreN X9.here hx rfl (hb hby at_28) rfl rfl (l' := #[.val (.int p0), .val (.ref b1), .unset, .unset, .unset, .unset, .unset]) rfl ?_
    show Steps p.tables e below (T9.setTop (mkF m 29 #[.val (.int p0), .val (.ref b1), .unset, .unset, .unset, .unset, .unset] [])) _
    refine XS.aloadN X9.here hx rfl (hb hby at_29) rfl rfl ?_
    show Steps p.tables e below (T9.setTop (mkF m 30 #[.val (.int p0), .val (.ref b1), .unset, .unset, .unset, .unset, .unset] [(.ref b1)])) _
    refine XS.iloadN X9.here hx rfl (hb hby at_30) rfl ?_
    show Steps p.tables e below (T9.setTop (mkF m 31 #[.val (.int p0), .val (.ref b1), .unset, .unset, .unset, .unset, .unset] [(.int p0), (.ref b1)])) _
    refine XS.iconst X9.here hx rfl (hb hby at_31) ?_
    show Steps p.tables e below (T9.setTop (mkF m 32 #[.val (.int p0), .val (.ref b1), .unset, .unset, .unset, .unset, .unset] [(.int (3 : Int32)), (.int p0), (.ref b1)])) _
    refine XS.iand X9.here hx rfl (hb hby at_32) rfl ?_
    show Steps p.tables e below (T9.setTop (mkF m 33 #[.val (.int p0), .val (.ref b1), .unset, .unset, .unset, .unset, .unset] [(.int (p0 &&& (3 : Int32))), (.ref b1)])) _
    rw [hi1]
    show Steps p.tables e below (T9.setTop (mkF m 33 #[.val (.int p0), .val (.ref b1), .unset, .unset, .unset, .unset, .unset] [(.int (1 : Int32)), (.ref b1)])) _
    refine X9.aaload hx (j := (1 : Int32)) (v := (.ref w_AT_LEAST)) (by rw [e9]; exact Ar10.1) (State.isArrayOf_alike hZ.alike Ar10.2.1) rfl Ar10.2.2 hin10 hat10 (g := (mkF m 33 #[.val (.int p0), .val (.ref b1), .unset, .unset, .unset, .unset, .unset] [(.int (1 : Int32)), (.ref b1)])) rfl rfl (hb hby at_33) _ ?_
    show Steps p.tables e below (T9.setTop (mkF m 34 #[.val (.int p0), .val (.ref b1), .unset, .unset, .unset, .unset, .unset] [(.ref w_AT_LEAST)])) _
    refine XS.astoreN X9.here hx rfl (hb hby at_34) rfl rfl (l' := #[.val (.int p0), .val (.ref b1), .val (.ref w_AT_LEAST), .unset, .unset, .unset, .unset]) rfl ?_
    show Steps p.tables e below (T9.setTop (mkF m 35 #[.val (.int p0), .val (.ref b1), .val (.ref w_AT_LEAST), .unset, .unset, .unset, .unset] [])) _
    refine XS.aloadN X9.here hx rfl (hb hby at_35) rfl rfl ?_
    show Steps p.tables e below (T9.setTop (mkF m 36 #[.val (.int p0), .val (.ref b1), .val (.ref w_AT_LEAST), .unset, .unset, .unset, .unset] [(.ref w_AT_LEAST)])) _
    refine st11.trans ?_
    show Steps p.tables e below (T11.setTop (mkF m 39 #[.val (.int p0), .val (.ref b1), .val (.ref w_AT_LEAST), .unset, .unset, .unset, .unset] [(.ref w_BELOW)])) _
    refine XS.astoreN X11.here hx rfl (hb hby at_39) rfl rfl (l' := #[.val (.int p0), .val (.ref b1), .val (.ref w_AT_LEAST), .val (.ref w_BELOW), .unset, .unset, .unset]) rfl ?_
    show Steps p.tables e below (T11.setTop (mkF m 40 #[.val (.int p0), .val (.ref b1), .val (.ref w_AT_LEAST), .val (.ref w_BELOW), .unset, .unset, .unset] [])) _
    refine XS.aloadN X11.here hx rfl (hb hby at_40) rfl rfl ?_
    show Steps p.tables e below (T11.setTop (mkF m 41 #[.val (.int p0), .val (.ref b1), .val (.ref w_AT_LEAST), .val (.ref w_BELOW), .unset, .unset, .unset] [(.ref w_BELOW)])) _
    refine XS.ifnonnullYes X11.here hx rfl (pc0 := 41) (pc' := 46) rfl (hb hby at_41) rfl (by decide) (by decide) ?_
    show Steps p.tables e below (T11.setTop (mkF m 46 #[.val (.int p0), .val (.ref b1), .val (.ref w_AT_LEAST), .val (.ref w_BELOW), .unset, .unset, .unset] [])) _
    refine XS.aloadN X11.here hx rfl (hb hby at_46) rfl rfl ?_
    show Steps p.tables e below (T11.setTop (mkF m 47 #[.val (.int p0), .val (.ref b1), .val (.ref w_AT_LEAST), .val (.ref w_BELOW), .unset, .unset, .unset] [(.ref w_BELOW)])) _
    refine st12.trans ?_
    show Steps p.tables e below (T12.setTop (mkF m 50 #[.val (.int p0), .val (.ref b1), .val (.ref w_AT_LEAST), .val (.ref w_BELOW), .unset, .unset, .unset] [(.int (0 : Int32))])) _
    refine XS.aloadN X12.here hx rfl (hb hby at_50) rfl rfl ?_
    show Steps p.tables e below (T12.setTop (mkF m 51 #[.val (.int p0), .val (.ref b1), .val (.ref w_AT_LEAST), .val (.ref w_BELOW), .unset, .unset, .unset] [(.ref w_AT_LEAST), (.int (0 : Int32))])) _
    refine st13.trans ?_
    show Steps p.tables e below (T13.setTop (mkF m 54 #[.val (.int p0), .val (.ref b1), .val (.ref w_AT_LEAST), .val (.ref w_BELOW), .unset, .unset, .unset] [(.int (1 : Int32)), (.int (0 : Int32))])) _
    refine XS.icmpNo X13.here hx rfl (hb hby at_54) rfl (feq (by decide : ¬ ((0 : Int32) = (1 : Int32)))).1 ?_
    show Steps p.tables e below (T13.setTop (mkF m 57 #[.val (.int p0), .val (.ref b1), .val (.ref w_AT_LEAST), .val (.ref w_BELOW), .unset, .unset, .unset] [])) _
    refine XS.iconst X13.here hx rfl (hb hby at_57) ?_
    show Steps p.tables e below (T13.setTop (mkF m 58 #[.val (.int p0), .val (.ref b1), .val (.ref w_AT_LEAST), .val (.ref w_BELOW), .unset, .unset, .unset] [(.int (1 : Int32))])) _
    refine XS.goto X13.here hx rfl (pc0 := 58) (pc' := 62) rfl (hb hby at_58) (by decide) (by decide) ?_
    show Steps p.tables e below (T13.setTop (mkF m 62 #[.val (.int p0), .val (.ref b1), .val (.ref w_AT_LEAST), .val (.ref w_BELOW), .unset, .unset, .unset] [(.int (1 : Int32))])) _
    refine XS.istore X13.here hx rfl (hb hby at_62) rfl (l' := #[.val (.int p0), .val (.ref b1), .val (.ref w_AT_LEAST), .val (.ref w_BELOW), .val (.int (1 : Int32)), .unset, .unset]) rfl ?_
    show Steps p.tables e below (T13.setTop (mkF m 64 #[.val (.int p0), .val (.ref b1), .val (.ref w_AT_LEAST), .val (.ref w_BELOW), .val (.int (1 : Int32)), .unset, .unset] [])) _
    refine XS.aloadN X13.here hx rfl (hb hby at_64) rfl rfl ?_
    show Steps p.tables e below (T13.setTop (mkF m 65 #[.val (.int p0), .val (.ref b1), .val (.ref w_AT_LEAST), .val (.ref w_BELOW), .val (.int (1 : Int32)), .unset, .unset] [(.ref w_BELOW)])) _
    refine st14 _ ?_
    show Steps p.tables e below (T14.setTop (mkF m 68 #[.val (.int p0), .val (.ref b1), .val (.ref w_AT_LEAST), .val (.ref w_BELOW), .val (.int (1 : Int32)), .unset, .unset] [(.int (1 : Int32))])) _
    refine XS.aloadN X14.here hx rfl (hb hby at_68) rfl rfl ?_
    show Steps p.tables e below (T14.setTop (mkF m 69 #[.val (.int p0), .val (.ref b1), .val (.ref w_AT_LEAST), .val (.ref w_BELOW), .val (.int (1 : Int32)), .unset, .unset] [(.ref w_AT_LEAST), (.int (1 : Int32))])) _
    refine st15 _ ?_
    show Steps p.tables e below (T15.setTop (mkF m 72 #[.val (.int p0), .val (.ref b1), .val (.ref w_AT_LEAST), .val (.ref w_BELOW), .val (.int (1 : Int32)), .unset, .unset] [(.int (0 : Int32)), (.int (1 : Int32))])) _
    refine XS.icmpNo X15.here hx rfl (hb hby at_72) rfl (feq (by decide : ¬ ((1 : Int32) = (0 : Int32)))).1 ?_
    show Steps p.tables e below (T15.setTop (mkF m 75 #[.val (.int p0), .val (.ref b1), .val (.ref w_AT_LEAST), .val (.ref w_BELOW), .val (.int (1 : Int32)), .unset, .unset] [])) _
    refine XS.iconst X15.here hx rfl (hb hby at_75) ?_
    show Steps p.tables e below (T15.setTop (mkF m 76 #[.val (.int p0), .val (.ref b1), .val (.ref w_AT_LEAST), .val (.ref w_BELOW), .val (.int (1 : Int32)), .unset, .unset] [(.int (1 : Int32))])) _
    refine XS.goto X15.here hx rfl (pc0 := 76) (pc' := 80) rfl (hb hby at_76) (by decide) (by decide) ?_
    show Steps p.tables e below (T15.setTop (mkF m 80 #[.val (.int p0), .val (.ref b1), .val (.ref w_AT_LEAST), .val (.ref w_BELOW), .val (.int (1 : Int32)), .unset, .unset] [(.int (1 : Int32))])) _
    refine XS.istore X15.here hx rfl (hb hby at_80) rfl (l' := #[.val (.int p0), .val (.ref b1), .val (.ref w_AT_LEAST), .val (.ref w_BELOW), .val (.int (1 : Int32)), .val (.int (1 : Int32)), .unset]) rfl ?_
    show Steps p.tables e below (T15.setTop (mkF m 82 #[.val (.int p0), .val (.ref b1), .val (.ref w_AT_LEAST), .val (.ref w_BELOW), .val (.int (1 : Int32)), .val (.int (1 : Int32)), .unset] [])) _
    refine XS.aloadN X15.here hx rfl (hb hby at_82) rfl rfl ?_
    show Steps p.tables e below (T15.setTop (mkF m 83 #[.val (.int p0), .val (.ref b1), .val (.ref w_AT_LEAST), .val (.ref w_BELOW), .val (.int (1 : Int32)), .val (.int (1 : Int32)), .unset] [(.ref w_BELOW)])) _
    refine st16.trans ?_
    show Steps p.tables e below (T16.setTop (mkF m 86 #[.val (.int p0), .val (.ref b1), .val (.ref w_AT_LEAST), .val (.ref w_BELOW), .val (.int (1 : Int32)), .val (.int (1 : Int32)), .unset] [(.ref w_AT_LEAST)])) _
    refine XS.aloadN X16.here hx rfl (hb hby at_86) rfl rfl ?_
    show Steps p.tables e below (T16.setTop (mkF m 87 #[.val (.int p0), .val (.ref b1), .val (.ref w_AT_LEAST), .val (.ref w_BELOW), .val (.int (1 : Int32)), .val (.int (1 : Int32)), .unset] [(.ref w_AT_LEAST), (.ref w_AT_LEAST)])) _
    refine Jvm.RoadKit.acmp (g := (mkF m 87 #[.val (.int p0), .val (.ref b1), .val (.ref w_AT_LEAST), .val (.ref w_BELOW), .val (.int (1 : Int32)), .val (.int (1 : Int32)), .unset] [(.ref w_AT_LEAST), (.ref w_AT_LEAST)])) X16 hx rfl rfl rfl (pc0 := 87) (pc' := 90) (same := true) rfl (hb hby at_87) rfl (decide_eq_true rfl) (by decide) (by decide) ?_
    show Steps p.tables e below (T16.setTop (mkF m 90 #[.val (.int p0), .val (.ref b1), .val (.ref w_AT_LEAST), .val (.ref w_BELOW), .val (.int (1 : Int32)), .val (.int (1 : Int32)), .unset] [])) _
    refine XS.iconst X16.here hx rfl (hb hby at_90) ?_
    show Steps p.tables e below (T16.setTop (mkF m 91 #[.val (.int p0), .val (.ref b1), .val (.ref w_AT_LEAST), .val (.ref w_BELOW), .val (.int (1 : Int32)), .val (.int (1 : Int32)), .unset] [(.int (1 : Int32))])) _
    refine XS.goto X16.here hx rfl (pc0 := 91) (pc' := 95) rfl (hb hby at_91) (by decide) (by decide) ?_
    show Steps p.tables e below (T16.setTop (mkF m 95 #[.val (.int p0), .val (.ref b1), .val (.ref w_AT_LEAST), .val (.ref w_BELOW), .val (.int (1 : Int32)), .val (.int (1 : Int32)), .unset] [(.int (1 : Int32))])) _
    refine XS.istore X16.here hx rfl (hb hby at_95) rfl (l' := #[.val (.int p0), .val (.ref b1), .val (.ref w_AT_LEAST), .val (.ref w_BELOW), .val (.int (1 : Int32)), .val (.int (1 : Int32)), .val (.int (1 : Int32))]) rfl ?_
    show Steps p.tables e below (T16.setTop (mkF m 97 #[.val (.int p0), .val (.ref b1), .val (.ref w_AT_LEAST), .val (.ref w_BELOW), .val (.int (1 : Int32)), .val (.int (1 : Int32)), .val (.int (1 : Int32))] [])) _
    refine XS.iload X16.here hx rfl (hb hby at_97) rfl ?_
    show Steps p.tables e below (T16.setTop (mkF m 99 #[.val (.int p0), .val (.ref b1), .val (.ref w_AT_LEAST), .val (.ref w_BELOW), .val (.int (1 : Int32)), .val (.int (1 : Int32)), .val (.int (1 : Int32))] [(.int (1 : Int32))])) _
    refine XS.ifNo X16.here hx rfl (hb hby at_99) rfl ((if0 _ _).trans (feq (by decide : ¬ ((1 : Int32) = (0 : Int32)))).1) ?_
    show Steps p.tables e below (T16.setTop (mkF m 102 #[.val (.int p0), .val (.ref b1), .val (.ref w_AT_LEAST), .val (.ref w_BELOW), .val (.int (1 : Int32)), .val (.int (1 : Int32)), .val (.int (1 : Int32))] [])) _
    refine XS.iload X16.here hx rfl (hb hby at_102) rfl ?_
    show Steps p.tables e below (T16.setTop (mkF m 104 #[.val (.int p0), .val (.ref b1), .val (.ref w_AT_LEAST), .val (.ref w_BELOW), .val (.int (1 : Int32)), .val (.int (1 : Int32)), .val (.int (1 : Int32))] [(.int (1 : Int32))])) _
    refine XS.ifNo X16.here hx rfl (hb hby at_104) rfl ((if0 _ _).trans (feq (by decide : ¬ ((1 : Int32) = (0 : Int32)))).1) ?_
    show Steps p.tables e below (T16.setTop (mkF m 107 #[.val (.int p0), .val (.ref b1), .val (.ref w_AT_LEAST), .val (.ref w_BELOW), .val (.int (1 : Int32)), .val (.int (1 : Int32)), .val (.int (1 : Int32))] [])) _
    refine XS.iload X16.here hx rfl (hb hby at_107) rfl ?_
    show Steps p.tables e below (T16.setTop (mkF m 109 #[.val (.int p0), .val (.ref b1), .val (.ref w_AT_LEAST), .val (.ref w_BELOW), .val (.int (1 : Int32)), .val (.int (1 : Int32)), .val (.int (1 : Int32))] [(.int (1 : Int32))])) _
    refine XS.ifNo X16.here hx rfl (hb hby at_109) rfl ((if0 _ _).trans (feq (by decide : ¬ ((1 : Int32) = (0 : Int32)))).1) ?_
    show Steps p.tables e below (T16.setTop (mkF m 112 #[.val (.int p0), .val (.ref b1), .val (.ref w_AT_LEAST), .val (.ref w_BELOW), .val (.int (1 : Int32)), .val (.int (1 : Int32)), .val (.int (1 : Int32))] [])) _
    refine XS.iconst X16.here hx rfl (hb hby at_112) ?_
    show Steps p.tables e below (T16.setTop (mkF m 113 #[.val (.int p0), .val (.ref b1), .val (.ref w_AT_LEAST), .val (.ref w_BELOW), .val (.int (1 : Int32)), .val (.int (1 : Int32)), .val (.int (1 : Int32))] [(.int (1 : Int32))])) _
    refine XS.goto X16.here hx rfl (pc0 := 113) (pc' := 117) rfl (hb hby at_113) (by decide) (by decide) ?_
    show Steps p.tables e below (T16.setTop (mkF m 117 #[.val (.int p0), .val (.ref b1), .val (.ref w_AT_LEAST), .val (.ref w_BELOW), .val (.int (1 : Int32)), .val (.int (1 : Int32)), .val (.int (1 : Int32))] [(.int (1 : Int32))])) _
    exact retOut X16 hx Bd.returns rfl (Or.inl ⟨rfl, Or.inr (Or.inl rfl), _, rfl⟩) (hb hby at_117) hr
  · exact ⟨rfl, N16⟩
set_option maxRecDepth 65536 in
set_option maxHeartbeats 40000000 in
theorem law_2 (l : Launch) (Z : State) (a0 : Array Value) (hw : ∀ d ∈ tables_1, d.before a0 Z = true) (ws : List Jvm.Cond) (w_AT_MOST : Addr) (w_AT_LEAST : Addr) (w_BELOW : Addr) (w_ABOVE : Addr) (h0 : Heap) (n0 : Nat) (Z0 : n0 ≤ h0.size) (G : Glob Z h0 w_AT_MOST w_AT_LEAST w_BELOW w_ABOVE) (p0 : Int32) (hi2 : (p0 &&& (3 : Int32)) = (2 : Int32)) :
    MetFree l x (head1 (Jvm.Cond.code x code maxLocals ret :: ws) room_1) (fun a U => a = #[(.int p0)] ∧ Z.Warmed39 U.vm ∧ U.heap = h0) (fun _ _ _ _ _ => True) (fun _ U o U' => ∃ v L, o = .returned v ∧ QL (some (.int (1 : Int32))) h0 n0 v U'.heap L ∧ FrameEnd U o U' L room_1.cells room_1.slots) := by
  refine MetFree.of_bodySF (plainFor_of_name pn_com_example_covenantry_covenantry_DirectionOppositePinLaw) hisR ?_
  intro p e s m args below meth c s₁ Bd hml0 hP hK
  obtain ⟨rfl, hZ, hh⟩ := hP
  have hx := Bd.exec
  have hby := Bd.bytes
  have hml : c.maxLocals = 7 := hml0
  have hown : s.vm.findClass "com/example/covenantry/covenantry/DirectionOppositePinLaw" = some m.cls := findClass_of_methodNamed Bd.named
  have X0 : Stand p l e room_1 s m #[(.int p0)] below meth c s₁ [] 0 0 := Stand.of_body Bd
  have e0 : s₁.heap = h0 := by rw [← hh, Bd.state]; rfl
  have N0 := Fr.nil n0
  have pre0 : ∀ t, Steps p.tables e below (s₁.setTop (mkF m 0 #[.val (.int p0), .unset, .unset, .unset, .unset, .unset, .unset] [])) t → Steps p.tables e below (s₁.setTop (entryFrame m #[(.int p0)] maxLocals)) t := fun t k => castTop (ef_0_I m p0) k
  have G' := G
  obtain ⟨S_w_AT_MOST, E_w_AT_MOST, S_w_AT_LEAST, E_w_AT_LEAST, S_w_BELOW, E_w_BELOW, S_w_ABOVE, E_w_ABOVE, F_ordinal_w_AT_MOST, F_ordinal_w_ABOVE, F_ordinal_w_AT_LEAST, F_ordinal_w_BELOW⟩ := G'
  obtain ⟨T1, h1, k1, X1, e1, E1, A1, O1, st1⟩ := newR X0 hx hZ hown (hw _ (List.mem_of_getElem? (i := 0) rfl)) (hw _ (List.mem_of_getElem? (i := 1) rfl)) e0 (g := (mkF m 1 #[.val (.int p0), .unset, .unset, .unset, .unset, .unset, .unset] [(.int (4 : Int32))])) rfl (hb hby at_1) rfl (by decide) (cap := 4) (by decide) (by decide) (by decide) (by decide)
  obtain ⟨b1, g1⟩ : ∃ z, z = h0.size := ⟨_, rfl⟩
  rw [← g1] at A1 st1
  have V1 : Arv Z h1 b1 k1 (.object "com/example/covenantry/covenantry/Direction") (4 : Int32) [.null, .null, .null, .null] .null := (Arv.new A1 (by decide)).pad (pad_rep [] .null 4)
  have K1 : Keep h0 h1 [] := (Keep.refl h0 []).ext E1
  have sz_b1 : h0.size ≤ b1 := Nat.le_of_eq g1.symm
  have g_b1 : n0 ≤ b1 := Nat.le_trans Z0 sz_b1
  obtain ⟨T2, X2, e2, st2⟩ := getS2 X1 hx hZ hown (host := "") (Or.inl (hw _ (List.mem_of_getElem? (i := 2) rfl))) Via.refl e1 (own_sta_keep S_w_AT_MOST K1) (g := (mkF m 6 #[.val (.int p0), .unset, .unset, .unset, .unset, .unset, .unset] [(.int (0 : Int32)), (.ref b1), (.ref b1)])) rfl (hb hby at_6)
  obtain ⟨cl3, Ar3, q3, s3, m3, H3, F3⟩ := V1
  have hin3 : ¬ ((0 : Int32) < 0 ∨ cl3.slots.size ≤ ((0 : Int32)).toNatClampNeg) := inb_of s3 ⟨by decide, by decide⟩
  have sto3 : Sto Z h1 b1 (.ref w_AT_MOST) := Sto.ofV Ar3 q3 O1 (Ins.of_exa (E_w_AT_MOST.keep K1) (hw _ (List.mem_of_getElem? (i := 5) rfl)))
  obtain ⟨T3, h3, X3, e3, W3, st3⟩ := stR X2 hx hZ e2 Ar3 (j := (0 : Int32)) hin3 rfl sto3 (g := (mkF m 9 #[.val (.int p0), .unset, .unset, .unset, .unset, .unset, .unset] [(.ref w_AT_MOST), (.int (0 : Int32)), (.ref b1), (.ref b1)])) rfl rfl (hb hby at_9)
  have V3 : Arv Z h3 b1 k1 (.object "com/example/covenantry/covenantry/Direction") (4 : Int32) [(.ref w_AT_MOST), .null, .null, .null] .null := Arv.set Ar3 q3 s3 m3 H3 F3 rfl W3 0 rfl (Nat.le_of_ble_eq_true rfl)
  have K3 : Keep h0 h3 [] := K1.wr W3 (Or.inr sz_b1)
  have N3 := Fr.snoc X3 N0 g_b1
  obtain ⟨T4, X4, e4, st4⟩ := getS2 X3 hx hZ hown (host := "") (Or.inl (hw _ (List.mem_of_getElem? (i := 6) rfl))) Via.refl e3 (own_sta_keep S_w_AT_LEAST K3) (g := (mkF m 12 #[.val (.int p0), .unset, .unset, .unset, .unset, .unset, .unset] [(.int (1 : Int32)), (.ref b1), (.ref b1)])) rfl (hb hby at_12)
  obtain ⟨cl5, Ar5, q5, s5, m5, H5, F5⟩ := V3
  have hin5 : ¬ ((1 : Int32) < 0 ∨ cl5.slots.size ≤ ((1 : Int32)).toNatClampNeg) := inb_of s5 ⟨by decide, by decide⟩
  have sto5 : Sto Z h3 b1 (.ref w_AT_LEAST) := Sto.ofV Ar5 q5 O1 (Ins.of_exa (E_w_AT_LEAST.keep K3) (hw _ (List.mem_of_getElem? (i := 5) rfl)))
  obtain ⟨T5, h5, X5, e5, W5, st5⟩ := stR X4 hx hZ e4 Ar5 (j := (1 : Int32)) hin5 rfl sto5 (g := (mkF m 15 #[.val (.int p0), .unset, .unset, .unset, .unset, .unset, .unset] [(.ref w_AT_LEAST), (.int (1 : Int32)), (.ref b1), (.ref b1)])) rfl rfl (hb hby at_15)
  have V5 : Arv Z h5 b1 k1 (.object "com/example/covenantry/covenantry/Direction") (4 : Int32) [(.ref w_AT_MOST), (.ref w_AT_LEAST), .null, .null] .null := Arv.set Ar5 q5 s5 m5 H5 F5 rfl W5 1 rfl (Nat.le_of_ble_eq_true rfl)
  have K5 : Keep h0 h5 [] := K3.wr W5 (Or.inr sz_b1)
  have N5 := Fr.snoc X5 N3 g_b1
  obtain ⟨T6, X6, e6, st6⟩ := getS2 X5 hx hZ hown (host := "") (Or.inl (hw _ (List.mem_of_getElem? (i := 8) rfl))) Via.refl e5 (own_sta_keep S_w_BELOW K5) (g := (mkF m 18 #[.val (.int p0), .unset, .unset, .unset, .unset, .unset, .unset] [(.int (2 : Int32)), (.ref b1), (.ref b1)])) rfl (hb hby at_18)
  obtain ⟨cl7, Ar7, q7, s7, m7, H7, F7⟩ := V5
  have hin7 : ¬ ((2 : Int32) < 0 ∨ cl7.slots.size ≤ ((2 : Int32)).toNatClampNeg) := inb_of s7 ⟨by decide, by decide⟩
  have sto7 : Sto Z h5 b1 (.ref w_BELOW) := Sto.ofV Ar7 q7 O1 (Ins.of_exa (E_w_BELOW.keep K5) (hw _ (List.mem_of_getElem? (i := 5) rfl)))
  obtain ⟨T7, h7, X7, e7, W7, st7⟩ := stR X6 hx hZ e6 Ar7 (j := (2 : Int32)) hin7 rfl sto7 (g := (mkF m 21 #[.val (.int p0), .unset, .unset, .unset, .unset, .unset, .unset] [(.ref w_BELOW), (.int (2 : Int32)), (.ref b1), (.ref b1)])) rfl rfl (hb hby at_21)
  have V7 : Arv Z h7 b1 k1 (.object "com/example/covenantry/covenantry/Direction") (4 : Int32) [(.ref w_AT_MOST), (.ref w_AT_LEAST), (.ref w_BELOW), .null] .null := Arv.set Ar7 q7 s7 m7 H7 F7 rfl W7 2 rfl (Nat.le_of_ble_eq_true rfl)
  have K7 : Keep h0 h7 [] := K5.wr W7 (Or.inr sz_b1)
  have N7 := Fr.snoc X7 N5 g_b1
  obtain ⟨T8, X8, e8, st8⟩ := getS2 X7 hx hZ hown (host := "") (Or.inl (hw _ (List.mem_of_getElem? (i := 10) rfl))) Via.refl e7 (own_sta_keep S_w_ABOVE K7) (g := (mkF m 24 #[.val (.int p0), .unset, .unset, .unset, .unset, .unset, .unset] [(.int (3 : Int32)), (.ref b1), (.ref b1)])) rfl (hb hby at_24)
  obtain ⟨cl9, Ar9, q9, s9, m9, H9, F9⟩ := V7
  have hin9 : ¬ ((3 : Int32) < 0 ∨ cl9.slots.size ≤ ((3 : Int32)).toNatClampNeg) := inb_of s9 ⟨by decide, by decide⟩
  have sto9 : Sto Z h7 b1 (.ref w_ABOVE) := Sto.ofV Ar9 q9 O1 (Ins.of_exa (E_w_ABOVE.keep K7) (hw _ (List.mem_of_getElem? (i := 5) rfl)))
  obtain ⟨T9, h9, X9, e9, W9, st9⟩ := stR X8 hx hZ e8 Ar9 (j := (3 : Int32)) hin9 rfl sto9 (g := (mkF m 27 #[.val (.int p0), .unset, .unset, .unset, .unset, .unset, .unset] [(.ref w_ABOVE), (.int (3 : Int32)), (.ref b1), (.ref b1)])) rfl rfl (hb hby at_27)
  have V9 : Arv Z h9 b1 k1 (.object "com/example/covenantry/covenantry/Direction") (4 : Int32) [(.ref w_AT_MOST), (.ref w_AT_LEAST), (.ref w_BELOW), (.ref w_ABOVE)] .null := Arv.set Ar9 q9 s9 m9 H9 F9 rfl W9 3 rfl (Nat.le_of_ble_eq_true rfl)
  have K9 : Keep h0 h9 [] := K7.wr W9 (Or.inr sz_b1)
  have N9 := Fr.snoc X9 N7 g_b1
  obtain ⟨cl10, Ar10, q10, s10, m10, H10, F10⟩ := V9
  have hin10 : ¬ ((2 : Int32) < 0 ∨ cl10.slots.size ≤ ((2 : Int32)).toNatClampNeg) := inb_of s10 ⟨by decide, by decide⟩
  have hat10 : cl10.slots[((2 : Int32)).toNatClampNeg]? = some (.ref w_BELOW) := H10.at hin10 rfl
  obtain ⟨cq11, kq11, q11a, q11b, q11c⟩ := isOf hZ e9 (E_w_BELOW.keep K9)
  obtain ⟨_, _, ⟨T11, L11, k11, n11⟩, -, X11, ⟨Lc11, hQ11, l11, y11, z11⟩, st11⟩ := X9.virtualBack hx (y := (⟨"com/example/covenantry/covenantry/Direction", "opposite", "()Lcom/example/covenantry/covenantry/Direction;"⟩ : MethodName)) (z := (⟨"com/example/covenantry/covenantry/Direction", "opposite", "()Lcom/example/covenantry/covenantry/Direction;"⟩ : MethodName)) hown (mvT hZ (hw _ (List.mem_of_getElem? (i := 12) rfl))) (mvT hZ (hw _ (List.mem_of_getElem? (i := 13) rfl))) (notFace_of_selects (args := #[]) (mvT hZ (hw _ (List.mem_of_getElem? (i := 15) rfl)))) (mvT hZ (hw _ (List.mem_of_getElem? (i := 15) rfl))) (mvT hZ (hw _ (List.mem_of_getElem? (i := 14) rfl))) (by decide) (backOf (W := 0) (c1_3 l Z a0 hw [] w_AT_MOST w_AT_LEAST w_BELOW w_ABOVE h9 n0 (Nat.le_trans Z0 K9.1) (G.keep K9)) hZ (hw _ (List.mem_of_getElem? (i := 16) rfl)) (hw _ (List.mem_of_getElem? (i := 3) rfl)) (by decide) (by decide)) q11a q11c (g := (mkF m 36 #[.val (.int p0), .val (.ref b1), .val (.ref w_BELOW), .unset, .unset, .unset, .unset] [(.ref w_BELOW)])) rfl (by rw [hml]; rfl) (Steps.refl _) (argsL := []) (rest := []) (lenOf pd___Lcom_example_covenantry_covenantry_Direction_ rfl) rfl (by show 2 * 0 + _ ≤ _; exact Nat.le_of_eq rfl) (hb hby at_36) (fun _ _ => ⟨rfl, e9, (by decide : 1 + 0 ≤ _), (by decide : 4 + 0 ≤ _)⟩)
  dsimp only [Pt.U, Pt.locs, Pt.cells, Pt.slots] at X11 l11 y11 z11 st11 hQ11
  subst l11 y11 z11
  obtain ⟨rfl, N11q, e11⟩ := hQ11
  have N11 := Fr.app N9 N11q
  obtain ⟨cq12, kq12, q12a, q12b, q12c⟩ := isOf hZ e11 (E_w_AT_LEAST.keep K9)
  obtain ⟨_, _, ⟨T12, L12, k12, n12⟩, -, X12, ⟨Lc12, hQ12, l12, y12, z12⟩, st12⟩ := X11.virtualBack hx (y := (⟨"com/example/covenantry/covenantry/Direction", "floor", "()Z"⟩ : MethodName)) (z := (⟨"com/example/covenantry/covenantry/Direction", "floor", "()Z"⟩ : MethodName)) hown (mvT hZ (hw _ (List.mem_of_getElem? (i := 27) rfl))) (mvT hZ (hw _ (List.mem_of_getElem? (i := 28) rfl))) (notFace_of_selects (args := #[]) (mvT hZ (hw _ (List.mem_of_getElem? (i := 30) rfl)))) (mvT hZ (hw _ (List.mem_of_getElem? (i := 30) rfl))) (mvT hZ (hw _ (List.mem_of_getElem? (i := 29) rfl))) (by decide) (backOf (W := 0) (c3_3 l Z a0 hw [] w_AT_MOST w_AT_LEAST w_BELOW w_ABOVE h9 n0 (Nat.le_trans Z0 K9.1) (G.keep K9)) hZ (hw _ (List.mem_of_getElem? (i := 31) rfl)) (hw _ (List.mem_of_getElem? (i := 3) rfl)) (by decide) (by decide)) q12a q12c (g := (mkF m 47 #[.val (.int p0), .val (.ref b1), .val (.ref w_BELOW), .val (.ref w_AT_LEAST), .unset, .unset, .unset] [(.ref w_AT_LEAST)])) rfl (by rw [hml]; rfl) (Steps.refl _) (argsL := []) (rest := []) (lenOf pd___Z rfl) rfl (by show 2 * 0 + _ ≤ _; exact Nat.le_of_eq rfl) (hb hby at_47) (fun _ _ => ⟨rfl, e11, (by decide : 1 + 0 ≤ _), (by decide : 4 + 0 ≤ _)⟩)
  dsimp only [Pt.U, Pt.locs, Pt.cells, Pt.slots] at X12 l12 y12 z12 st12 hQ12
  subst l12 y12 z12
  obtain ⟨rfl, N12q, e12⟩ := hQ12
  have N12 := Fr.app N11 N12q
  obtain ⟨cq13, kq13, q13a, q13b, q13c⟩ := isOf hZ e12 (E_w_BELOW.keep K9)
  obtain ⟨_, _, ⟨T13, L13, k13, n13⟩, -, X13, ⟨Lc13, hQ13, l13, y13, z13⟩, st13⟩ := X12.virtualBack hx (y := (⟨"com/example/covenantry/covenantry/Direction", "floor", "()Z"⟩ : MethodName)) (z := (⟨"com/example/covenantry/covenantry/Direction", "floor", "()Z"⟩ : MethodName)) hown (mvT hZ (hw _ (List.mem_of_getElem? (i := 27) rfl))) (mvT hZ (hw _ (List.mem_of_getElem? (i := 28) rfl))) (notFace_of_selects (args := #[]) (mvT hZ (hw _ (List.mem_of_getElem? (i := 30) rfl)))) (mvT hZ (hw _ (List.mem_of_getElem? (i := 30) rfl))) (mvT hZ (hw _ (List.mem_of_getElem? (i := 29) rfl))) (by decide) (backOf (W := 1) (c3_2 l Z a0 hw [] w_AT_MOST w_AT_LEAST w_BELOW w_ABOVE h9 n0 (Nat.le_trans Z0 K9.1) (G.keep K9)) hZ (hw _ (List.mem_of_getElem? (i := 31) rfl)) (hw _ (List.mem_of_getElem? (i := 3) rfl)) (by decide) (by decide)) q13a q13c (g := (mkF m 51 #[.val (.int p0), .val (.ref b1), .val (.ref w_BELOW), .val (.ref w_AT_LEAST), .unset, .unset, .unset] [(.ref w_BELOW), (.int (1 : Int32))])) rfl (by rw [hml]; rfl) (Steps.refl _) (argsL := []) (rest := [(.int (1 : Int32))]) (lenOf pd___Z rfl) rfl (by show 2 * 0 + _ ≤ _; exact Nat.le_of_eq rfl) (hb hby at_51) (fun _ _ => ⟨rfl, e12, (by decide : 1 + 0 ≤ _), (by decide : 4 + 0 ≤ _)⟩)
  dsimp only [Pt.U, Pt.locs, Pt.cells, Pt.slots] at X13 l13 y13 z13 st13 hQ13
  subst l13 y13 z13
  obtain ⟨rfl, N13q, e13⟩ := hQ13
  have N13 := Fr.app N12 N13q
  obtain ⟨_, _, ⟨T14, L14, k14, n14⟩, -, X14, ⟨Lc14, hQ14, l14, y14, z14⟩, st14⟩ := Jvm.LawKit.callS X13 hx (y := (⟨"com/example/covenantry/covenantry/DirectionOppositePinLaw", "strict", "(Lcom/example/covenantry/covenantry/Direction;)Z"⟩ : MethodName)) hown (mvT hZ (hw _ (List.mem_of_getElem? (i := 33) rfl))) (mvT hZ (hw _ (List.mem_of_getElem? (i := 34) rfl))) (mvT hZ (hw _ (List.mem_of_getElem? (i := 35) rfl))) (mvT hZ (hw _ (List.mem_of_getElem? (i := 36) rfl))) (by decide) (backOf (W := 0) (c4_3 l Z a0 hw [] w_AT_MOST w_AT_LEAST w_BELOW w_ABOVE h9 n0 (Nat.le_trans Z0 K9.1) (G.keep K9)) hZ (hw _ (List.mem_of_getElem? (i := 36) rfl)) (hw _ (List.mem_of_getElem? (i := 35) rfl)) (by decide) (by decide)) (g := (mkF m 65 #[.val (.int p0), .val (.ref b1), .val (.ref w_BELOW), .val (.ref w_AT_LEAST), .val (.int (1 : Int32)), .unset, .unset] [(.ref w_AT_LEAST)])) rfl (by rw [hml]; rfl) (argsL := [(.ref w_AT_LEAST)]) (rest := []) (lenOf pd__Lcom_example_covenantry_covenantry_Direction__Z rfl) rfl (by show 2 * 0 + _ ≤ _; exact Nat.le_of_eq rfl) (hb hby at_65) (fun _ _ => ⟨rfl, e13, (by decide : 1 + 0 ≤ _), (by decide : 4 + 0 ≤ _)⟩)
  dsimp only [Pt.U, Pt.locs, Pt.cells, Pt.slots] at X14 l14 y14 z14 st14 hQ14
  subst l14 y14 z14
  obtain ⟨rfl, N14q, e14⟩ := hQ14
  have N14 := Fr.app N13 N14q
  obtain ⟨_, _, ⟨T15, L15, k15, n15⟩, -, X15, ⟨Lc15, hQ15, l15, y15, z15⟩, st15⟩ := Jvm.LawKit.callS X14 hx (y := (⟨"com/example/covenantry/covenantry/DirectionOppositePinLaw", "strict", "(Lcom/example/covenantry/covenantry/Direction;)Z"⟩ : MethodName)) hown (mvT hZ (hw _ (List.mem_of_getElem? (i := 33) rfl))) (mvT hZ (hw _ (List.mem_of_getElem? (i := 34) rfl))) (mvT hZ (hw _ (List.mem_of_getElem? (i := 35) rfl))) (mvT hZ (hw _ (List.mem_of_getElem? (i := 36) rfl))) (by decide) (backOf (W := 1) (c4_2 l Z a0 hw [] w_AT_MOST w_AT_LEAST w_BELOW w_ABOVE h9 n0 (Nat.le_trans Z0 K9.1) (G.keep K9)) hZ (hw _ (List.mem_of_getElem? (i := 36) rfl)) (hw _ (List.mem_of_getElem? (i := 35) rfl)) (by decide) (by decide)) (g := (mkF m 69 #[.val (.int p0), .val (.ref b1), .val (.ref w_BELOW), .val (.ref w_AT_LEAST), .val (.int (1 : Int32)), .unset, .unset] [(.ref w_BELOW), (.int (0 : Int32))])) rfl (by rw [hml]; rfl) (argsL := [(.ref w_BELOW)]) (rest := [(.int (0 : Int32))]) (lenOf pd__Lcom_example_covenantry_covenantry_Direction__Z rfl) rfl (by show 2 * 0 + _ ≤ _; exact Nat.le_of_eq rfl) (hb hby at_69) (fun _ _ => ⟨rfl, e14, (by decide : 1 + 0 ≤ _), (by decide : 4 + 0 ≤ _)⟩)
  dsimp only [Pt.U, Pt.locs, Pt.cells, Pt.slots] at X15 l15 y15 z15 st15 hQ15
  subst l15 y15 z15
  obtain ⟨rfl, N15q, e15⟩ := hQ15
  have N15 := Fr.app N14 N15q
  obtain ⟨cq16, kq16, q16a, q16b, q16c⟩ := isOf hZ e15 (E_w_AT_LEAST.keep K9)
  obtain ⟨_, _, ⟨T16, L16, k16, n16⟩, -, X16, ⟨Lc16, hQ16, l16, y16, z16⟩, st16⟩ := X15.virtualBack hx (y := (⟨"com/example/covenantry/covenantry/Direction", "opposite", "()Lcom/example/covenantry/covenantry/Direction;"⟩ : MethodName)) (z := (⟨"com/example/covenantry/covenantry/Direction", "opposite", "()Lcom/example/covenantry/covenantry/Direction;"⟩ : MethodName)) hown (mvT hZ (hw _ (List.mem_of_getElem? (i := 12) rfl))) (mvT hZ (hw _ (List.mem_of_getElem? (i := 13) rfl))) (notFace_of_selects (args := #[]) (mvT hZ (hw _ (List.mem_of_getElem? (i := 15) rfl)))) (mvT hZ (hw _ (List.mem_of_getElem? (i := 15) rfl))) (mvT hZ (hw _ (List.mem_of_getElem? (i := 14) rfl))) (by decide) (backOf (W := 0) (c1_2 l Z a0 hw [] w_AT_MOST w_AT_LEAST w_BELOW w_ABOVE h9 n0 (Nat.le_trans Z0 K9.1) (G.keep K9)) hZ (hw _ (List.mem_of_getElem? (i := 16) rfl)) (hw _ (List.mem_of_getElem? (i := 3) rfl)) (by decide) (by decide)) q16a q16c (g := (mkF m 83 #[.val (.int p0), .val (.ref b1), .val (.ref w_BELOW), .val (.ref w_AT_LEAST), .val (.int (1 : Int32)), .val (.int (1 : Int32)), .unset] [(.ref w_AT_LEAST)])) rfl (by rw [hml]; rfl) (Steps.refl _) (argsL := []) (rest := []) (lenOf pd___Lcom_example_covenantry_covenantry_Direction_ rfl) rfl (by show 2 * 0 + _ ≤ _; exact Nat.le_of_eq rfl) (hb hby at_83) (fun _ _ => ⟨rfl, e15, (by decide : 1 + 0 ≤ _), (by decide : 4 + 0 ≤ _)⟩)
  dsimp only [Pt.U, Pt.locs, Pt.cells, Pt.slots] at X16 l16 y16 z16 st16 hQ16
  subst l16 y16 z16
  obtain ⟨rfl, N16q, e16⟩ := hQ16
  have N16 := Fr.app N15 N16q
  obtain ⟨fs, hr, hrun, hended, hW, hsame⟩ := X16.leave (v := some (.int (1 : Int32))) (fun h => by rw [Bd.returns] at h; cases h)
  refine ⟨_, _, pre0 _ ?_, hrun, hended, _, _, rfl, ?_, ⟨_, rfl⟩, hW, hsame.mono (by decide) (by decide)⟩
  · show Steps p.tables e below (s₁.setTop (mkF m 0 #[.val (.int p0), .unset, .unset, .unset, .unset, .unset, .unset] [])) _
    refine XS.iconst X0.here hx rfl (hb hby at_0) ?_
    show Steps p.tables e below (s₁.setTop (mkF m 1 #[.val (.int p0), .unset, .unset, .unset, .unset, .unset, .unset] [(.int (4 : Int32))])) _
    refine st1 _ ?_
    show Steps p.tables e below (T1.setTop (mkF m 4 #[.val (.int p0), .unset, .unset, .unset, .unset, .unset, .unset] [(.ref b1)])) _
    refine XS.dup X1.here hx rfl (hb hby at_4) rfl rfl ?_
    show Steps p.tables e below (T1.setTop (mkF m 5 #[.val (.int p0), .unset, .unset, .unset, .unset, .unset, .unset] [(.ref b1), (.ref b1)])) _
    refine XS.iconst X1.here hx rfl (hb hby at_5) ?_
    show Steps p.tables e below (T1.setTop (mkF m 6 #[.val (.int p0), .unset, .unset, .unset, .unset, .unset, .unset] [(.int (0 : Int32)), (.ref b1), (.ref b1)])) _
    refine st2 _ ?_
    show Steps p.tables e below (T2.setTop (mkF m 9 #[.val (.int p0), .unset, .unset, .unset, .unset, .unset, .unset] [(.ref w_AT_MOST), (.int (0 : Int32)), (.ref b1), (.ref b1)])) _
    refine st3 _ ?_
    show Steps p.tables e below (T3.setTop (mkF m 10 #[.val (.int p0), .unset, .unset, .unset, .unset, .unset, .unset] [(.ref b1)])) _
    refine XS.dup X3.here hx rfl (hb hby at_10) rfl rfl ?_
    show Steps p.tables e below (T3.setTop (mkF m 11 #[.val (.int p0), .unset, .unset, .unset, .unset, .unset, .unset] [(.ref b1), (.ref b1)])) _
    refine XS.iconst X3.here hx rfl (hb hby at_11) ?_
    show Steps p.tables e below (T3.setTop (mkF m 12 #[.val (.int p0), .unset, .unset, .unset, .unset, .unset, .unset] [(.int (1 : Int32)), (.ref b1), (.ref b1)])) _
    refine st4 _ ?_
    show Steps p.tables e below (T4.setTop (mkF m 15 #[.val (.int p0), .unset, .unset, .unset, .unset, .unset, .unset] [(.ref w_AT_LEAST), (.int (1 : Int32)), (.ref b1), (.ref b1)])) _
    refine st5 _ ?_
    show Steps p.tables e below (T5.setTop (mkF m 16 #[.val (.int p0), .unset, .unset, .unset, .unset, .unset, .unset] [(.ref b1)])) _
    refine XS.dup X5.here hx rfl (hb hby at_16) rfl rfl ?_
    show Steps p.tables e below (T5.setTop (mkF m 17 #[.val (.int p0), .unset, .unset, .unset, .unset, .unset, .unset] [(.ref b1), (.ref b1)])) _
    refine XS.iconst X5.here hx rfl (hb hby at_17) ?_
    show Steps p.tables e below (T5.setTop (mkF m 18 #[.val (.int p0), .unset, .unset, .unset, .unset, .unset, .unset] [(.int (2 : Int32)), (.ref b1), (.ref b1)])) _
    refine st6 _ ?_
    show Steps p.tables e below (T6.setTop (mkF m 21 #[.val (.int p0), .unset, .unset, .unset, .unset, .unset, .unset] [(.ref w_BELOW), (.int (2 : Int32)), (.ref b1), (.ref b1)])) _
    refine st7 _ ?_
    show Steps p.tables e below (T7.setTop (mkF m 22 #[.val (.int p0), .unset, .unset, .unset, .unset, .unset, .unset] [(.ref b1)])) _
    refine XS.dup X7.here hx rfl (hb hby at_22) rfl rfl ?_
    show Steps p.tables e below (T7.setTop (mkF m 23 #[.val (.int p0), .unset, .unset, .unset, .unset, .unset, .unset] [(.ref b1), (.ref b1)])) _
    refine XS.iconst X7.here hx rfl (hb hby at_23) ?_
    show Steps p.tables e below (T7.setTop (mkF m 24 #[.val (.int p0), .unset, .unset, .unset, .unset, .unset, .unset] [(.int (3 : Int32)), (.ref b1), (.ref b1)])) _
    refine st8 _ ?_
    show Steps p.tables e below (T8.setTop (mkF m 27 #[.val (.int p0), .unset, .unset, .unset, .unset, .unset, .unset] [(.ref w_ABOVE), (.int (3 : Int32)), (.ref b1), (.ref b1)])) _
    refine st9 _ ?_
    show Steps p.tables e below (T9.setTop (mkF m 28 #[.val (.int p0), .unset, .unset, .unset, .unset, .unset, .unset] [(.ref b1)])) _
    refine XS.astoreN X9.here hx rfl (hb hby at_28) rfl rfl (l' := #[.val (.int p0), .val (.ref b1), .unset, .unset, .unset, .unset, .unset]) rfl ?_
    show Steps p.tables e below (T9.setTop (mkF m 29 #[.val (.int p0), .val (.ref b1), .unset, .unset, .unset, .unset, .unset] [])) _
    refine XS.aloadN X9.here hx rfl (hb hby at_29) rfl rfl ?_
    show Steps p.tables e below (T9.setTop (mkF m 30 #[.val (.int p0), .val (.ref b1), .unset, .unset, .unset, .unset, .unset] [(.ref b1)])) _
    refine XS.iloadN X9.here hx rfl (hb hby at_30) rfl ?_
    show Steps p.tables e below (T9.setTop (mkF m 31 #[.val (.int p0), .val (.ref b1), .unset, .unset, .unset, .unset, .unset] [(.int p0), (.ref b1)])) _
    refine XS.iconst X9.here hx rfl (hb hby at_31) ?_
    show Steps p.tables e below (T9.setTop (mkF m 32 #[.val (.int p0), .val (.ref b1), .unset, .unset, .unset, .unset, .unset] [(.int (3 : Int32)), (.int p0), (.ref b1)])) _
    refine XS.iand X9.here hx rfl (hb hby at_32) rfl ?_
    show Steps p.tables e below (T9.setTop (mkF m 33 #[.val (.int p0), .val (.ref b1), .unset, .unset, .unset, .unset, .unset] [(.int (p0 &&& (3 : Int32))), (.ref b1)])) _
    rw [hi2]
    show Steps p.tables e below (T9.setTop (mkF m 33 #[.val (.int p0), .val (.ref b1), .unset, .unset, .unset, .unset, .unset] [(.int (2 : Int32)), (.ref b1)])) _
    refine X9.aaload hx (j := (2 : Int32)) (v := (.ref w_BELOW)) (by rw [e9]; exact Ar10.1) (State.isArrayOf_alike hZ.alike Ar10.2.1) rfl Ar10.2.2 hin10 hat10 (g := (mkF m 33 #[.val (.int p0), .val (.ref b1), .unset, .unset, .unset, .unset, .unset] [(.int (2 : Int32)), (.ref b1)])) rfl rfl (hb hby at_33) _ ?_
    show Steps p.tables e below (T9.setTop (mkF m 34 #[.val (.int p0), .val (.ref b1), .unset, .unset, .unset, .unset, .unset] [(.ref w_BELOW)])) _
    refine XS.astoreN X9.here hx rfl (hb hby at_34) rfl rfl (l' := #[.val (.int p0), .val (.ref b1), .val (.ref w_BELOW), .unset, .unset, .unset, .unset]) rfl ?_
    show Steps p.tables e below (T9.setTop (mkF m 35 #[.val (.int p0), .val (.ref b1), .val (.ref w_BELOW), .unset, .unset, .unset, .unset] [])) _
    refine XS.aloadN X9.here hx rfl (hb hby at_35) rfl rfl ?_
    show Steps p.tables e below (T9.setTop (mkF m 36 #[.val (.int p0), .val (.ref b1), .val (.ref w_BELOW), .unset, .unset, .unset, .unset] [(.ref w_BELOW)])) _
    refine st11.trans ?_
    show Steps p.tables e below (T11.setTop (mkF m 39 #[.val (.int p0), .val (.ref b1), .val (.ref w_BELOW), .unset, .unset, .unset, .unset] [(.ref w_AT_LEAST)])) _
    refine XS.astoreN X11.here hx rfl (hb hby at_39) rfl rfl (l' := #[.val (.int p0), .val (.ref b1), .val (.ref w_BELOW), .val (.ref w_AT_LEAST), .unset, .unset, .unset]) rfl ?_
    show Steps p.tables e below (T11.setTop (mkF m 40 #[.val (.int p0), .val (.ref b1), .val (.ref w_BELOW), .val (.ref w_AT_LEAST), .unset, .unset, .unset] [])) _
    refine XS.aloadN X11.here hx rfl (hb hby at_40) rfl rfl ?_
    show Steps p.tables e below (T11.setTop (mkF m 41 #[.val (.int p0), .val (.ref b1), .val (.ref w_BELOW), .val (.ref w_AT_LEAST), .unset, .unset, .unset] [(.ref w_AT_LEAST)])) _
    refine XS.ifnonnullYes X11.here hx rfl (pc0 := 41) (pc' := 46) rfl (hb hby at_41) rfl (by decide) (by decide) ?_
    show Steps p.tables e below (T11.setTop (mkF m 46 #[.val (.int p0), .val (.ref b1), .val (.ref w_BELOW), .val (.ref w_AT_LEAST), .unset, .unset, .unset] [])) _
    refine XS.aloadN X11.here hx rfl (hb hby at_46) rfl rfl ?_
    show Steps p.tables e below (T11.setTop (mkF m 47 #[.val (.int p0), .val (.ref b1), .val (.ref w_BELOW), .val (.ref w_AT_LEAST), .unset, .unset, .unset] [(.ref w_AT_LEAST)])) _
    refine st12.trans ?_
    show Steps p.tables e below (T12.setTop (mkF m 50 #[.val (.int p0), .val (.ref b1), .val (.ref w_BELOW), .val (.ref w_AT_LEAST), .unset, .unset, .unset] [(.int (1 : Int32))])) _
    refine XS.aloadN X12.here hx rfl (hb hby at_50) rfl rfl ?_
    show Steps p.tables e below (T12.setTop (mkF m 51 #[.val (.int p0), .val (.ref b1), .val (.ref w_BELOW), .val (.ref w_AT_LEAST), .unset, .unset, .unset] [(.ref w_BELOW), (.int (1 : Int32))])) _
    refine st13.trans ?_
    show Steps p.tables e below (T13.setTop (mkF m 54 #[.val (.int p0), .val (.ref b1), .val (.ref w_BELOW), .val (.ref w_AT_LEAST), .unset, .unset, .unset] [(.int (0 : Int32)), (.int (1 : Int32))])) _
    refine XS.icmpNo X13.here hx rfl (hb hby at_54) rfl (feq (by decide : ¬ ((1 : Int32) = (0 : Int32)))).1 ?_
    show Steps p.tables e below (T13.setTop (mkF m 57 #[.val (.int p0), .val (.ref b1), .val (.ref w_BELOW), .val (.ref w_AT_LEAST), .unset, .unset, .unset] [])) _
    refine XS.iconst X13.here hx rfl (hb hby at_57) ?_
    show Steps p.tables e below (T13.setTop (mkF m 58 #[.val (.int p0), .val (.ref b1), .val (.ref w_BELOW), .val (.ref w_AT_LEAST), .unset, .unset, .unset] [(.int (1 : Int32))])) _
    refine XS.goto X13.here hx rfl (pc0 := 58) (pc' := 62) rfl (hb hby at_58) (by decide) (by decide) ?_
    show Steps p.tables e below (T13.setTop (mkF m 62 #[.val (.int p0), .val (.ref b1), .val (.ref w_BELOW), .val (.ref w_AT_LEAST), .unset, .unset, .unset] [(.int (1 : Int32))])) _
    refine XS.istore X13.here hx rfl (hb hby at_62) rfl (l' := #[.val (.int p0), .val (.ref b1), .val (.ref w_BELOW), .val (.ref w_AT_LEAST), .val (.int (1 : Int32)), .unset, .unset]) rfl ?_
    show Steps p.tables e below (T13.setTop (mkF m 64 #[.val (.int p0), .val (.ref b1), .val (.ref w_BELOW), .val (.ref w_AT_LEAST), .val (.int (1 : Int32)), .unset, .unset] [])) _
    refine XS.aloadN X13.here hx rfl (hb hby at_64) rfl rfl ?_
    show Steps p.tables e below (T13.setTop (mkF m 65 #[.val (.int p0), .val (.ref b1), .val (.ref w_BELOW), .val (.ref w_AT_LEAST), .val (.int (1 : Int32)), .unset, .unset] [(.ref w_AT_LEAST)])) _
    refine st14 _ ?_
    show Steps p.tables e below (T14.setTop (mkF m 68 #[.val (.int p0), .val (.ref b1), .val (.ref w_BELOW), .val (.ref w_AT_LEAST), .val (.int (1 : Int32)), .unset, .unset] [(.int (0 : Int32))])) _
    refine XS.aloadN X14.here hx rfl (hb hby at_68) rfl rfl ?_
    show Steps p.tables e below (T14.setTop (mkF m 69 #[.val (.int p0), .val (.ref b1), .val (.ref w_BELOW), .val (.ref w_AT_LEAST), .val (.int (1 : Int32)), .unset, .unset] [(.ref w_BELOW), (.int (0 : Int32))])) _
    refine st15 _ ?_
    show Steps p.tables e below (T15.setTop (mkF m 72 #[.val (.int p0), .val (.ref b1), .val (.ref w_BELOW), .val (.ref w_AT_LEAST), .val (.int (1 : Int32)), .unset, .unset] [(.int (1 : Int32)), (.int (0 : Int32))])) _
    refine XS.icmpNo X15.here hx rfl (hb hby at_72) rfl (feq (by decide : ¬ ((0 : Int32) = (1 : Int32)))).1 ?_
    show Steps p.tables e below (T15.setTop (mkF m 75 #[.val (.int p0), .val (.ref b1), .val (.ref w_BELOW), .val (.ref w_AT_LEAST), .val (.int (1 : Int32)), .unset, .unset] [])) _
    refine XS.iconst X15.here hx rfl (hb hby at_75) ?_
    show Steps p.tables e below (T15.setTop (mkF m 76 #[.val (.int p0), .val (.ref b1), .val (.ref w_BELOW), .val (.ref w_AT_LEAST), .val (.int (1 : Int32)), .unset, .unset] [(.int (1 : Int32))])) _
    refine XS.goto X15.here hx rfl (pc0 := 76) (pc' := 80) rfl (hb hby at_76) (by decide) (by decide) ?_
    show Steps p.tables e below (T15.setTop (mkF m 80 #[.val (.int p0), .val (.ref b1), .val (.ref w_BELOW), .val (.ref w_AT_LEAST), .val (.int (1 : Int32)), .unset, .unset] [(.int (1 : Int32))])) _
    refine XS.istore X15.here hx rfl (hb hby at_80) rfl (l' := #[.val (.int p0), .val (.ref b1), .val (.ref w_BELOW), .val (.ref w_AT_LEAST), .val (.int (1 : Int32)), .val (.int (1 : Int32)), .unset]) rfl ?_
    show Steps p.tables e below (T15.setTop (mkF m 82 #[.val (.int p0), .val (.ref b1), .val (.ref w_BELOW), .val (.ref w_AT_LEAST), .val (.int (1 : Int32)), .val (.int (1 : Int32)), .unset] [])) _
    refine XS.aloadN X15.here hx rfl (hb hby at_82) rfl rfl ?_
    show Steps p.tables e below (T15.setTop (mkF m 83 #[.val (.int p0), .val (.ref b1), .val (.ref w_BELOW), .val (.ref w_AT_LEAST), .val (.int (1 : Int32)), .val (.int (1 : Int32)), .unset] [(.ref w_AT_LEAST)])) _
    refine st16.trans ?_
    show Steps p.tables e below (T16.setTop (mkF m 86 #[.val (.int p0), .val (.ref b1), .val (.ref w_BELOW), .val (.ref w_AT_LEAST), .val (.int (1 : Int32)), .val (.int (1 : Int32)), .unset] [(.ref w_BELOW)])) _
    refine XS.aloadN X16.here hx rfl (hb hby at_86) rfl rfl ?_
    show Steps p.tables e below (T16.setTop (mkF m 87 #[.val (.int p0), .val (.ref b1), .val (.ref w_BELOW), .val (.ref w_AT_LEAST), .val (.int (1 : Int32)), .val (.int (1 : Int32)), .unset] [(.ref w_BELOW), (.ref w_BELOW)])) _
    refine Jvm.RoadKit.acmp (g := (mkF m 87 #[.val (.int p0), .val (.ref b1), .val (.ref w_BELOW), .val (.ref w_AT_LEAST), .val (.int (1 : Int32)), .val (.int (1 : Int32)), .unset] [(.ref w_BELOW), (.ref w_BELOW)])) X16 hx rfl rfl rfl (pc0 := 87) (pc' := 90) (same := true) rfl (hb hby at_87) rfl (decide_eq_true rfl) (by decide) (by decide) ?_
    show Steps p.tables e below (T16.setTop (mkF m 90 #[.val (.int p0), .val (.ref b1), .val (.ref w_BELOW), .val (.ref w_AT_LEAST), .val (.int (1 : Int32)), .val (.int (1 : Int32)), .unset] [])) _
    refine XS.iconst X16.here hx rfl (hb hby at_90) ?_
    show Steps p.tables e below (T16.setTop (mkF m 91 #[.val (.int p0), .val (.ref b1), .val (.ref w_BELOW), .val (.ref w_AT_LEAST), .val (.int (1 : Int32)), .val (.int (1 : Int32)), .unset] [(.int (1 : Int32))])) _
    refine XS.goto X16.here hx rfl (pc0 := 91) (pc' := 95) rfl (hb hby at_91) (by decide) (by decide) ?_
    show Steps p.tables e below (T16.setTop (mkF m 95 #[.val (.int p0), .val (.ref b1), .val (.ref w_BELOW), .val (.ref w_AT_LEAST), .val (.int (1 : Int32)), .val (.int (1 : Int32)), .unset] [(.int (1 : Int32))])) _
    refine XS.istore X16.here hx rfl (hb hby at_95) rfl (l' := #[.val (.int p0), .val (.ref b1), .val (.ref w_BELOW), .val (.ref w_AT_LEAST), .val (.int (1 : Int32)), .val (.int (1 : Int32)), .val (.int (1 : Int32))]) rfl ?_
    show Steps p.tables e below (T16.setTop (mkF m 97 #[.val (.int p0), .val (.ref b1), .val (.ref w_BELOW), .val (.ref w_AT_LEAST), .val (.int (1 : Int32)), .val (.int (1 : Int32)), .val (.int (1 : Int32))] [])) _
    refine XS.iload X16.here hx rfl (hb hby at_97) rfl ?_
    show Steps p.tables e below (T16.setTop (mkF m 99 #[.val (.int p0), .val (.ref b1), .val (.ref w_BELOW), .val (.ref w_AT_LEAST), .val (.int (1 : Int32)), .val (.int (1 : Int32)), .val (.int (1 : Int32))] [(.int (1 : Int32))])) _
    refine XS.ifNo X16.here hx rfl (hb hby at_99) rfl ((if0 _ _).trans (feq (by decide : ¬ ((1 : Int32) = (0 : Int32)))).1) ?_
    show Steps p.tables e below (T16.setTop (mkF m 102 #[.val (.int p0), .val (.ref b1), .val (.ref w_BELOW), .val (.ref w_AT_LEAST), .val (.int (1 : Int32)), .val (.int (1 : Int32)), .val (.int (1 : Int32))] [])) _
    refine XS.iload X16.here hx rfl (hb hby at_102) rfl ?_
    show Steps p.tables e below (T16.setTop (mkF m 104 #[.val (.int p0), .val (.ref b1), .val (.ref w_BELOW), .val (.ref w_AT_LEAST), .val (.int (1 : Int32)), .val (.int (1 : Int32)), .val (.int (1 : Int32))] [(.int (1 : Int32))])) _
    refine XS.ifNo X16.here hx rfl (hb hby at_104) rfl ((if0 _ _).trans (feq (by decide : ¬ ((1 : Int32) = (0 : Int32)))).1) ?_
    show Steps p.tables e below (T16.setTop (mkF m 107 #[.val (.int p0), .val (.ref b1), .val (.ref w_BELOW), .val (.ref w_AT_LEAST), .val (.int (1 : Int32)), .val (.int (1 : Int32)), .val (.int (1 : Int32))] [])) _
    refine XS.iload X16.here hx rfl (hb hby at_107) rfl ?_
    show Steps p.tables e below (T16.setTop (mkF m 109 #[.val (.int p0), .val (.ref b1), .val (.ref w_BELOW), .val (.ref w_AT_LEAST), .val (.int (1 : Int32)), .val (.int (1 : Int32)), .val (.int (1 : Int32))] [(.int (1 : Int32))])) _
    refine XS.ifNo X16.here hx rfl (hb hby at_109) rfl ((if0 _ _).trans (feq (by decide : ¬ ((1 : Int32) = (0 : Int32)))).1) ?_
    show Steps p.tables e below (T16.setTop (mkF m 112 #[.val (.int p0), .val (.ref b1), .val (.ref w_BELOW), .val (.ref w_AT_LEAST), .val (.int (1 : Int32)), .val (.int (1 : Int32)), .val (.int (1 : Int32))] [])) _
    refine XS.iconst X16.here hx rfl (hb hby at_112) ?_
    show Steps p.tables e below (T16.setTop (mkF m 113 #[.val (.int p0), .val (.ref b1), .val (.ref w_BELOW), .val (.ref w_AT_LEAST), .val (.int (1 : Int32)), .val (.int (1 : Int32)), .val (.int (1 : Int32))] [(.int (1 : Int32))])) _
    refine XS.goto X16.here hx rfl (pc0 := 113) (pc' := 117) rfl (hb hby at_113) (by decide) (by decide) ?_
    show Steps p.tables e below (T16.setTop (mkF m 117 #[.val (.int p0), .val (.ref b1), .val (.ref w_BELOW), .val (.ref w_AT_LEAST), .val (.int (1 : Int32)), .val (.int (1 : Int32)), .val (.int (1 : Int32))] [(.int (1 : Int32))])) _
    exact retOut X16 hx Bd.returns rfl (Or.inl ⟨rfl, Or.inr (Or.inl rfl), _, rfl⟩) (hb hby at_117) hr
  · exact ⟨rfl, N16⟩
set_option maxRecDepth 65536 in
set_option maxHeartbeats 40000000 in
theorem law_3 (l : Launch) (Z : State) (a0 : Array Value) (hw : ∀ d ∈ tables_1, d.before a0 Z = true) (ws : List Jvm.Cond) (w_AT_MOST : Addr) (w_AT_LEAST : Addr) (w_BELOW : Addr) (w_ABOVE : Addr) (h0 : Heap) (n0 : Nat) (Z0 : n0 ≤ h0.size) (G : Glob Z h0 w_AT_MOST w_AT_LEAST w_BELOW w_ABOVE) (p0 : Int32) (hi3 : (p0 &&& (3 : Int32)) = (3 : Int32)) :
    MetFree l x (head1 (Jvm.Cond.code x code maxLocals ret :: ws) room_1) (fun a U => a = #[(.int p0)] ∧ Z.Warmed39 U.vm ∧ U.heap = h0) (fun _ _ _ _ _ => True) (fun _ U o U' => ∃ v L, o = .returned v ∧ QL (some (.int (1 : Int32))) h0 n0 v U'.heap L ∧ FrameEnd U o U' L room_1.cells room_1.slots) := by
  refine MetFree.of_bodySF (plainFor_of_name pn_com_example_covenantry_covenantry_DirectionOppositePinLaw) hisR ?_
  intro p e s m args below meth c s₁ Bd hml0 hP hK
  obtain ⟨rfl, hZ, hh⟩ := hP
  have hx := Bd.exec
  have hby := Bd.bytes
  have hml : c.maxLocals = 7 := hml0
  have hown : s.vm.findClass "com/example/covenantry/covenantry/DirectionOppositePinLaw" = some m.cls := findClass_of_methodNamed Bd.named
  have X0 : Stand p l e room_1 s m #[(.int p0)] below meth c s₁ [] 0 0 := Stand.of_body Bd
  have e0 : s₁.heap = h0 := by rw [← hh, Bd.state]; rfl
  have N0 := Fr.nil n0
  have pre0 : ∀ t, Steps p.tables e below (s₁.setTop (mkF m 0 #[.val (.int p0), .unset, .unset, .unset, .unset, .unset, .unset] [])) t → Steps p.tables e below (s₁.setTop (entryFrame m #[(.int p0)] maxLocals)) t := fun t k => castTop (ef_0_I m p0) k
  have G' := G
  obtain ⟨S_w_AT_MOST, E_w_AT_MOST, S_w_AT_LEAST, E_w_AT_LEAST, S_w_BELOW, E_w_BELOW, S_w_ABOVE, E_w_ABOVE, F_ordinal_w_AT_MOST, F_ordinal_w_ABOVE, F_ordinal_w_AT_LEAST, F_ordinal_w_BELOW⟩ := G'
  obtain ⟨T1, h1, k1, X1, e1, E1, A1, O1, st1⟩ := newR X0 hx hZ hown (hw _ (List.mem_of_getElem? (i := 0) rfl)) (hw _ (List.mem_of_getElem? (i := 1) rfl)) e0 (g := (mkF m 1 #[.val (.int p0), .unset, .unset, .unset, .unset, .unset, .unset] [(.int (4 : Int32))])) rfl (hb hby at_1) rfl (by decide) (cap := 4) (by decide) (by decide) (by decide) (by decide)
  obtain ⟨b1, g1⟩ : ∃ z, z = h0.size := ⟨_, rfl⟩
  rw [← g1] at A1 st1
  have V1 : Arv Z h1 b1 k1 (.object "com/example/covenantry/covenantry/Direction") (4 : Int32) [.null, .null, .null, .null] .null := (Arv.new A1 (by decide)).pad (pad_rep [] .null 4)
  have K1 : Keep h0 h1 [] := (Keep.refl h0 []).ext E1
  have sz_b1 : h0.size ≤ b1 := Nat.le_of_eq g1.symm
  have g_b1 : n0 ≤ b1 := Nat.le_trans Z0 sz_b1
  obtain ⟨T2, X2, e2, st2⟩ := getS2 X1 hx hZ hown (host := "") (Or.inl (hw _ (List.mem_of_getElem? (i := 2) rfl))) Via.refl e1 (own_sta_keep S_w_AT_MOST K1) (g := (mkF m 6 #[.val (.int p0), .unset, .unset, .unset, .unset, .unset, .unset] [(.int (0 : Int32)), (.ref b1), (.ref b1)])) rfl (hb hby at_6)
  obtain ⟨cl3, Ar3, q3, s3, m3, H3, F3⟩ := V1
  have hin3 : ¬ ((0 : Int32) < 0 ∨ cl3.slots.size ≤ ((0 : Int32)).toNatClampNeg) := inb_of s3 ⟨by decide, by decide⟩
  have sto3 : Sto Z h1 b1 (.ref w_AT_MOST) := Sto.ofV Ar3 q3 O1 (Ins.of_exa (E_w_AT_MOST.keep K1) (hw _ (List.mem_of_getElem? (i := 5) rfl)))
  obtain ⟨T3, h3, X3, e3, W3, st3⟩ := stR X2 hx hZ e2 Ar3 (j := (0 : Int32)) hin3 rfl sto3 (g := (mkF m 9 #[.val (.int p0), .unset, .unset, .unset, .unset, .unset, .unset] [(.ref w_AT_MOST), (.int (0 : Int32)), (.ref b1), (.ref b1)])) rfl rfl (hb hby at_9)
  have V3 : Arv Z h3 b1 k1 (.object "com/example/covenantry/covenantry/Direction") (4 : Int32) [(.ref w_AT_MOST), .null, .null, .null] .null := Arv.set Ar3 q3 s3 m3 H3 F3 rfl W3 0 rfl (Nat.le_of_ble_eq_true rfl)
  have K3 : Keep h0 h3 [] := K1.wr W3 (Or.inr sz_b1)
  have N3 := Fr.snoc X3 N0 g_b1
  obtain ⟨T4, X4, e4, st4⟩ := getS2 X3 hx hZ hown (host := "") (Or.inl (hw _ (List.mem_of_getElem? (i := 6) rfl))) Via.refl e3 (own_sta_keep S_w_AT_LEAST K3) (g := (mkF m 12 #[.val (.int p0), .unset, .unset, .unset, .unset, .unset, .unset] [(.int (1 : Int32)), (.ref b1), (.ref b1)])) rfl (hb hby at_12)
  obtain ⟨cl5, Ar5, q5, s5, m5, H5, F5⟩ := V3
  have hin5 : ¬ ((1 : Int32) < 0 ∨ cl5.slots.size ≤ ((1 : Int32)).toNatClampNeg) := inb_of s5 ⟨by decide, by decide⟩
  have sto5 : Sto Z h3 b1 (.ref w_AT_LEAST) := Sto.ofV Ar5 q5 O1 (Ins.of_exa (E_w_AT_LEAST.keep K3) (hw _ (List.mem_of_getElem? (i := 5) rfl)))
  obtain ⟨T5, h5, X5, e5, W5, st5⟩ := stR X4 hx hZ e4 Ar5 (j := (1 : Int32)) hin5 rfl sto5 (g := (mkF m 15 #[.val (.int p0), .unset, .unset, .unset, .unset, .unset, .unset] [(.ref w_AT_LEAST), (.int (1 : Int32)), (.ref b1), (.ref b1)])) rfl rfl (hb hby at_15)
  have V5 : Arv Z h5 b1 k1 (.object "com/example/covenantry/covenantry/Direction") (4 : Int32) [(.ref w_AT_MOST), (.ref w_AT_LEAST), .null, .null] .null := Arv.set Ar5 q5 s5 m5 H5 F5 rfl W5 1 rfl (Nat.le_of_ble_eq_true rfl)
  have K5 : Keep h0 h5 [] := K3.wr W5 (Or.inr sz_b1)
  have N5 := Fr.snoc X5 N3 g_b1
  obtain ⟨T6, X6, e6, st6⟩ := getS2 X5 hx hZ hown (host := "") (Or.inl (hw _ (List.mem_of_getElem? (i := 8) rfl))) Via.refl e5 (own_sta_keep S_w_BELOW K5) (g := (mkF m 18 #[.val (.int p0), .unset, .unset, .unset, .unset, .unset, .unset] [(.int (2 : Int32)), (.ref b1), (.ref b1)])) rfl (hb hby at_18)
  obtain ⟨cl7, Ar7, q7, s7, m7, H7, F7⟩ := V5
  have hin7 : ¬ ((2 : Int32) < 0 ∨ cl7.slots.size ≤ ((2 : Int32)).toNatClampNeg) := inb_of s7 ⟨by decide, by decide⟩
  have sto7 : Sto Z h5 b1 (.ref w_BELOW) := Sto.ofV Ar7 q7 O1 (Ins.of_exa (E_w_BELOW.keep K5) (hw _ (List.mem_of_getElem? (i := 5) rfl)))
  obtain ⟨T7, h7, X7, e7, W7, st7⟩ := stR X6 hx hZ e6 Ar7 (j := (2 : Int32)) hin7 rfl sto7 (g := (mkF m 21 #[.val (.int p0), .unset, .unset, .unset, .unset, .unset, .unset] [(.ref w_BELOW), (.int (2 : Int32)), (.ref b1), (.ref b1)])) rfl rfl (hb hby at_21)
  have V7 : Arv Z h7 b1 k1 (.object "com/example/covenantry/covenantry/Direction") (4 : Int32) [(.ref w_AT_MOST), (.ref w_AT_LEAST), (.ref w_BELOW), .null] .null := Arv.set Ar7 q7 s7 m7 H7 F7 rfl W7 2 rfl (Nat.le_of_ble_eq_true rfl)
  have K7 : Keep h0 h7 [] := K5.wr W7 (Or.inr sz_b1)
  have N7 := Fr.snoc X7 N5 g_b1
  obtain ⟨T8, X8, e8, st8⟩ := getS2 X7 hx hZ hown (host := "") (Or.inl (hw _ (List.mem_of_getElem? (i := 10) rfl))) Via.refl e7 (own_sta_keep S_w_ABOVE K7) (g := (mkF m 24 #[.val (.int p0), .unset, .unset, .unset, .unset, .unset, .unset] [(.int (3 : Int32)), (.ref b1), (.ref b1)])) rfl (hb hby at_24)
  obtain ⟨cl9, Ar9, q9, s9, m9, H9, F9⟩ := V7
  have hin9 : ¬ ((3 : Int32) < 0 ∨ cl9.slots.size ≤ ((3 : Int32)).toNatClampNeg) := inb_of s9 ⟨by decide, by decide⟩
  have sto9 : Sto Z h7 b1 (.ref w_ABOVE) := Sto.ofV Ar9 q9 O1 (Ins.of_exa (E_w_ABOVE.keep K7) (hw _ (List.mem_of_getElem? (i := 5) rfl)))
  obtain ⟨T9, h9, X9, e9, W9, st9⟩ := stR X8 hx hZ e8 Ar9 (j := (3 : Int32)) hin9 rfl sto9 (g := (mkF m 27 #[.val (.int p0), .unset, .unset, .unset, .unset, .unset, .unset] [(.ref w_ABOVE), (.int (3 : Int32)), (.ref b1), (.ref b1)])) rfl rfl (hb hby at_27)
  have V9 : Arv Z h9 b1 k1 (.object "com/example/covenantry/covenantry/Direction") (4 : Int32) [(.ref w_AT_MOST), (.ref w_AT_LEAST), (.ref w_BELOW), (.ref w_ABOVE)] .null := Arv.set Ar9 q9 s9 m9 H9 F9 rfl W9 3 rfl (Nat.le_of_ble_eq_true rfl)
  have K9 : Keep h0 h9 [] := K7.wr W9 (Or.inr sz_b1)
  have N9 := Fr.snoc X9 N7 g_b1
  obtain ⟨cl10, Ar10, q10, s10, m10, H10, F10⟩ := V9
  have hin10 : ¬ ((3 : Int32) < 0 ∨ cl10.slots.size ≤ ((3 : Int32)).toNatClampNeg) := inb_of s10 ⟨by decide, by decide⟩
  have hat10 : cl10.slots[((3 : Int32)).toNatClampNeg]? = some (.ref w_ABOVE) := H10.at hin10 rfl
  obtain ⟨cq11, kq11, q11a, q11b, q11c⟩ := isOf hZ e9 (E_w_ABOVE.keep K9)
  obtain ⟨_, _, ⟨T11, L11, k11, n11⟩, -, X11, ⟨Lc11, hQ11, l11, y11, z11⟩, st11⟩ := X9.virtualBack hx (y := (⟨"com/example/covenantry/covenantry/Direction", "opposite", "()Lcom/example/covenantry/covenantry/Direction;"⟩ : MethodName)) (z := (⟨"com/example/covenantry/covenantry/Direction", "opposite", "()Lcom/example/covenantry/covenantry/Direction;"⟩ : MethodName)) hown (mvT hZ (hw _ (List.mem_of_getElem? (i := 12) rfl))) (mvT hZ (hw _ (List.mem_of_getElem? (i := 13) rfl))) (notFace_of_selects (args := #[]) (mvT hZ (hw _ (List.mem_of_getElem? (i := 15) rfl)))) (mvT hZ (hw _ (List.mem_of_getElem? (i := 15) rfl))) (mvT hZ (hw _ (List.mem_of_getElem? (i := 14) rfl))) (by decide) (backOf (W := 0) (c1_1 l Z a0 hw [] w_AT_MOST w_AT_LEAST w_BELOW w_ABOVE h9 n0 (Nat.le_trans Z0 K9.1) (G.keep K9)) hZ (hw _ (List.mem_of_getElem? (i := 16) rfl)) (hw _ (List.mem_of_getElem? (i := 3) rfl)) (by decide) (by decide)) q11a q11c (g := (mkF m 36 #[.val (.int p0), .val (.ref b1), .val (.ref w_ABOVE), .unset, .unset, .unset, .unset] [(.ref w_ABOVE)])) rfl (by rw [hml]; rfl) (Steps.refl _) (argsL := []) (rest := []) (lenOf pd___Lcom_example_covenantry_covenantry_Direction_ rfl) rfl (by show 2 * 0 + _ ≤ _; exact Nat.le_of_eq rfl) (hb hby at_36) (fun _ _ => ⟨rfl, e9, (by decide : 1 + 0 ≤ _), (by decide : 4 + 0 ≤ _)⟩)
  dsimp only [Pt.U, Pt.locs, Pt.cells, Pt.slots] at X11 l11 y11 z11 st11 hQ11
  subst l11 y11 z11
  obtain ⟨rfl, N11q, e11⟩ := hQ11
  have N11 := Fr.app N9 N11q
  obtain ⟨cq12, kq12, q12a, q12b, q12c⟩ := isOf hZ e11 (E_w_AT_MOST.keep K9)
  obtain ⟨_, _, ⟨T12, L12, k12, n12⟩, -, X12, ⟨Lc12, hQ12, l12, y12, z12⟩, st12⟩ := X11.virtualBack hx (y := (⟨"com/example/covenantry/covenantry/Direction", "floor", "()Z"⟩ : MethodName)) (z := (⟨"com/example/covenantry/covenantry/Direction", "floor", "()Z"⟩ : MethodName)) hown (mvT hZ (hw _ (List.mem_of_getElem? (i := 27) rfl))) (mvT hZ (hw _ (List.mem_of_getElem? (i := 28) rfl))) (notFace_of_selects (args := #[]) (mvT hZ (hw _ (List.mem_of_getElem? (i := 30) rfl)))) (mvT hZ (hw _ (List.mem_of_getElem? (i := 30) rfl))) (mvT hZ (hw _ (List.mem_of_getElem? (i := 29) rfl))) (by decide) (backOf (W := 0) (c3_1 l Z a0 hw [] w_AT_MOST w_AT_LEAST w_BELOW w_ABOVE h9 n0 (Nat.le_trans Z0 K9.1) (G.keep K9)) hZ (hw _ (List.mem_of_getElem? (i := 31) rfl)) (hw _ (List.mem_of_getElem? (i := 3) rfl)) (by decide) (by decide)) q12a q12c (g := (mkF m 47 #[.val (.int p0), .val (.ref b1), .val (.ref w_ABOVE), .val (.ref w_AT_MOST), .unset, .unset, .unset] [(.ref w_AT_MOST)])) rfl (by rw [hml]; rfl) (Steps.refl _) (argsL := []) (rest := []) (lenOf pd___Z rfl) rfl (by show 2 * 0 + _ ≤ _; exact Nat.le_of_eq rfl) (hb hby at_47) (fun _ _ => ⟨rfl, e11, (by decide : 1 + 0 ≤ _), (by decide : 4 + 0 ≤ _)⟩)
  dsimp only [Pt.U, Pt.locs, Pt.cells, Pt.slots] at X12 l12 y12 z12 st12 hQ12
  subst l12 y12 z12
  obtain ⟨rfl, N12q, e12⟩ := hQ12
  have N12 := Fr.app N11 N12q
  obtain ⟨cq13, kq13, q13a, q13b, q13c⟩ := isOf hZ e12 (E_w_ABOVE.keep K9)
  obtain ⟨_, _, ⟨T13, L13, k13, n13⟩, -, X13, ⟨Lc13, hQ13, l13, y13, z13⟩, st13⟩ := X12.virtualBack hx (y := (⟨"com/example/covenantry/covenantry/Direction", "floor", "()Z"⟩ : MethodName)) (z := (⟨"com/example/covenantry/covenantry/Direction", "floor", "()Z"⟩ : MethodName)) hown (mvT hZ (hw _ (List.mem_of_getElem? (i := 27) rfl))) (mvT hZ (hw _ (List.mem_of_getElem? (i := 28) rfl))) (notFace_of_selects (args := #[]) (mvT hZ (hw _ (List.mem_of_getElem? (i := 30) rfl)))) (mvT hZ (hw _ (List.mem_of_getElem? (i := 30) rfl))) (mvT hZ (hw _ (List.mem_of_getElem? (i := 29) rfl))) (by decide) (backOf (W := 1) (c3_0 l Z a0 hw [] w_AT_MOST w_AT_LEAST w_BELOW w_ABOVE h9 n0 (Nat.le_trans Z0 K9.1) (G.keep K9)) hZ (hw _ (List.mem_of_getElem? (i := 31) rfl)) (hw _ (List.mem_of_getElem? (i := 3) rfl)) (by decide) (by decide)) q13a q13c (g := (mkF m 51 #[.val (.int p0), .val (.ref b1), .val (.ref w_ABOVE), .val (.ref w_AT_MOST), .unset, .unset, .unset] [(.ref w_ABOVE), (.int (0 : Int32))])) rfl (by rw [hml]; rfl) (Steps.refl _) (argsL := []) (rest := [(.int (0 : Int32))]) (lenOf pd___Z rfl) rfl (by show 2 * 0 + _ ≤ _; exact Nat.le_of_eq rfl) (hb hby at_51) (fun _ _ => ⟨rfl, e12, (by decide : 1 + 0 ≤ _), (by decide : 4 + 0 ≤ _)⟩)
  dsimp only [Pt.U, Pt.locs, Pt.cells, Pt.slots] at X13 l13 y13 z13 st13 hQ13
  subst l13 y13 z13
  obtain ⟨rfl, N13q, e13⟩ := hQ13
  have N13 := Fr.app N12 N13q
  obtain ⟨_, _, ⟨T14, L14, k14, n14⟩, -, X14, ⟨Lc14, hQ14, l14, y14, z14⟩, st14⟩ := Jvm.LawKit.callS X13 hx (y := (⟨"com/example/covenantry/covenantry/DirectionOppositePinLaw", "strict", "(Lcom/example/covenantry/covenantry/Direction;)Z"⟩ : MethodName)) hown (mvT hZ (hw _ (List.mem_of_getElem? (i := 33) rfl))) (mvT hZ (hw _ (List.mem_of_getElem? (i := 34) rfl))) (mvT hZ (hw _ (List.mem_of_getElem? (i := 35) rfl))) (mvT hZ (hw _ (List.mem_of_getElem? (i := 36) rfl))) (by decide) (backOf (W := 0) (c4_1 l Z a0 hw [] w_AT_MOST w_AT_LEAST w_BELOW w_ABOVE h9 n0 (Nat.le_trans Z0 K9.1) (G.keep K9)) hZ (hw _ (List.mem_of_getElem? (i := 36) rfl)) (hw _ (List.mem_of_getElem? (i := 35) rfl)) (by decide) (by decide)) (g := (mkF m 65 #[.val (.int p0), .val (.ref b1), .val (.ref w_ABOVE), .val (.ref w_AT_MOST), .val (.int (1 : Int32)), .unset, .unset] [(.ref w_AT_MOST)])) rfl (by rw [hml]; rfl) (argsL := [(.ref w_AT_MOST)]) (rest := []) (lenOf pd__Lcom_example_covenantry_covenantry_Direction__Z rfl) rfl (by show 2 * 0 + _ ≤ _; exact Nat.le_of_eq rfl) (hb hby at_65) (fun _ _ => ⟨rfl, e13, (by decide : 1 + 0 ≤ _), (by decide : 4 + 0 ≤ _)⟩)
  dsimp only [Pt.U, Pt.locs, Pt.cells, Pt.slots] at X14 l14 y14 z14 st14 hQ14
  subst l14 y14 z14
  obtain ⟨rfl, N14q, e14⟩ := hQ14
  have N14 := Fr.app N13 N14q
  obtain ⟨_, _, ⟨T15, L15, k15, n15⟩, -, X15, ⟨Lc15, hQ15, l15, y15, z15⟩, st15⟩ := Jvm.LawKit.callS X14 hx (y := (⟨"com/example/covenantry/covenantry/DirectionOppositePinLaw", "strict", "(Lcom/example/covenantry/covenantry/Direction;)Z"⟩ : MethodName)) hown (mvT hZ (hw _ (List.mem_of_getElem? (i := 33) rfl))) (mvT hZ (hw _ (List.mem_of_getElem? (i := 34) rfl))) (mvT hZ (hw _ (List.mem_of_getElem? (i := 35) rfl))) (mvT hZ (hw _ (List.mem_of_getElem? (i := 36) rfl))) (by decide) (backOf (W := 1) (c4_0 l Z a0 hw [] w_AT_MOST w_AT_LEAST w_BELOW w_ABOVE h9 n0 (Nat.le_trans Z0 K9.1) (G.keep K9)) hZ (hw _ (List.mem_of_getElem? (i := 36) rfl)) (hw _ (List.mem_of_getElem? (i := 35) rfl)) (by decide) (by decide)) (g := (mkF m 69 #[.val (.int p0), .val (.ref b1), .val (.ref w_ABOVE), .val (.ref w_AT_MOST), .val (.int (1 : Int32)), .unset, .unset] [(.ref w_ABOVE), (.int (0 : Int32))])) rfl (by rw [hml]; rfl) (argsL := [(.ref w_ABOVE)]) (rest := [(.int (0 : Int32))]) (lenOf pd__Lcom_example_covenantry_covenantry_Direction__Z rfl) rfl (by show 2 * 0 + _ ≤ _; exact Nat.le_of_eq rfl) (hb hby at_69) (fun _ _ => ⟨rfl, e14, (by decide : 1 + 0 ≤ _), (by decide : 4 + 0 ≤ _)⟩)
  dsimp only [Pt.U, Pt.locs, Pt.cells, Pt.slots] at X15 l15 y15 z15 st15 hQ15
  subst l15 y15 z15
  obtain ⟨rfl, N15q, e15⟩ := hQ15
  have N15 := Fr.app N14 N15q
  obtain ⟨cq16, kq16, q16a, q16b, q16c⟩ := isOf hZ e15 (E_w_AT_MOST.keep K9)
  obtain ⟨_, _, ⟨T16, L16, k16, n16⟩, -, X16, ⟨Lc16, hQ16, l16, y16, z16⟩, st16⟩ := X15.virtualBack hx (y := (⟨"com/example/covenantry/covenantry/Direction", "opposite", "()Lcom/example/covenantry/covenantry/Direction;"⟩ : MethodName)) (z := (⟨"com/example/covenantry/covenantry/Direction", "opposite", "()Lcom/example/covenantry/covenantry/Direction;"⟩ : MethodName)) hown (mvT hZ (hw _ (List.mem_of_getElem? (i := 12) rfl))) (mvT hZ (hw _ (List.mem_of_getElem? (i := 13) rfl))) (notFace_of_selects (args := #[]) (mvT hZ (hw _ (List.mem_of_getElem? (i := 15) rfl)))) (mvT hZ (hw _ (List.mem_of_getElem? (i := 15) rfl))) (mvT hZ (hw _ (List.mem_of_getElem? (i := 14) rfl))) (by decide) (backOf (W := 0) (c1_0 l Z a0 hw [] w_AT_MOST w_AT_LEAST w_BELOW w_ABOVE h9 n0 (Nat.le_trans Z0 K9.1) (G.keep K9)) hZ (hw _ (List.mem_of_getElem? (i := 16) rfl)) (hw _ (List.mem_of_getElem? (i := 3) rfl)) (by decide) (by decide)) q16a q16c (g := (mkF m 83 #[.val (.int p0), .val (.ref b1), .val (.ref w_ABOVE), .val (.ref w_AT_MOST), .val (.int (1 : Int32)), .val (.int (1 : Int32)), .unset] [(.ref w_AT_MOST)])) rfl (by rw [hml]; rfl) (Steps.refl _) (argsL := []) (rest := []) (lenOf pd___Lcom_example_covenantry_covenantry_Direction_ rfl) rfl (by show 2 * 0 + _ ≤ _; exact Nat.le_of_eq rfl) (hb hby at_83) (fun _ _ => ⟨rfl, e15, (by decide : 1 + 0 ≤ _), (by decide : 4 + 0 ≤ _)⟩)
  dsimp only [Pt.U, Pt.locs, Pt.cells, Pt.slots] at X16 l16 y16 z16 st16 hQ16
  subst l16 y16 z16
  obtain ⟨rfl, N16q, e16⟩ := hQ16
  have N16 := Fr.app N15 N16q
  obtain ⟨fs, hr, hrun, hended, hW, hsame⟩ := X16.leave (v := some (.int (1 : Int32))) (fun h => by rw [Bd.returns] at h; cases h)
  refine ⟨_, _, pre0 _ ?_, hrun, hended, _, _, rfl, ?_, ⟨_, rfl⟩, hW, hsame.mono (by decide) (by decide)⟩
  · show Steps p.tables e below (s₁.setTop (mkF m 0 #[.val (.int p0), .unset, .unset, .unset, .unset, .unset, .unset] [])) _
    refine XS.iconst X0.here hx rfl (hb hby at_0) ?_
    show Steps p.tables e below (s₁.setTop (mkF m 1 #[.val (.int p0), .unset, .unset, .unset, .unset, .unset, .unset] [(.int (4 : Int32))])) _
    refine st1 _ ?_
    show Steps p.tables e below (T1.setTop (mkF m 4 #[.val (.int p0), .unset, .unset, .unset, .unset, .unset, .unset] [(.ref b1)])) _
    refine XS.dup X1.here hx rfl (hb hby at_4) rfl rfl ?_
    show Steps p.tables e below (T1.setTop (mkF m 5 #[.val (.int p0), .unset, .unset, .unset, .unset, .unset, .unset] [(.ref b1), (.ref b1)])) _
    refine XS.iconst X1.here hx rfl (hb hby at_5) ?_
    show Steps p.tables e below (T1.setTop (mkF m 6 #[.val (.int p0), .unset, .unset, .unset, .unset, .unset, .unset] [(.int (0 : Int32)), (.ref b1), (.ref b1)])) _
    refine st2 _ ?_
    show Steps p.tables e below (T2.setTop (mkF m 9 #[.val (.int p0), .unset, .unset, .unset, .unset, .unset, .unset] [(.ref w_AT_MOST), (.int (0 : Int32)), (.ref b1), (.ref b1)])) _
    refine st3 _ ?_
    show Steps p.tables e below (T3.setTop (mkF m 10 #[.val (.int p0), .unset, .unset, .unset, .unset, .unset, .unset] [(.ref b1)])) _
    refine XS.dup X3.here hx rfl (hb hby at_10) rfl rfl ?_
    show Steps p.tables e below (T3.setTop (mkF m 11 #[.val (.int p0), .unset, .unset, .unset, .unset, .unset, .unset] [(.ref b1), (.ref b1)])) _
    refine XS.iconst X3.here hx rfl (hb hby at_11) ?_
    show Steps p.tables e below (T3.setTop (mkF m 12 #[.val (.int p0), .unset, .unset, .unset, .unset, .unset, .unset] [(.int (1 : Int32)), (.ref b1), (.ref b1)])) _
    refine st4 _ ?_
    show Steps p.tables e below (T4.setTop (mkF m 15 #[.val (.int p0), .unset, .unset, .unset, .unset, .unset, .unset] [(.ref w_AT_LEAST), (.int (1 : Int32)), (.ref b1), (.ref b1)])) _
    refine st5 _ ?_
    show Steps p.tables e below (T5.setTop (mkF m 16 #[.val (.int p0), .unset, .unset, .unset, .unset, .unset, .unset] [(.ref b1)])) _
    refine XS.dup X5.here hx rfl (hb hby at_16) rfl rfl ?_
    show Steps p.tables e below (T5.setTop (mkF m 17 #[.val (.int p0), .unset, .unset, .unset, .unset, .unset, .unset] [(.ref b1), (.ref b1)])) _
    refine XS.iconst X5.here hx rfl (hb hby at_17) ?_
    show Steps p.tables e below (T5.setTop (mkF m 18 #[.val (.int p0), .unset, .unset, .unset, .unset, .unset, .unset] [(.int (2 : Int32)), (.ref b1), (.ref b1)])) _
    refine st6 _ ?_
    show Steps p.tables e below (T6.setTop (mkF m 21 #[.val (.int p0), .unset, .unset, .unset, .unset, .unset, .unset] [(.ref w_BELOW), (.int (2 : Int32)), (.ref b1), (.ref b1)])) _
    refine st7 _ ?_
    show Steps p.tables e below (T7.setTop (mkF m 22 #[.val (.int p0), .unset, .unset, .unset, .unset, .unset, .unset] [(.ref b1)])) _
    refine XS.dup X7.here hx rfl (hb hby at_22) rfl rfl ?_
    show Steps p.tables e below (T7.setTop (mkF m 23 #[.val (.int p0), .unset, .unset, .unset, .unset, .unset, .unset] [(.ref b1), (.ref b1)])) _
    refine XS.iconst X7.here hx rfl (hb hby at_23) ?_
    show Steps p.tables e below (T7.setTop (mkF m 24 #[.val (.int p0), .unset, .unset, .unset, .unset, .unset, .unset] [(.int (3 : Int32)), (.ref b1), (.ref b1)])) _
    refine st8 _ ?_
    show Steps p.tables e below (T8.setTop (mkF m 27 #[.val (.int p0), .unset, .unset, .unset, .unset, .unset, .unset] [(.ref w_ABOVE), (.int (3 : Int32)), (.ref b1), (.ref b1)])) _
    refine st9 _ ?_
    show Steps p.tables e below (T9.setTop (mkF m 28 #[.val (.int p0), .unset, .unset, .unset, .unset, .unset, .unset] [(.ref b1)])) _
    refine XS.astoreN X9.here hx rfl (hb hby at_28) rfl rfl (l' := #[.val (.int p0), .val (.ref b1), .unset, .unset, .unset, .unset, .unset]) rfl ?_
    show Steps p.tables e below (T9.setTop (mkF m 29 #[.val (.int p0), .val (.ref b1), .unset, .unset, .unset, .unset, .unset] [])) _
    refine XS.aloadN X9.here hx rfl (hb hby at_29) rfl rfl ?_
    show Steps p.tables e below (T9.setTop (mkF m 30 #[.val (.int p0), .val (.ref b1), .unset, .unset, .unset, .unset, .unset] [(.ref b1)])) _
    refine XS.iloadN X9.here hx rfl (hb hby at_30) rfl ?_
    show Steps p.tables e below (T9.setTop (mkF m 31 #[.val (.int p0), .val (.ref b1), .unset, .unset, .unset, .unset, .unset] [(.int p0), (.ref b1)])) _
    refine XS.iconst X9.here hx rfl (hb hby at_31) ?_
    show Steps p.tables e below (T9.setTop (mkF m 32 #[.val (.int p0), .val (.ref b1), .unset, .unset, .unset, .unset, .unset] [(.int (3 : Int32)), (.int p0), (.ref b1)])) _
    refine XS.iand X9.here hx rfl (hb hby at_32) rfl ?_
    show Steps p.tables e below (T9.setTop (mkF m 33 #[.val (.int p0), .val (.ref b1), .unset, .unset, .unset, .unset, .unset] [(.int (p0 &&& (3 : Int32))), (.ref b1)])) _
    rw [hi3]
    show Steps p.tables e below (T9.setTop (mkF m 33 #[.val (.int p0), .val (.ref b1), .unset, .unset, .unset, .unset, .unset] [(.int (3 : Int32)), (.ref b1)])) _
    refine X9.aaload hx (j := (3 : Int32)) (v := (.ref w_ABOVE)) (by rw [e9]; exact Ar10.1) (State.isArrayOf_alike hZ.alike Ar10.2.1) rfl Ar10.2.2 hin10 hat10 (g := (mkF m 33 #[.val (.int p0), .val (.ref b1), .unset, .unset, .unset, .unset, .unset] [(.int (3 : Int32)), (.ref b1)])) rfl rfl (hb hby at_33) _ ?_
    show Steps p.tables e below (T9.setTop (mkF m 34 #[.val (.int p0), .val (.ref b1), .unset, .unset, .unset, .unset, .unset] [(.ref w_ABOVE)])) _
    refine XS.astoreN X9.here hx rfl (hb hby at_34) rfl rfl (l' := #[.val (.int p0), .val (.ref b1), .val (.ref w_ABOVE), .unset, .unset, .unset, .unset]) rfl ?_
    show Steps p.tables e below (T9.setTop (mkF m 35 #[.val (.int p0), .val (.ref b1), .val (.ref w_ABOVE), .unset, .unset, .unset, .unset] [])) _
    refine XS.aloadN X9.here hx rfl (hb hby at_35) rfl rfl ?_
    show Steps p.tables e below (T9.setTop (mkF m 36 #[.val (.int p0), .val (.ref b1), .val (.ref w_ABOVE), .unset, .unset, .unset, .unset] [(.ref w_ABOVE)])) _
    refine st11.trans ?_
    show Steps p.tables e below (T11.setTop (mkF m 39 #[.val (.int p0), .val (.ref b1), .val (.ref w_ABOVE), .unset, .unset, .unset, .unset] [(.ref w_AT_MOST)])) _
    refine XS.astoreN X11.here hx rfl (hb hby at_39) rfl rfl (l' := #[.val (.int p0), .val (.ref b1), .val (.ref w_ABOVE), .val (.ref w_AT_MOST), .unset, .unset, .unset]) rfl ?_
    show Steps p.tables e below (T11.setTop (mkF m 40 #[.val (.int p0), .val (.ref b1), .val (.ref w_ABOVE), .val (.ref w_AT_MOST), .unset, .unset, .unset] [])) _
    refine XS.aloadN X11.here hx rfl (hb hby at_40) rfl rfl ?_
    show Steps p.tables e below (T11.setTop (mkF m 41 #[.val (.int p0), .val (.ref b1), .val (.ref w_ABOVE), .val (.ref w_AT_MOST), .unset, .unset, .unset] [(.ref w_AT_MOST)])) _
    refine XS.ifnonnullYes X11.here hx rfl (pc0 := 41) (pc' := 46) rfl (hb hby at_41) rfl (by decide) (by decide) ?_
    show Steps p.tables e below (T11.setTop (mkF m 46 #[.val (.int p0), .val (.ref b1), .val (.ref w_ABOVE), .val (.ref w_AT_MOST), .unset, .unset, .unset] [])) _
    refine XS.aloadN X11.here hx rfl (hb hby at_46) rfl rfl ?_
    show Steps p.tables e below (T11.setTop (mkF m 47 #[.val (.int p0), .val (.ref b1), .val (.ref w_ABOVE), .val (.ref w_AT_MOST), .unset, .unset, .unset] [(.ref w_AT_MOST)])) _
    refine st12.trans ?_
    show Steps p.tables e below (T12.setTop (mkF m 50 #[.val (.int p0), .val (.ref b1), .val (.ref w_ABOVE), .val (.ref w_AT_MOST), .unset, .unset, .unset] [(.int (0 : Int32))])) _
    refine XS.aloadN X12.here hx rfl (hb hby at_50) rfl rfl ?_
    show Steps p.tables e below (T12.setTop (mkF m 51 #[.val (.int p0), .val (.ref b1), .val (.ref w_ABOVE), .val (.ref w_AT_MOST), .unset, .unset, .unset] [(.ref w_ABOVE), (.int (0 : Int32))])) _
    refine st13.trans ?_
    show Steps p.tables e below (T13.setTop (mkF m 54 #[.val (.int p0), .val (.ref b1), .val (.ref w_ABOVE), .val (.ref w_AT_MOST), .unset, .unset, .unset] [(.int (1 : Int32)), (.int (0 : Int32))])) _
    refine XS.icmpNo X13.here hx rfl (hb hby at_54) rfl (feq (by decide : ¬ ((0 : Int32) = (1 : Int32)))).1 ?_
    show Steps p.tables e below (T13.setTop (mkF m 57 #[.val (.int p0), .val (.ref b1), .val (.ref w_ABOVE), .val (.ref w_AT_MOST), .unset, .unset, .unset] [])) _
    refine XS.iconst X13.here hx rfl (hb hby at_57) ?_
    show Steps p.tables e below (T13.setTop (mkF m 58 #[.val (.int p0), .val (.ref b1), .val (.ref w_ABOVE), .val (.ref w_AT_MOST), .unset, .unset, .unset] [(.int (1 : Int32))])) _
    refine XS.goto X13.here hx rfl (pc0 := 58) (pc' := 62) rfl (hb hby at_58) (by decide) (by decide) ?_
    show Steps p.tables e below (T13.setTop (mkF m 62 #[.val (.int p0), .val (.ref b1), .val (.ref w_ABOVE), .val (.ref w_AT_MOST), .unset, .unset, .unset] [(.int (1 : Int32))])) _
    refine XS.istore X13.here hx rfl (hb hby at_62) rfl (l' := #[.val (.int p0), .val (.ref b1), .val (.ref w_ABOVE), .val (.ref w_AT_MOST), .val (.int (1 : Int32)), .unset, .unset]) rfl ?_
    show Steps p.tables e below (T13.setTop (mkF m 64 #[.val (.int p0), .val (.ref b1), .val (.ref w_ABOVE), .val (.ref w_AT_MOST), .val (.int (1 : Int32)), .unset, .unset] [])) _
    refine XS.aloadN X13.here hx rfl (hb hby at_64) rfl rfl ?_
    show Steps p.tables e below (T13.setTop (mkF m 65 #[.val (.int p0), .val (.ref b1), .val (.ref w_ABOVE), .val (.ref w_AT_MOST), .val (.int (1 : Int32)), .unset, .unset] [(.ref w_AT_MOST)])) _
    refine st14 _ ?_
    show Steps p.tables e below (T14.setTop (mkF m 68 #[.val (.int p0), .val (.ref b1), .val (.ref w_ABOVE), .val (.ref w_AT_MOST), .val (.int (1 : Int32)), .unset, .unset] [(.int (0 : Int32))])) _
    refine XS.aloadN X14.here hx rfl (hb hby at_68) rfl rfl ?_
    show Steps p.tables e below (T14.setTop (mkF m 69 #[.val (.int p0), .val (.ref b1), .val (.ref w_ABOVE), .val (.ref w_AT_MOST), .val (.int (1 : Int32)), .unset, .unset] [(.ref w_ABOVE), (.int (0 : Int32))])) _
    refine st15 _ ?_
    show Steps p.tables e below (T15.setTop (mkF m 72 #[.val (.int p0), .val (.ref b1), .val (.ref w_ABOVE), .val (.ref w_AT_MOST), .val (.int (1 : Int32)), .unset, .unset] [(.int (1 : Int32)), (.int (0 : Int32))])) _
    refine XS.icmpNo X15.here hx rfl (hb hby at_72) rfl (feq (by decide : ¬ ((0 : Int32) = (1 : Int32)))).1 ?_
    show Steps p.tables e below (T15.setTop (mkF m 75 #[.val (.int p0), .val (.ref b1), .val (.ref w_ABOVE), .val (.ref w_AT_MOST), .val (.int (1 : Int32)), .unset, .unset] [])) _
    refine XS.iconst X15.here hx rfl (hb hby at_75) ?_
    show Steps p.tables e below (T15.setTop (mkF m 76 #[.val (.int p0), .val (.ref b1), .val (.ref w_ABOVE), .val (.ref w_AT_MOST), .val (.int (1 : Int32)), .unset, .unset] [(.int (1 : Int32))])) _
    refine XS.goto X15.here hx rfl (pc0 := 76) (pc' := 80) rfl (hb hby at_76) (by decide) (by decide) ?_
    show Steps p.tables e below (T15.setTop (mkF m 80 #[.val (.int p0), .val (.ref b1), .val (.ref w_ABOVE), .val (.ref w_AT_MOST), .val (.int (1 : Int32)), .unset, .unset] [(.int (1 : Int32))])) _
    refine XS.istore X15.here hx rfl (hb hby at_80) rfl (l' := #[.val (.int p0), .val (.ref b1), .val (.ref w_ABOVE), .val (.ref w_AT_MOST), .val (.int (1 : Int32)), .val (.int (1 : Int32)), .unset]) rfl ?_
    show Steps p.tables e below (T15.setTop (mkF m 82 #[.val (.int p0), .val (.ref b1), .val (.ref w_ABOVE), .val (.ref w_AT_MOST), .val (.int (1 : Int32)), .val (.int (1 : Int32)), .unset] [])) _
    refine XS.aloadN X15.here hx rfl (hb hby at_82) rfl rfl ?_
    show Steps p.tables e below (T15.setTop (mkF m 83 #[.val (.int p0), .val (.ref b1), .val (.ref w_ABOVE), .val (.ref w_AT_MOST), .val (.int (1 : Int32)), .val (.int (1 : Int32)), .unset] [(.ref w_AT_MOST)])) _
    refine st16.trans ?_
    show Steps p.tables e below (T16.setTop (mkF m 86 #[.val (.int p0), .val (.ref b1), .val (.ref w_ABOVE), .val (.ref w_AT_MOST), .val (.int (1 : Int32)), .val (.int (1 : Int32)), .unset] [(.ref w_ABOVE)])) _
    refine XS.aloadN X16.here hx rfl (hb hby at_86) rfl rfl ?_
    show Steps p.tables e below (T16.setTop (mkF m 87 #[.val (.int p0), .val (.ref b1), .val (.ref w_ABOVE), .val (.ref w_AT_MOST), .val (.int (1 : Int32)), .val (.int (1 : Int32)), .unset] [(.ref w_ABOVE), (.ref w_ABOVE)])) _
    refine Jvm.RoadKit.acmp (g := (mkF m 87 #[.val (.int p0), .val (.ref b1), .val (.ref w_ABOVE), .val (.ref w_AT_MOST), .val (.int (1 : Int32)), .val (.int (1 : Int32)), .unset] [(.ref w_ABOVE), (.ref w_ABOVE)])) X16 hx rfl rfl rfl (pc0 := 87) (pc' := 90) (same := true) rfl (hb hby at_87) rfl (decide_eq_true rfl) (by decide) (by decide) ?_
    show Steps p.tables e below (T16.setTop (mkF m 90 #[.val (.int p0), .val (.ref b1), .val (.ref w_ABOVE), .val (.ref w_AT_MOST), .val (.int (1 : Int32)), .val (.int (1 : Int32)), .unset] [])) _
    refine XS.iconst X16.here hx rfl (hb hby at_90) ?_
    show Steps p.tables e below (T16.setTop (mkF m 91 #[.val (.int p0), .val (.ref b1), .val (.ref w_ABOVE), .val (.ref w_AT_MOST), .val (.int (1 : Int32)), .val (.int (1 : Int32)), .unset] [(.int (1 : Int32))])) _
    refine XS.goto X16.here hx rfl (pc0 := 91) (pc' := 95) rfl (hb hby at_91) (by decide) (by decide) ?_
    show Steps p.tables e below (T16.setTop (mkF m 95 #[.val (.int p0), .val (.ref b1), .val (.ref w_ABOVE), .val (.ref w_AT_MOST), .val (.int (1 : Int32)), .val (.int (1 : Int32)), .unset] [(.int (1 : Int32))])) _
    refine XS.istore X16.here hx rfl (hb hby at_95) rfl (l' := #[.val (.int p0), .val (.ref b1), .val (.ref w_ABOVE), .val (.ref w_AT_MOST), .val (.int (1 : Int32)), .val (.int (1 : Int32)), .val (.int (1 : Int32))]) rfl ?_
    show Steps p.tables e below (T16.setTop (mkF m 97 #[.val (.int p0), .val (.ref b1), .val (.ref w_ABOVE), .val (.ref w_AT_MOST), .val (.int (1 : Int32)), .val (.int (1 : Int32)), .val (.int (1 : Int32))] [])) _
    refine XS.iload X16.here hx rfl (hb hby at_97) rfl ?_
    show Steps p.tables e below (T16.setTop (mkF m 99 #[.val (.int p0), .val (.ref b1), .val (.ref w_ABOVE), .val (.ref w_AT_MOST), .val (.int (1 : Int32)), .val (.int (1 : Int32)), .val (.int (1 : Int32))] [(.int (1 : Int32))])) _
    refine XS.ifNo X16.here hx rfl (hb hby at_99) rfl ((if0 _ _).trans (feq (by decide : ¬ ((1 : Int32) = (0 : Int32)))).1) ?_
    show Steps p.tables e below (T16.setTop (mkF m 102 #[.val (.int p0), .val (.ref b1), .val (.ref w_ABOVE), .val (.ref w_AT_MOST), .val (.int (1 : Int32)), .val (.int (1 : Int32)), .val (.int (1 : Int32))] [])) _
    refine XS.iload X16.here hx rfl (hb hby at_102) rfl ?_
    show Steps p.tables e below (T16.setTop (mkF m 104 #[.val (.int p0), .val (.ref b1), .val (.ref w_ABOVE), .val (.ref w_AT_MOST), .val (.int (1 : Int32)), .val (.int (1 : Int32)), .val (.int (1 : Int32))] [(.int (1 : Int32))])) _
    refine XS.ifNo X16.here hx rfl (hb hby at_104) rfl ((if0 _ _).trans (feq (by decide : ¬ ((1 : Int32) = (0 : Int32)))).1) ?_
    show Steps p.tables e below (T16.setTop (mkF m 107 #[.val (.int p0), .val (.ref b1), .val (.ref w_ABOVE), .val (.ref w_AT_MOST), .val (.int (1 : Int32)), .val (.int (1 : Int32)), .val (.int (1 : Int32))] [])) _
    refine XS.iload X16.here hx rfl (hb hby at_107) rfl ?_
    show Steps p.tables e below (T16.setTop (mkF m 109 #[.val (.int p0), .val (.ref b1), .val (.ref w_ABOVE), .val (.ref w_AT_MOST), .val (.int (1 : Int32)), .val (.int (1 : Int32)), .val (.int (1 : Int32))] [(.int (1 : Int32))])) _
    refine XS.ifNo X16.here hx rfl (hb hby at_109) rfl ((if0 _ _).trans (feq (by decide : ¬ ((1 : Int32) = (0 : Int32)))).1) ?_
    show Steps p.tables e below (T16.setTop (mkF m 112 #[.val (.int p0), .val (.ref b1), .val (.ref w_ABOVE), .val (.ref w_AT_MOST), .val (.int (1 : Int32)), .val (.int (1 : Int32)), .val (.int (1 : Int32))] [])) _
    refine XS.iconst X16.here hx rfl (hb hby at_112) ?_
    show Steps p.tables e below (T16.setTop (mkF m 113 #[.val (.int p0), .val (.ref b1), .val (.ref w_ABOVE), .val (.ref w_AT_MOST), .val (.int (1 : Int32)), .val (.int (1 : Int32)), .val (.int (1 : Int32))] [(.int (1 : Int32))])) _
    refine XS.goto X16.here hx rfl (pc0 := 113) (pc' := 117) rfl (hb hby at_113) (by decide) (by decide) ?_
    show Steps p.tables e below (T16.setTop (mkF m 117 #[.val (.int p0), .val (.ref b1), .val (.ref w_ABOVE), .val (.ref w_AT_MOST), .val (.int (1 : Int32)), .val (.int (1 : Int32)), .val (.int (1 : Int32))] [(.int (1 : Int32))])) _
    exact retOut X16 hx Bd.returns rfl (Or.inl ⟨rfl, Or.inr (Or.inl rfl), _, rfl⟩) (hb hby at_117) hr
  · exact ⟨rfl, N16⟩
set_option maxRecDepth 65536 in
set_option maxHeartbeats 40000000 in
theorem comes_1 {Post : Tables → Env → Array Value → State → Outcome → State → Prop} (hpost : ∀ tb e args s v u, (limb_1_1.after args s (.returned v) u = true ∧ limb_1_2.after args s (.returned v) u = true) → FrameEnd s (.returned v) u (Jvm.fieldLocs frame_1_writes args s ++ Jvm.arrayLocs frame_1_arrays args s ++ Jvm.staticLocs frame_1_statics s) 16 128 → Post tb e args s (.returned v) u) :
    ArmFor flags0 classFile x code maxLocals ret World_1 tables_1 room_1 Calls_1 rest_1 Pre_1 Post := by
  intro l hfl _ _ p e ha hc hk s m args below hf hA hF happ hP
  obtain ⟨hcalls, hrest, hpre⟩ := hP
  obtain ⟨-, -, -, hnamed, -, -, -, hat⟩ := (Spec.applies_iff hf).mp happ
  obtain ⟨hg, n⟩ := and_e (Cond.before_iff.mp (show (Jvm.Cond.and given_1 narrow_1).before args s = true from hpre))
  obtain ⟨gc, g0⟩ := and_e hg
  obtain ⟨w0, rfl⟩ : ∃ w0 : Value, args = #[w0] := by
    have hs : args.size = 1 := by simpa [Cond.value, given_1] using gc
    obtain ⟨L⟩ := args
    match L, hs with
    | [w0], _ => exact ⟨w0, rfl⟩
  have hw := fun d (hd : d ∈ tables_1) => atoms_spec (ws := Jvm.Cond.code x code maxLocals ret :: tables_1) hat d (List.mem_cons_of_mem _ hd)
  obtain ⟨i0, ei0⟩ := is_v g0
  obtain rfl : w0 = (.int i0) := Option.some.inj ei0
  obtain ⟨n1, n2⟩ := and_e n
  obtain ⟨n21, n22⟩ := and_e n2
  obtain ⟨n221, n222⟩ := and_e n22
  obtain ⟨n2221, n2222⟩ := and_e n222
  obtain ⟨n22221, n22222⟩ := and_e n2222
  obtain ⟨n222221, n222222⟩ := and_e n22222
  obtain ⟨n2222221, n2222222⟩ := and_e n222222
  obtain ⟨w_AT_MOST, v_w_AT_MOST⟩ := exa_v n1
  have S_w_AT_MOST : Sta s s.heap "com/example/covenantry/covenantry/Direction" "AT_MOST" "Lcom/example/covenantry/covenantry/Direction;" (.ref w_AT_MOST) := Sta.start v_w_AT_MOST (Or.inr ⟨(hw _ (List.mem_of_getElem? (i := 3) rfl)), (hw _ (List.mem_of_getElem? (i := 4) rfl))⟩)
  have E_w_AT_MOST := Exa.start v_w_AT_MOST n1
  obtain ⟨w_AT_LEAST, v_w_AT_LEAST⟩ := exa_v n21
  have S_w_AT_LEAST : Sta s s.heap "com/example/covenantry/covenantry/Direction" "AT_LEAST" "Lcom/example/covenantry/covenantry/Direction;" (.ref w_AT_LEAST) := Sta.start v_w_AT_LEAST (Or.inr ⟨(hw _ (List.mem_of_getElem? (i := 3) rfl)), (hw _ (List.mem_of_getElem? (i := 7) rfl))⟩)
  have E_w_AT_LEAST := Exa.start v_w_AT_LEAST n21
  obtain ⟨w_BELOW, v_w_BELOW⟩ := exa_v n221
  have S_w_BELOW : Sta s s.heap "com/example/covenantry/covenantry/Direction" "BELOW" "Lcom/example/covenantry/covenantry/Direction;" (.ref w_BELOW) := Sta.start v_w_BELOW (Or.inr ⟨(hw _ (List.mem_of_getElem? (i := 3) rfl)), (hw _ (List.mem_of_getElem? (i := 9) rfl))⟩)
  have E_w_BELOW := Exa.start v_w_BELOW n221
  obtain ⟨w_ABOVE, v_w_ABOVE⟩ := exa_v n2221
  have S_w_ABOVE : Sta s s.heap "com/example/covenantry/covenantry/Direction" "ABOVE" "Lcom/example/covenantry/covenantry/Direction;" (.ref w_ABOVE) := Sta.start v_w_ABOVE (Or.inr ⟨(hw _ (List.mem_of_getElem? (i := 3) rfl)), (hw _ (List.mem_of_getElem? (i := 11) rfl))⟩)
  have E_w_ABOVE := Exa.start v_w_ABOVE n2221
  have F_ordinal_w_AT_MOST := own_fld v_w_AT_MOST n22221
  have F_ordinal_w_ABOVE := own_fld v_w_ABOVE n222221
  have F_ordinal_w_AT_LEAST := own_fld v_w_AT_LEAST n2222221
  have F_ordinal_w_BELOW := own_fld v_w_BELOW n2222222
  have G : Glob s s.heap w_AT_MOST w_AT_LEAST w_BELOW w_ABOVE := ⟨S_w_AT_MOST, E_w_AT_MOST, S_w_AT_LEAST, E_w_AT_LEAST, S_w_BELOW, E_w_BELOW, S_w_ABOVE, E_w_ABOVE, F_ordinal_w_AT_MOST, F_ordinal_w_ABOVE, F_ordinal_w_AT_LEAST, F_ordinal_w_BELOW⟩
  rcases own_cases_and4 i0 with hi | hi | hi | hi
  · obtain ⟨n, o, h1, h2, h3, _, L, rfl, ⟨rfl, N⟩, hq⟩ := law_0 l s _ hw tables_1 w_AT_MOST w_AT_LEAST w_BELOW w_ABOVE s.heap s.heap.size (Nat.le_refl _) G i0 hi p e ha hc hk s m _ below hf ((Spec.applies_iff_loose hf).mp happ).1 ⟨rfl, State.Warmed39.refl s, rfl⟩ trivial
    exact ⟨n, _, h1, h2, h3, hpost _ _ _ _ _ _ ⟨Cond.after_iff.mpr rfl, Cond.after_iff.mpr (eq_i res_at (Term.int_eval (1)) rfl)⟩ ⟨hq.1, hq.2.1, (hq.2.2.sift fun y hy => Or.inr (N y hy)).mono (by decide) (by decide)⟩⟩
  · obtain ⟨n, o, h1, h2, h3, _, L, rfl, ⟨rfl, N⟩, hq⟩ := law_1 l s _ hw tables_1 w_AT_MOST w_AT_LEAST w_BELOW w_ABOVE s.heap s.heap.size (Nat.le_refl _) G i0 hi p e ha hc hk s m _ below hf ((Spec.applies_iff_loose hf).mp happ).1 ⟨rfl, State.Warmed39.refl s, rfl⟩ trivial
    exact ⟨n, _, h1, h2, h3, hpost _ _ _ _ _ _ ⟨Cond.after_iff.mpr rfl, Cond.after_iff.mpr (eq_i res_at (Term.int_eval (1)) rfl)⟩ ⟨hq.1, hq.2.1, (hq.2.2.sift fun y hy => Or.inr (N y hy)).mono (by decide) (by decide)⟩⟩
  · obtain ⟨n, o, h1, h2, h3, _, L, rfl, ⟨rfl, N⟩, hq⟩ := law_2 l s _ hw tables_1 w_AT_MOST w_AT_LEAST w_BELOW w_ABOVE s.heap s.heap.size (Nat.le_refl _) G i0 hi p e ha hc hk s m _ below hf ((Spec.applies_iff_loose hf).mp happ).1 ⟨rfl, State.Warmed39.refl s, rfl⟩ trivial
    exact ⟨n, _, h1, h2, h3, hpost _ _ _ _ _ _ ⟨Cond.after_iff.mpr rfl, Cond.after_iff.mpr (eq_i res_at (Term.int_eval (1)) rfl)⟩ ⟨hq.1, hq.2.1, (hq.2.2.sift fun y hy => Or.inr (N y hy)).mono (by decide) (by decide)⟩⟩
  · obtain ⟨n, o, h1, h2, h3, _, L, rfl, ⟨rfl, N⟩, hq⟩ := law_3 l s _ hw tables_1 w_AT_MOST w_AT_LEAST w_BELOW w_ABOVE s.heap s.heap.size (Nat.le_refl _) G i0 hi p e ha hc hk s m _ below hf ((Spec.applies_iff_loose hf).mp happ).1 ⟨rfl, State.Warmed39.refl s, rfl⟩ trivial
    exact ⟨n, _, h1, h2, h3, hpost _ _ _ _ _ _ ⟨Cond.after_iff.mpr rfl, Cond.after_iff.mpr (eq_i res_at (Term.int_eval (1)) rfl)⟩ ⟨hq.1, hq.2.1, (hq.2.2.sift fun y hy => Or.inr (N y hy)).mono (by decide) (by decide)⟩⟩
theorem main_1_1 : Claimed_1_1 := comes_1 fun _ _ _ _ _ _ h hF => ⟨h.1, hF⟩
theorem main_1_2 : Claimed_1_2 := comes_1 fun _ _ _ _ _ _ h hF => ⟨h.2, hF⟩
end Jvm.Pilot.@@N@@
namespace Jvm.Pilot.@@N@@
open Jvm Jvm.ClassFile Sem Op Lib Jvm.Free Jvm.Stand Jvm.Pilot.@@N@@.Jvm.D
/-! MADE BY PROGRAM (witnessworld.py) out of the Statement's table words and the real class files: 11 classes; the members and pool entries that the words name. The judged class is class 1, her method 1. -/
namespace start1
open Jvm.ClassFile
def u (s : String) : CpInfo := .utf8 (stringToUtf16 s)
/-- a pool by its gaps: so many unusable entries, then the entry; so many at the end -/
def gap : Nat → List CpInfo → List CpInfo
  | 0, r => r
  | n + 1, r => .unusable :: gap n r
def poolList (es : List (Nat × CpInfo)) (last : Nat) : List CpInfo := es.foldr (fun e r => gap e.1 (e.2 :: r)) (gap last [])
def pool (es : List (Nat × CpInfo)) (last : Nat) : Array CpInfo := ⟨poolList es last⟩
def fileOf (pool : Array CpInfo) (this : Nat) (attrs : Array Attribute := #[]) (ms : Array MethodInfo := #[]) (fl : Nat := 33) (sup : Nat := 0) (ifs : Array Nat := #[]) (fds : Array FieldInfo := #[]) : ClassFile where
  minorVersion := 0
  majorVersion := 65
  constantPool := pool
  accessFlags := fl
  thisClass := this
  superClass := sup
  interfaces := ifs
  fields := fds
  methods := ms
  attributes := attrs
def plain (name : String) (sup : Option ClassId) : Class where
  name := name
  kind := .ordinary
  loader := none
  accessFlags := 33
  super := sup
  interfaces := #[]
  cf := none
  fields := #[]
  methods := #[]
  instanceTypes := #[]
  staticTypes := #[]
  resolved := #[]
  callSites := []
  init := .initialized
  statics := none
  mirror := none

def pool0 : Array CpInfo := pool [(5, u "<init>"), (0, u "()V"), (1, .class_ 10), (1, u "java/lang/Object")] 113

def k0m0 : Method := { name := "<init>", desc := "()V", sig := { parameters := [], returnType := none }, accessFlags := 1, code := none }
/-- java/lang/Object -/
def k0 : Class := { plain "java/lang/Object" none with
  accessFlags := 33
  interfaces := #[]
  cf := some (fileOf pool0 8 #[] #[{ accessFlags := 1, nameIndex := 5, descriptorIndex := 6, attributes := #[] }] 33 0 #[] #[])
  fields := #[]
  methods := #[k0m0]
  instanceTypes := #[]
  staticTypes := #[]
  resolved := Array.replicate 124 none
  statics := none }

def pool1 : Array CpInfo := pool [(2, .class_ 4), (1, u "java/lang/Object"), (0, u "<init>"), (0, u "()V"), (0, .class_ 8), (0, u "com/example/covenantry/covenantry/Direction"), (0, .fieldref 7 10), (0, .nameAndType 11 12), (0, u "AT_MOST"), (0, u "Lcom/example/covenantry/covenantry/Direction;"), (0, .fieldref 7 14), (0, .nameAndType 15 12), (0, u "AT_LEAST"), (0, .fieldref 7 17), (0, .nameAndType 18 12), (0, u "BELOW"), (0, .fieldref 7 20), (0, .nameAndType 21 12), (0, u "ABOVE"), (0, .methodref 7 23), (0, .nameAndType 24 25), (0, u "opposite"), (0, u "()Lcom/example/covenantry/covenantry/Direction;"), (0, .methodref 7 27), (0, .nameAndType 28 29), (0, u "floor"), (0, u "()Z"), (0, .methodref 31 32), (0, .class_ 33), (0, .nameAndType 34 35), (0, u "com/example/covenantry/covenantry/DirectionOppositePinLaw"), (0, u "strict"), (0, u "(Lcom/example/covenantry/covenantry/Direction;)Z"), (2, u "law"), (0, u "(I)Z")] 5

def k1m0 : Method := { name := "<init>", desc := "()V", sig := { parameters := [], returnType := none }, accessFlags := 1, code := none }
def k1c1 : Code := { maxStack := 4, maxLocals := 7, code := code, exceptionTable := #[], attributes := #[] }
def k1m1 : Method := { name := "law", desc := "(I)Z", sig := { parameters := [.int], returnType := some .boolean }, accessFlags := 9, code := some k1c1 }
def k1c2 : Code := { maxStack := 2, maxLocals := 1, code := method_3_code, exceptionTable := #[], attributes := #[] }
def k1m2 : Method := { name := "strict", desc := "(Lcom/example/covenantry/covenantry/Direction;)Z", sig := { parameters := [(.object "com/example/covenantry/covenantry/Direction")], returnType := some .boolean }, accessFlags := 10, code := some k1c2 }
/-- com/example/covenantry/covenantry/DirectionOppositePinLaw -/
def k1 : Class := { plain "com/example/covenantry/covenantry/DirectionOppositePinLaw" (some 0) with
  accessFlags := 49
  interfaces := #[]
  cf := some (fileOf pool1 31 #[] #[{ accessFlags := 1, nameIndex := 5, descriptorIndex := 6, attributes := #[] }, { accessFlags := 9, nameIndex := 38, descriptorIndex := 39, attributes := #[] }, { accessFlags := 10, nameIndex := 34, descriptorIndex := 35, attributes := #[] }] 49 2 #[] #[])
  fields := #[]
  methods := #[k1m0, k1m1, k1m2]
  instanceTypes := #[]
  staticTypes := #[]
  resolved := Array.replicate 45 none
  statics := none }

def pool2 : Array CpInfo := pool [(1, .class_ 2), (0, u "java/lang/constant/Constable"), (0, .class_ 4), (0, u "java/lang/Object")] 6

/-- java/lang/constant/Constable -/
def k2 : Class := { plain "java/lang/constant/Constable" (some 0) with
  accessFlags := 1537
  interfaces := #[]
  cf := some (fileOf pool2 1 #[] #[] 1537 3 #[] #[])
  fields := #[]
  methods := #[]
  instanceTypes := #[]
  staticTypes := #[]
  resolved := Array.replicate 11 none
  statics := none }

def pool3 : Array CpInfo := pool [(1, .class_ 2), (0, u "java/lang/Comparable"), (0, .class_ 4), (0, u "java/lang/Object")] 7

/-- java/lang/Comparable -/
def k3 : Class := { plain "java/lang/Comparable" (some 0) with
  accessFlags := 1537
  interfaces := #[]
  cf := some (fileOf pool3 1 #[] #[] 1537 3 #[] #[])
  fields := #[]
  methods := #[]
  instanceTypes := #[]
  staticTypes := #[]
  resolved := Array.replicate 12 none
  statics := none }

def pool4 : Array CpInfo := pool [(1, .class_ 2), (0, u "java/io/Serializable"), (0, .class_ 4), (0, u "java/lang/Object")] 2

/-- java/io/Serializable -/
def k4 : Class := { plain "java/io/Serializable" (some 0) with
  accessFlags := 1537
  interfaces := #[]
  cf := some (fileOf pool4 1 #[] #[] 1537 3 #[] #[])
  fields := #[]
  methods := #[]
  instanceTypes := #[]
  staticTypes := #[]
  resolved := Array.replicate 7 none
  statics := none }

def pool5 : Array CpInfo := pool [(2, .class_ 4), (1, u "java/lang/Enum"), (0, u "name"), (0, u "Ljava/lang/String;"), (0, .fieldref 2 8), (0, .nameAndType 9 10), (0, u "ordinal"), (0, u "I"), (1, .class_ 14), (1, u "java/lang/Object"), (4, u "hash"), (86, .class_ 108), (1, u "java/lang/Enum$EnumDesc"), (2, .class_ 112), (0, u "java/lang/constant/Constable"), (0, .class_ 114), (0, u "java/lang/Comparable"), (0, .class_ 116), (0, u "java/io/Serializable"), (9, u "()I")] 77

def k5c0 : Code := { maxStack := 1, maxLocals := 1, code := jdk_37_method_2_code, exceptionTable := #[], attributes := #[] }
def k5m0 : Method := { name := "ordinal", desc := "()I", sig := { parameters := [], returnType := some .int }, accessFlags := 17, code := some k5c0 }
/-- java/lang/Enum -/
def k5 : Class := { plain "java/lang/Enum" (some 0) with
  accessFlags := 1057
  interfaces := #[2, 3, 4]
  cf := some (fileOf pool5 2 #[.nestMembers #[106]] #[{ accessFlags := 17, nameIndex := 9, descriptorIndex := 126, attributes := #[] }] 1057 12 #[111, 113, 115] #[{ accessFlags := 18, nameIndex := 5, descriptorIndex := 6, attributes := #[] }, { accessFlags := 18, nameIndex := 9, descriptorIndex := 10, attributes := #[] }, { accessFlags := 2, nameIndex := 19, descriptorIndex := 10, attributes := #[] }])
  fields := #[{ name := "name", type := (.object "java/lang/String"), accessFlags := 18, slot := 0, constantValue := 0 }, { name := "ordinal", type := .int, accessFlags := 18, slot := 1, constantValue := 0 }, { name := "hash", type := .int, accessFlags := 2, slot := 2, constantValue := 0 }]
  methods := #[k5m0]
  instanceTypes := #[(.object "java/lang/String"), .int, .int]
  staticTypes := #[]
  resolved := Array.replicate 204 none
  statics := none }

def pool6 : Array CpInfo := pool [(1, .class_ 2), (0, u "com/example/covenantry/covenantry/Direction"), (0, .fieldref 1 4), (0, .nameAndType 5 6), (0, u "AT_MOST"), (0, u "Lcom/example/covenantry/covenantry/Direction;"), (0, .fieldref 1 8), (0, .nameAndType 9 6), (0, u "AT_LEAST"), (0, .fieldref 1 11), (0, .nameAndType 12 6), (0, u "BELOW"), (0, .fieldref 1 14), (0, .nameAndType 15 6), (0, u "ABOVE"), (2, u "$VALUES"), (0, u "[Lcom/example/covenantry/covenantry/Direction;"), (6, .class_ 28), (1, u "java/lang/Enum"), (8, u "text"), (0, u "Ljava/lang/String;"), (2, u "WORDS"), (0, u "Ljava/util/Map;"), (33, .methodref 1 77), (0, .nameAndType 78 79), (0, u "ordinal"), (0, u "()I"), (7, u "floor"), (0, u "()Z"), (135, u "COMPARISON"), (13, u "opposite"), (0, u "()Lcom/example/covenantry/covenantry/Direction;")] 35

def k6c0 : Code := { maxStack := 2, maxLocals := 1, code := prog_5_method_6_code, exceptionTable := #[], attributes := #[] }
def k6m0 : Method := { name := "floor", desc := "()Z", sig := { parameters := [], returnType := some .boolean }, accessFlags := 0, code := some k6c0 }
def k6c1 : Code := { maxStack := 4, maxLocals := 1, code := prog_5_method_9_code, exceptionTable := #[], attributes := #[] }
def k6m1 : Method := { name := "opposite", desc := "()Lcom/example/covenantry/covenantry/Direction;", sig := { parameters := [], returnType := some (.object "com/example/covenantry/covenantry/Direction") }, accessFlags := 0, code := some k6c1 }
/-- com/example/covenantry/covenantry/Direction -/
def k6 : Class := { plain "com/example/covenantry/covenantry/Direction" (some 5) with
  accessFlags := 16432
  interfaces := #[]
  cf := some (fileOf pool6 1 #[] #[{ accessFlags := 0, nameIndex := 87, descriptorIndex := 88, attributes := #[] }, { accessFlags := 0, nameIndex := 238, descriptorIndex := 239, attributes := #[] }] 16432 26 #[] #[{ accessFlags := 16409, nameIndex := 5, descriptorIndex := 6, attributes := #[] }, { accessFlags := 16409, nameIndex := 9, descriptorIndex := 6, attributes := #[] }, { accessFlags := 16409, nameIndex := 12, descriptorIndex := 6, attributes := #[] }, { accessFlags := 16409, nameIndex := 15, descriptorIndex := 6, attributes := #[] }, { accessFlags := 26, nameIndex := 41, descriptorIndex := 42, attributes := #[] }, { accessFlags := 24, nameIndex := 224, descriptorIndex := 38, attributes := #[] }, { accessFlags := 18, nameIndex := 37, descriptorIndex := 38, attributes := #[] }, { accessFlags := 4122, nameIndex := 18, descriptorIndex := 19, attributes := #[] }])
  fields := #[{ name := "AT_MOST", type := (.object "com/example/covenantry/covenantry/Direction"), accessFlags := 16409, slot := 0, constantValue := 0 }, { name := "AT_LEAST", type := (.object "com/example/covenantry/covenantry/Direction"), accessFlags := 16409, slot := 1, constantValue := 0 }, { name := "BELOW", type := (.object "com/example/covenantry/covenantry/Direction"), accessFlags := 16409, slot := 2, constantValue := 0 }, { name := "ABOVE", type := (.object "com/example/covenantry/covenantry/Direction"), accessFlags := 16409, slot := 3, constantValue := 0 }, { name := "WORDS", type := (.object "java/util/Map"), accessFlags := 26, slot := 4, constantValue := 0 }, { name := "COMPARISON", type := (.object "java/lang/String"), accessFlags := 24, slot := 5, constantValue := 0 }, { name := "text", type := (.object "java/lang/String"), accessFlags := 18, slot := 3, constantValue := 0 }, { name := "$VALUES", type := (.array (.object "com/example/covenantry/covenantry/Direction")), accessFlags := 4122, slot := 6, constantValue := 0 }]
  methods := #[k6m0, k6m1]
  instanceTypes := #[(.object "java/lang/String"), .int, .int, (.object "java/lang/String")]
  staticTypes := #[(.object "com/example/covenantry/covenantry/Direction"), (.object "com/example/covenantry/covenantry/Direction"), (.object "com/example/covenantry/covenantry/Direction"), (.object "com/example/covenantry/covenantry/Direction"), (.object "java/util/Map"), (.object "java/lang/String"), (.array (.object "com/example/covenantry/covenantry/Direction"))]
  resolved := Array.replicate 275 none
  statics := some 0 }

def pool7 : Array CpInfo := pool [(1, u "java/lang/Cloneable"), (0, .class_ 1), (0, u "java/lang/Object"), (0, .class_ 3)] 3

/-- java/lang/Cloneable -/
def k7 : Class := { plain "java/lang/Cloneable" (some 0) with
  accessFlags := 1537
  interfaces := #[]
  cf := some (fileOf pool7 2 #[] #[] 1537 4 #[] #[])
  fields := #[]
  methods := #[]
  instanceTypes := #[]
  staticTypes := #[]
  resolved := Array.replicate 8 none
  statics := none }

/-- the primitive byte -/
def k8 : Class := { plain "byte" none with kind := .primitive 'B', accessFlags := 0x411 }
/-- [B -/
def k9 : Class := { plain "[B" (some 0) with kind := .array 8 .byte, interfaces := #[7, 4], accessFlags := 1041 }

/-- [Lcom/example/covenantry/covenantry/Direction; -/
def k10 : Class := { plain "[Lcom/example/covenantry/covenantry/Direction;" (some 0) with kind := .array 6 (.object "com/example/covenantry/covenantry/Direction"), interfaces := #[7, 4], accessFlags := 1041 }

def heap : Heap := #[{ cls := 6, slots := #[.ref 1, .ref 2, .ref 3, .ref 4, .null, .null, .null], vm := .statics 6 },
  { cls := 6, slots := #[.null, .int 0, .int 0, .null], vm := .none },
  { cls := 6, slots := #[.null, .int 1, .int 0, .null], vm := .none },
  { cls := 6, slots := #[.null, .int 2, .int 0, .null], vm := .none },
  { cls := 6, slots := #[.null, .int 3, .int 0, .null], vm := .none }]
def classes : Array Class := #[k0, k1, k2, k3, k4, k5, k6, k7, k8, k9, k10]
def interned : List (Array UInt16 × Addr) := []
def slotsUsed : Nat := 23
def theMethod : MethodId := ⟨1, 1⟩
def args0 : Array Value := #[.int 5]
def aboutOver (below : List Frame) : State where
  vm := { classes := classes, interned := interned.toArray }
  heap := heap
  slotsUsed := slotsUsed
  threads := #[{ frames := .invoking theMethod args0 :: below }]
def below0 : List Frame := [.native { method := ⟨0, 0⟩, args := #[] }]
def about1 : State := aboutOver below0
def p0 : Program := .bare "" "" ""
def e0 : Env := launch0.env 0 0 0
theorem w_frames : about1.frames = Frame.invoking theMethod args0 :: below0 := rfl
set_option maxRecDepth 65536 in
theorem w_args : argsFit about1.vm theMethod args0 = true := by decide +kernel
set_option maxRecDepth 65536 in
theorem w_heap : heapFits about1 = true := by decide +kernel
set_option maxRecDepth 65536 in
theorem w_runnable : about1.curStatus? = some .runnable := by decide +kernel
set_option maxRecDepth 65536 in
theorem w_alone : about1.alone = true := by decide +kernel
set_option maxRecDepth 65536 in
theorem w_named : about1.methodNamed? x = some theMethod := by decide +kernel
set_option maxRecDepth 65536 in
theorem w_hears : about1.hears theMethod below0 = true := by decide +kernel
set_option maxRecDepth 65536 in
theorem w_ripe : about1.ripe theMethod args0 below0 = true := by decide +kernel
theorem w_running : about1.status = .running := rfl
set_option maxRecDepth 65536 in
theorem w_room : about1.hasRoom e0.platform room_1 = true :=
  launch0.hasRoom_least _ room_1 (by decide +kernel) (by decide +kernel) (by decide +kernel) (by decide +kernel) (by decide +kernel) (by decide +kernel)
theorem allAtoms_all (ts : List Jvm.Cond) (a : Array Jvm.Value) (st : Jvm.State) : (allAtoms ts).before a st = ts.all (fun c => c.before a st) := by
  induction ts with
  | nil => rfl
  | cons c t ih =>
    show (Jvm.Cond.and c (allAtoms t)).before a st = _
    rw [Jvm.Cond.before_and, ih, List.all_cons]
def words1 : List Jvm.Cond := Jvm.Cond.code x code maxLocals ret :: tables_1
/-- a 'code' word, met by the world's own term for the bytes: nothing is compared byte by byte -/
theorem code_word {y : MethodName} {bytes : ByteArray} {mx : Nat} {rt : Option FieldType} {a : Array Value} {s : State} {m : MethodId} {meth : Method} {c : Code} (h1 : s.methodNamed? y = some m) (h2 : s.vm.method? m = some meth) (h3 : meth.code = some c) (h4 : c.code = bytes)
    (h5 : (c.maxLocals == mx && c.exceptionTable.isEmpty && decide (c.maxStack ≤ mostOperands) && decide (meth.sig.returnType = rt) && !meth.locks && decide (parseMethodDescriptor y.desc = some meth.sig)) = true) : (Jvm.Cond.code y bytes mx rt).before a s = true := by
  simp only [Bool.and_eq_true, beq_iff_eq, Bool.not_eq_true', decide_eq_true_eq] at h5
  obtain ⟨⟨⟨⟨⟨g1, g2⟩, g3⟩, g4⟩, g5⟩, g6⟩ := h5
  simp [Cond.before, Cond.holds, Cond.value, h1, h2, h3, h4, g1, g2, g3, g4, g5, g6]
def isCode : Jvm.Cond → Bool
  | .code _ _ _ _ => true
  | _ => false
theorem all_split {L : List Jvm.Cond} {P : Jvm.Cond → Bool} (h1 : L.all (fun c => isCode c || P c) = true) (h2 : ∀ c ∈ L.filter isCode, P c = true) : L.all P = true := by
  refine List.all_eq_true.mpr fun c hc => ?_
  have h := List.all_eq_true.mp h1 c hc
  rcases Bool.eq_false_or_eq_true (isCode c) with hi | hi
  · exact h2 c (List.mem_filter.mpr ⟨hc, hi⟩)
  · simpa [hi] using h
set_option maxRecDepth 65536 in
theorem w_c0 : (Jvm.Cond.code x code maxLocals ret).before args0 about1 = true := code_word (m := ⟨1, 1⟩) (meth := k1m1) (c := k1c1) (by decide +kernel) rfl rfl rfl (by decide +kernel)
set_option maxRecDepth 65536 in
theorem w_c1 : (Jvm.Cond.code ({ cls := "com/example/covenantry/covenantry/Direction", name := "opposite", desc := "()Lcom/example/covenantry/covenantry/Direction;" } : Jvm.MethodName) prog_5_method_9_code (1 : Nat) (Option.some (Jvm.ClassFile.FieldType.object "com/example/covenantry/covenantry/Direction"))).before args0 about1 = true := code_word (m := ⟨6, 1⟩) (meth := k6m1) (c := k6c1) (by decide +kernel) rfl rfl rfl (by decide +kernel)
set_option maxRecDepth 65536 in
theorem w_c2 : (Jvm.Cond.code ({ cls := "java/lang/Enum", name := "ordinal", desc := "()I" } : Jvm.MethodName) jdk_37_method_2_code (1 : Nat) (Option.some Jvm.ClassFile.FieldType.int)).before args0 about1 = true := code_word (m := ⟨5, 0⟩) (meth := k5m0) (c := k5c0) (by decide +kernel) rfl rfl rfl (by decide +kernel)
set_option maxRecDepth 65536 in
theorem w_c3 : (Jvm.Cond.code ({ cls := "com/example/covenantry/covenantry/Direction", name := "floor", desc := "()Z" } : Jvm.MethodName) prog_5_method_6_code (1 : Nat) (Option.some Jvm.ClassFile.FieldType.boolean)).before args0 about1 = true := code_word (m := ⟨6, 0⟩) (meth := k6m0) (c := k6c0) (by decide +kernel) rfl rfl rfl (by decide +kernel)
set_option maxRecDepth 65536 in
theorem w_c4 : (Jvm.Cond.code ({ cls := "com/example/covenantry/covenantry/DirectionOppositePinLaw", name := "strict", desc := "(Lcom/example/covenantry/covenantry/Direction;)Z" } : Jvm.MethodName) method_3_code (1 : Nat) (Option.some Jvm.ClassFile.FieldType.boolean)).before args0 about1 = true := code_word (m := ⟨1, 2⟩) (meth := k1m2) (c := k1c2) (by decide +kernel) rfl rfl rfl (by decide +kernel)
def codes1 : List Jvm.Cond := [Jvm.Cond.code x code maxLocals ret, Jvm.Cond.code ({ cls := "com/example/covenantry/covenantry/Direction", name := "opposite", desc := "()Lcom/example/covenantry/covenantry/Direction;" } : Jvm.MethodName) prog_5_method_9_code (1 : Nat) (Option.some (Jvm.ClassFile.FieldType.object "com/example/covenantry/covenantry/Direction")), Jvm.Cond.code ({ cls := "java/lang/Enum", name := "ordinal", desc := "()I" } : Jvm.MethodName) jdk_37_method_2_code (1 : Nat) (Option.some Jvm.ClassFile.FieldType.int), Jvm.Cond.code ({ cls := "com/example/covenantry/covenantry/Direction", name := "floor", desc := "()Z" } : Jvm.MethodName) prog_5_method_6_code (1 : Nat) (Option.some Jvm.ClassFile.FieldType.boolean), Jvm.Cond.code ({ cls := "com/example/covenantry/covenantry/DirectionOppositePinLaw", name := "strict", desc := "(Lcom/example/covenantry/covenantry/Direction;)Z" } : Jvm.MethodName) method_3_code (1 : Nat) (Option.some Jvm.ClassFile.FieldType.boolean)]
set_option maxRecDepth 65536 in
theorem codes_eq : words1.filter isCode = codes1 := rfl
theorem w_codes : ∀ c ∈ words1.filter isCode, c.before args0 about1 = true := by
  rw [codes_eq]
  intro c hc
  simp only [codes1, List.mem_cons, List.not_mem_nil, or_false] at hc
  rcases hc with rfl | rfl | rfl | rfl | rfl
  · exact w_c0
  · exact w_c1
  · exact w_c2
  · exact w_c3
  · exact w_c4
set_option maxRecDepth 65536 in
theorem w_t1 : (words1.take 24).all (fun c => isCode c || c.before args0 about1) = true := by decide +kernel
set_option maxRecDepth 65536 in
theorem w_t2 : (words1.drop 24).all (fun c => isCode c || c.before args0 about1) = true := by decide +kernel
theorem w_tables : (allAtoms (Jvm.Cond.code x code maxLocals ret :: tables_1)).before args0 about1 = true := by
  rw [allAtoms_all]
  show words1.all (fun c => c.before args0 about1) = true
  refine all_split ?_ w_codes
  rw [← List.take_append_drop 24 words1, List.all_append, w_t1, w_t2]
  rfl
set_option maxRecDepth 65536 in
theorem w_case : (Jvm.Cond.and given_1 narrow_1).before args0 about1 = true := by decide +kernel
theorem w_applies : (headSpec (Jvm.Cond.code x code maxLocals ret :: tables_1) room_1).applies x e0.platform about1 = true :=
  (Spec.applies_iff w_frames).mpr ⟨w_running, w_runnable, w_alone, w_named, w_hears, w_ripe, w_room, w_tables⟩
theorem atStart : AtStart classFile x code maxLocals ret World_1 tables_1 room_1 Calls_1 rest_1 Pre_1 launch0 p0 e0 about1 theMethod args0 below0 :=
  ⟨lists_1, trivial, launch0.admits_env _ _ _, launch0.least_env, fairChoices_fair.cas, fairChoices_fair.clock, w_frames, w_args, w_heap, w_applies, trivial, trivial, w_case⟩
end start1
theorem witness_1 : WitnessClaimed_1 := ⟨start1.p0, start1.e0, start1.about1, start1.theMethod, start1.args0, start1.below0, start1.atStart⟩
end Jvm.Pilot.@@N@@
