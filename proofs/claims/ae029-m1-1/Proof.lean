import JvmDerived
import JvmDerived.Pilot.@@N@@Statement
import JvmDerived.Pilot.@@N@@Code
set_option linter.unusedVariables false
set_option linter.unusedSimpArgs false
@@BLOCK:NumsL.lean.txt@@
namespace Jvm.Pilot.@@N@@
open Jvm Jvm.ClassFile Sem Op Lib Jvm.Free Jvm.Stand Jvm.LawKit Jvm.RoadKit Bundle Jvm.Pilot.@@N@@.Jvm.D
/-! 1. small laws of this text: from the case's words to facts; the remainder's cases -/
theorem own_fld {Z : State} {args : Array Value} {a : Addr} {t : Term} {C n d : String} {k : Int32} (ev : t.eval args Z none [] Z = some (.ref a)) (h : (Jvm.Cond.eq (Term.field t C n d) (Term.int k)).value args Z none Z [] = some true) : Fld Z Z.heap a C n d (.int k) := by
  obtain ⟨x, y, h1, h2, hk, hk'⟩ := cmp_v (Or.inl h)
  have hy : y = .int k := Option.some.inj (h2.symm.trans (Term.int_eval k))
  subst hy
  obtain ⟨z, rfl⟩ := hk'
  have q : z = k := by simpa [Cond.value, h1, h2] using h
  subst q
  exact Fld.start ((fld_at ev).symm.trans h1)
theorem own_rem {x n : Int32} (h0 : 0 ≤ x.toInt) (hn : 0 < n.toInt) : 0 ≤ (x % n).toInt ∧ (x % n).toInt < n.toInt := by
  rw [Int32.toInt_mod]
  refine ⟨Int.tmod_nonneg _ h0, ?_⟩
  exact Int.tmod_lt_of_pos _ hn
theorem own_mask (x : Int32) : 0 ≤ (x &&& (2147483647 : Int32)).toInt := by
  rw [Jvm.Kit.i32_mask x 2147483647 (k := 31) (by decide) (by decide)]
  omega
def QR (r : Option Value) (h0 : Heap) (n0 : Nat) (v : Option Value) (h : Heap) (L : List Loc) : Prop := v = r ∧ Fr n0 L ∧ h = h0
def QL (r : Option Value) (h0 : Heap) (n0 : Nat) (v : Option Value) (h : Heap) (L : List Loc) : Prop := v = r ∧ Fr n0 L
def Glob (Z : State) (h : Heap) (w_INT : Addr) (w_BYTE : Addr) (w_CHAR : Addr) (w_OBJECT : Addr) (w_FLOAT : Addr) (w_DOUBLE : Addr) (w_LONG : Addr) (w_SHORT : Addr) (w_BOOLEAN : Addr) : Prop := Sta Z h "com/example/refleash/refleash/hprof/BasicType" "INT" "Lcom/example/refleash/refleash/hprof/BasicType;" (.ref w_INT) ∧ Exa Z h w_INT "com/example/refleash/refleash/hprof/BasicType" ∧ Fld Z h w_INT "java/lang/Enum" "ordinal" "I" (.int (7 : Int32)) ∧ Sta Z h "com/example/refleash/refleash/hprof/BasicType" "BYTE" "Lcom/example/refleash/refleash/hprof/BasicType;" (.ref w_BYTE) ∧ Exa Z h w_BYTE "com/example/refleash/refleash/hprof/BasicType" ∧ Fld Z h w_BYTE "java/lang/Enum" "ordinal" "I" (.int (5 : Int32)) ∧ Sta Z h "com/example/refleash/refleash/hprof/BasicType" "CHAR" "Lcom/example/refleash/refleash/hprof/BasicType;" (.ref w_CHAR) ∧ Exa Z h w_CHAR "com/example/refleash/refleash/hprof/BasicType" ∧ Fld Z h w_CHAR "java/lang/Enum" "ordinal" "I" (.int (2 : Int32)) ∧ Sta Z h "com/example/refleash/refleash/hprof/BasicType" "OBJECT" "Lcom/example/refleash/refleash/hprof/BasicType;" (.ref w_OBJECT) ∧ Exa Z h w_OBJECT "com/example/refleash/refleash/hprof/BasicType" ∧ Fld Z h w_OBJECT "java/lang/Enum" "ordinal" "I" (.int (0 : Int32)) ∧ Sta Z h "com/example/refleash/refleash/hprof/BasicType" "FLOAT" "Lcom/example/refleash/refleash/hprof/BasicType;" (.ref w_FLOAT) ∧ Exa Z h w_FLOAT "com/example/refleash/refleash/hprof/BasicType" ∧ Fld Z h w_FLOAT "java/lang/Enum" "ordinal" "I" (.int (3 : Int32)) ∧ Sta Z h "com/example/refleash/refleash/hprof/BasicType" "DOUBLE" "Lcom/example/refleash/refleash/hprof/BasicType;" (.ref w_DOUBLE) ∧ Exa Z h w_DOUBLE "com/example/refleash/refleash/hprof/BasicType" ∧ Fld Z h w_DOUBLE "java/lang/Enum" "ordinal" "I" (.int (4 : Int32)) ∧ Sta Z h "com/example/refleash/refleash/hprof/BasicType" "LONG" "Lcom/example/refleash/refleash/hprof/BasicType;" (.ref w_LONG) ∧ Exa Z h w_LONG "com/example/refleash/refleash/hprof/BasicType" ∧ Fld Z h w_LONG "java/lang/Enum" "ordinal" "I" (.int (8 : Int32)) ∧ Sta Z h "com/example/refleash/refleash/hprof/BasicType" "SHORT" "Lcom/example/refleash/refleash/hprof/BasicType;" (.ref w_SHORT) ∧ Exa Z h w_SHORT "com/example/refleash/refleash/hprof/BasicType" ∧ Fld Z h w_SHORT "java/lang/Enum" "ordinal" "I" (.int (6 : Int32)) ∧ Sta Z h "com/example/refleash/refleash/hprof/BasicType" "BOOLEAN" "Lcom/example/refleash/refleash/hprof/BasicType;" (.ref w_BOOLEAN) ∧ Exa Z h w_BOOLEAN "com/example/refleash/refleash/hprof/BasicType" ∧ Fld Z h w_BOOLEAN "java/lang/Enum" "ordinal" "I" (.int (1 : Int32))
theorem own_cases_and16 (p : Int32) : (p &&& (15 : Int32)) = (0 : Int32) ∨ (p &&& (15 : Int32)) = (1 : Int32) ∨ (p &&& (15 : Int32)) = (2 : Int32) ∨ (p &&& (15 : Int32)) = (3 : Int32) ∨ (p &&& (15 : Int32)) = (4 : Int32) ∨ (p &&& (15 : Int32)) = (5 : Int32) ∨ (p &&& (15 : Int32)) = (6 : Int32) ∨ (p &&& (15 : Int32)) = (7 : Int32) ∨ (p &&& (15 : Int32)) = (8 : Int32) ∨ (p &&& (15 : Int32)) = (9 : Int32) ∨ (p &&& (15 : Int32)) = (10 : Int32) ∨ (p &&& (15 : Int32)) = (11 : Int32) ∨ (p &&& (15 : Int32)) = (12 : Int32) ∨ (p &&& (15 : Int32)) = (13 : Int32) ∨ (p &&& (15 : Int32)) = (14 : Int32) ∨ (p &&& (15 : Int32)) = (15 : Int32) := by
  have h := Jvm.Kit.i32_mask p (15 : Int32) (k := 4) (by decide) (by decide)
  generalize p &&& (15 : Int32) = z at h ⊢
  simp only [← Int32.toInt_inj]
  have h0 : ((0 : Int32)).toInt = 0 := by decide
  have h1 : ((1 : Int32)).toInt = 1 := by decide
  have h2 : ((2 : Int32)).toInt = 2 := by decide
  have h3 : ((3 : Int32)).toInt = 3 := by decide
  have h4 : ((4 : Int32)).toInt = 4 := by decide
  have h5 : ((5 : Int32)).toInt = 5 := by decide
  have h6 : ((6 : Int32)).toInt = 6 := by decide
  have h7 : ((7 : Int32)).toInt = 7 := by decide
  have h8 : ((8 : Int32)).toInt = 8 := by decide
  have h9 : ((9 : Int32)).toInt = 9 := by decide
  have h10 : ((10 : Int32)).toInt = 10 := by decide
  have h11 : ((11 : Int32)).toInt = 11 := by decide
  have h12 : ((12 : Int32)).toInt = 12 := by decide
  have h13 : ((13 : Int32)).toInt = 13 := by decide
  have h14 : ((14 : Int32)).toInt = 14 := by decide
  have h15 : ((15 : Int32)).toInt = 15 := by decide
  omega
theorem d1_0 : decode prog_56_method_4_code 0 = .ok (.iload_n 0, 1) := by decide +kernel
theorem d1_1 : decode prog_56_method_4_code 1 = .ok (.tableswitch 109 2 11 #[55, 109, 61, 67, 73, 79, 85, 91, 97, 103], 55) := by decide +kernel
theorem d1_56 : decode prog_56_method_4_code 56 = .ok (.getstatic 3, 3) := by decide +kernel
theorem d1_59 : decode prog_56_method_4_code 59 = .ok (.goto 52, 3) := by decide +kernel
theorem d1_111 : decode prog_56_method_4_code 111 = .ok (.areturn, 1) := by decide +kernel
theorem ef_1_I (m : MethodId) (x0 : Int32) : entryFrame m #[(.int x0)] 1 = mkF m 0 #[.val (.int x0)] [] := by first | (simp [entryFrame, mkF, argsToLocals, Value.category]; done) | rfl
theorem pn_com_example_refleash_refleash_hprof_BasicType : plainName "com/example/refleash/refleash/hprof/BasicType" = true := by first | (simp [plainName, overriddenIn]; done) | decide +kernel
set_option maxRecDepth 65536 in
set_option maxHeartbeats 40000000 in
theorem c1_0 (l : Launch) (Z : State) (a0 : Array Value) (hw : ∀ d ∈ tables_1, d.before a0 Z = true) (ws : List Jvm.Cond) (w_INT : Addr) (w_BYTE : Addr) (w_CHAR : Addr) (w_OBJECT : Addr) (w_FLOAT : Addr) (w_DOUBLE : Addr) (w_LONG : Addr) (w_SHORT : Addr) (w_BOOLEAN : Addr) (h0 : Heap) (n0 : Nat) (Z0 : n0 ≤ h0.size) (G : Glob Z h0 w_INT w_BYTE w_CHAR w_OBJECT w_FLOAT w_DOUBLE w_LONG w_SHORT w_BOOLEAN)  :
    MetFree l (⟨"com/example/refleash/refleash/hprof/BasicType", "of", "(I)Lcom/example/refleash/refleash/hprof/BasicType;"⟩ : MethodName) (head1 (Jvm.Cond.code (⟨"com/example/refleash/refleash/hprof/BasicType", "of", "(I)Lcom/example/refleash/refleash/hprof/BasicType;"⟩ : MethodName) prog_56_method_4_code 1 (some (.object "com/example/refleash/refleash/hprof/BasicType")) :: ws) ({ frames := 0, cells := 0, slots := 0, locals := 0 } : Room)) (fun a U => a = #[(.int (2 : Int32))] ∧ Z.Warmed39 U.vm ∧ U.heap = h0) (fun _ _ _ _ _ => True) (fun _ U o U' => ∃ v L, o = .returned v ∧ QR (some (.ref w_OBJECT)) h0 n0 v U'.heap L ∧ FrameEnd U o U' L ({ frames := 0, cells := 0, slots := 0, locals := 0 } : Room).cells ({ frames := 0, cells := 0, slots := 0, locals := 0 } : Room).slots) := by
  refine MetFree.of_bodySF (plainFor_of_name pn_com_example_refleash_refleash_hprof_BasicType) hisR ?_
  intro p e s m args below meth c s₁ Bd hml0 hP hK
  obtain ⟨rfl, hZ, hh⟩ := hP
  have hx := Bd.exec
  have hby := Bd.bytes
  have hml : c.maxLocals = 1 := hml0
  have hown : s.vm.findClass "com/example/refleash/refleash/hprof/BasicType" = some m.cls := findClass_of_methodNamed Bd.named
  have X0 : Stand p l e ({ frames := 0, cells := 0, slots := 0, locals := 0 } : Room) s m #[(.int (2 : Int32))] below meth c s₁ [] 0 0 := Stand.of_body Bd
  have e0 : s₁.heap = h0 := by rw [← hh, Bd.state]; rfl
  have N0 := Fr.nil n0
  have pre0 : ∀ t, Steps p.tables e below (s₁.setTop (mkF m 0 #[.val (.int (2 : Int32))] [])) t → Steps p.tables e below (s₁.setTop (entryFrame m #[(.int (2 : Int32))] 1)) t := fun t k => castTop (ef_1_I m (2 : Int32)) k
  have G' := G
  obtain ⟨S_w_INT, E_w_INT, F_ordinal_w_INT, S_w_BYTE, E_w_BYTE, F_ordinal_w_BYTE, S_w_CHAR, E_w_CHAR, F_ordinal_w_CHAR, S_w_OBJECT, E_w_OBJECT, F_ordinal_w_OBJECT, S_w_FLOAT, E_w_FLOAT, F_ordinal_w_FLOAT, S_w_DOUBLE, E_w_DOUBLE, F_ordinal_w_DOUBLE, S_w_LONG, E_w_LONG, F_ordinal_w_LONG, S_w_SHORT, E_w_SHORT, F_ordinal_w_SHORT, S_w_BOOLEAN, E_w_BOOLEAN, F_ordinal_w_BOOLEAN⟩ := G'
  obtain ⟨T1, X1, e1, st1⟩ := getS2 X0 hx hZ hown (host := "") (Or.inl (hw _ (List.mem_of_getElem? (i := 19) rfl))) Via.refl e0 S_w_OBJECT (g := (mkF m 56 #[.val (.int (2 : Int32))] [])) rfl (hb hby d1_56)
  obtain ⟨fs, hr, hrun, hended, hW, hsame⟩ := X1.leave (v := some (.ref w_OBJECT)) (fun h => by rw [Bd.returns] at h; cases h)
  refine ⟨_, _, pre0 _ ?_, hrun, hended, _, _, rfl, ?_, ⟨_, rfl⟩, hW, hsame.mono (by decide) (by decide)⟩
  · show Steps p.tables e below (s₁.setTop (mkF m 0 #[.val (.int (2 : Int32))] [])) _
    refine XS.iloadN X0.here hx rfl (hb hby d1_0) rfl ?_
    show Steps p.tables e below (s₁.setTop (mkF m 1 #[.val (.int (2 : Int32))] [(.int (2 : Int32))])) _
    refine XS.tswIn X0.here hx rfl (pc0 := 1) (pc' := 56) rfl (hb hby d1_1) rfl (by decide) (o := 55) (by decide) (by decide) (by decide) ?_
    show Steps p.tables e below (s₁.setTop (mkF m 56 #[.val (.int (2 : Int32))] [])) _
    refine st1 _ ?_
    show Steps p.tables e below (T1.setTop (mkF m 59 #[.val (.int (2 : Int32))] [(.ref w_OBJECT)])) _
    refine XS.goto X1.here hx rfl (pc0 := 59) (pc' := 111) rfl (hb hby d1_59) (by decide) (by decide) ?_
    show Steps p.tables e below (T1.setTop (mkF m 111 #[.val (.int (2 : Int32))] [(.ref w_OBJECT)])) _
    exact retOut X1 hx Bd.returns rfl (Or.inr (Or.inr (Or.inr (Or.inr ⟨rfl, rfl, rfl⟩)))) (hb hby d1_111) hr
  · show QR _ h0 n0 _ T1.heap _
    rw [e1]
    exact ⟨rfl, N0, rfl⟩
theorem pd__I_Lcom_example_refleash_refleash_hprof_BasicType_ : parseMethodDescriptor "(I)Lcom/example/refleash/refleash/hprof/BasicType;" = some ⟨[.int], some (.object "com/example/refleash/refleash/hprof/BasicType")⟩ := by decide +kernel
theorem d2_0 : decode jdk_37_method_2_code 0 = .ok (.aload_n 0, 1) := by decide +kernel
theorem d2_1 : decode jdk_37_method_2_code 1 = .ok (.getfield 7, 3) := by decide +kernel
theorem d2_4 : decode jdk_37_method_2_code 4 = .ok (.ireturn, 1) := by decide +kernel
theorem ef_2_R (m : MethodId) (x0 : Addr) : entryFrame m #[(.ref x0)] 1 = mkF m 0 #[.val (.ref x0)] [] := by first | (simp [entryFrame, mkF, argsToLocals, Value.category]; done) | rfl
theorem pn_java_lang_Enum : plainName "java/lang/Enum" = true := by first | (simp [plainName, overriddenIn]; done) | decide +kernel
set_option maxRecDepth 65536 in
set_option maxHeartbeats 40000000 in
theorem c2_0 (l : Launch) (Z : State) (a0 : Array Value) (hw : ∀ d ∈ tables_1, d.before a0 Z = true) (ws : List Jvm.Cond) (w_INT : Addr) (w_BYTE : Addr) (w_CHAR : Addr) (w_OBJECT : Addr) (w_FLOAT : Addr) (w_DOUBLE : Addr) (w_LONG : Addr) (w_SHORT : Addr) (w_BOOLEAN : Addr) (h0 : Heap) (n0 : Nat) (Z0 : n0 ≤ h0.size) (G : Glob Z h0 w_INT w_BYTE w_CHAR w_OBJECT w_FLOAT w_DOUBLE w_LONG w_SHORT w_BOOLEAN)  :
    MetFree l (⟨"java/lang/Enum", "ordinal", "()I"⟩ : MethodName) (head1 (Jvm.Cond.code (⟨"java/lang/Enum", "ordinal", "()I"⟩ : MethodName) jdk_37_method_2_code 1 (some .int) :: ws) ({ frames := 0, cells := 0, slots := 0, locals := 0 } : Room)) (fun a U => a = #[(.ref w_OBJECT)] ∧ Z.Warmed39 U.vm ∧ U.heap = h0) (fun _ _ _ _ _ => True) (fun _ U o U' => ∃ v L, o = .returned v ∧ QR (some (.int (0 : Int32))) h0 n0 v U'.heap L ∧ FrameEnd U o U' L ({ frames := 0, cells := 0, slots := 0, locals := 0 } : Room).cells ({ frames := 0, cells := 0, slots := 0, locals := 0 } : Room).slots) := by
  refine MetFree.of_bodySF (plainFor_of_name pn_java_lang_Enum) hisR ?_
  intro p e s m args below meth c s₁ Bd hml0 hP hK
  obtain ⟨rfl, hZ, hh⟩ := hP
  have hx := Bd.exec
  have hby := Bd.bytes
  have hml : c.maxLocals = 1 := hml0
  have hown : s.vm.findClass "java/lang/Enum" = some m.cls := findClass_of_methodNamed Bd.named
  have X0 : Stand p l e ({ frames := 0, cells := 0, slots := 0, locals := 0 } : Room) s m #[(.ref w_OBJECT)] below meth c s₁ [] 0 0 := Stand.of_body Bd
  have e0 : s₁.heap = h0 := by rw [← hh, Bd.state]; rfl
  have N0 := Fr.nil n0
  have pre0 : ∀ t, Steps p.tables e below (s₁.setTop (mkF m 0 #[.val (.ref w_OBJECT)] [])) t → Steps p.tables e below (s₁.setTop (entryFrame m #[(.ref w_OBJECT)] 1)) t := fun t k => castTop (ef_2_R m w_OBJECT) k
  have G' := G
  obtain ⟨S_w_INT, E_w_INT, F_ordinal_w_INT, S_w_BYTE, E_w_BYTE, F_ordinal_w_BYTE, S_w_CHAR, E_w_CHAR, F_ordinal_w_CHAR, S_w_OBJECT, E_w_OBJECT, F_ordinal_w_OBJECT, S_w_FLOAT, E_w_FLOAT, F_ordinal_w_FLOAT, S_w_DOUBLE, E_w_DOUBLE, F_ordinal_w_DOUBLE, S_w_LONG, E_w_LONG, F_ordinal_w_LONG, S_w_SHORT, E_w_SHORT, F_ordinal_w_SHORT, S_w_BOOLEAN, E_w_BOOLEAN, F_ordinal_w_BOOLEAN⟩ := G'
  obtain ⟨T1, X1, e1, st1⟩ := getF X0 hx hZ hown (host := "") (Or.inl (hw _ (List.mem_of_getElem? (i := 13) rfl))) Via.refl e0 F_ordinal_w_OBJECT (g := (mkF m 1 #[.val (.ref w_OBJECT)] [(.ref w_OBJECT)])) rfl rfl (hb hby d2_1)
  obtain ⟨fs, hr, hrun, hended, hW, hsame⟩ := X1.leave (v := some (.int (0 : Int32))) (fun h => by rw [Bd.returns] at h; cases h)
  refine ⟨_, _, pre0 _ ?_, hrun, hended, _, _, rfl, ?_, ⟨_, rfl⟩, hW, hsame.mono (by decide) (by decide)⟩
  · show Steps p.tables e below (s₁.setTop (mkF m 0 #[.val (.ref w_OBJECT)] [])) _
    refine XS.aloadN X0.here hx rfl (hb hby d2_0) rfl rfl ?_
    show Steps p.tables e below (s₁.setTop (mkF m 1 #[.val (.ref w_OBJECT)] [(.ref w_OBJECT)])) _
    refine st1 _ ?_
    show Steps p.tables e below (T1.setTop (mkF m 4 #[.val (.ref w_OBJECT)] [(.int (0 : Int32))])) _
    exact retOut X1 hx Bd.returns rfl (Or.inl ⟨rfl, Or.inl rfl, _, rfl⟩) (hb hby d2_4) hr
  · show QR _ h0 n0 _ T1.heap _
    rw [e1]
    exact ⟨rfl, N0, rfl⟩
theorem pd___I : parseMethodDescriptor "()I" = some ⟨[], some .int⟩ := by decide +kernel
theorem ef_0_II (m : MethodId) (x0 : Int32) (x1 : Int32) : entryFrame m #[(.int x0), (.int x1)] maxLocals = mkF m 0 #[.val (.int x0), .val (.int x1), .unset, .unset, .unset, .unset] [] := by first | (simp [entryFrame, mkF, argsToLocals, Value.category, maxLocals]; done) | rfl
theorem pn_com_example_refleash_refleash_hprof_BasicTypeOfPinLaw : plainName "com/example/refleash/refleash/hprof/BasicTypeOfPinLaw" = true := by first | (simp [plainName, overriddenIn]; done) | decide +kernel
set_option maxRecDepth 65536 in
set_option maxHeartbeats 40000000 in
theorem raw_2 (l : Launch) (Z : State) (a0 : Array Value) (hw : ∀ d ∈ tables_1, d.before a0 Z = true) (ws : List Jvm.Cond) (w_INT : Addr) (w_BYTE : Addr) (w_CHAR : Addr) (w_OBJECT : Addr) (w_FLOAT : Addr) (w_DOUBLE : Addr) (w_LONG : Addr) (w_SHORT : Addr) (w_BOOLEAN : Addr) (h0 : Heap) (n0 : Nat) (Z0 : n0 ≤ h0.size) (G : Glob Z h0 w_INT w_BYTE w_CHAR w_OBJECT w_FLOAT w_DOUBLE w_LONG w_SHORT w_BOOLEAN) (p1 : Int32) (hs : ¬ ((p1 &&& (1 : Int32)) = (0 : Int32))) :
    MetFree l x (head1 (Jvm.Cond.code x code maxLocals ret :: ws) room_1) (fun a U => a = #[(.int (2 : Int32)), (.int p1)] ∧ Z.Warmed39 U.vm ∧ U.heap = h0) (fun _ _ _ _ _ => True) (fun _ U o U' => ∃ v L, o = .returned v ∧ QL (some (.int (1 : Int32))) h0 n0 v U'.heap L ∧ FrameEnd U o U' L room_1.cells room_1.slots) := by
  refine MetFree.of_bodySF (plainFor_of_name pn_com_example_refleash_refleash_hprof_BasicTypeOfPinLaw) hisR ?_
  intro p e s m args below meth c s₁ Bd hml0 hP hK
  obtain ⟨rfl, hZ, hh⟩ := hP
  have hx := Bd.exec
  have hby := Bd.bytes
  have hml : c.maxLocals = 6 := hml0
  have hown : s.vm.findClass "com/example/refleash/refleash/hprof/BasicTypeOfPinLaw" = some m.cls := findClass_of_methodNamed Bd.named
  have X0 : Stand p l e room_1 s m #[(.int (2 : Int32)), (.int p1)] below meth c s₁ [] 0 0 := Stand.of_body Bd
  have e0 : s₁.heap = h0 := by rw [← hh, Bd.state]; rfl
  have N0 := Fr.nil n0
  have pre0 : ∀ t, Steps p.tables e below (s₁.setTop (mkF m 0 #[.val (.int (2 : Int32)), .val (.int p1), .unset, .unset, .unset, .unset] [])) t → Steps p.tables e below (s₁.setTop (entryFrame m #[(.int (2 : Int32)), (.int p1)] maxLocals)) t := fun t k => castTop (ef_0_II m (2 : Int32) p1) k
  have G' := G
  obtain ⟨S_w_INT, E_w_INT, F_ordinal_w_INT, S_w_BYTE, E_w_BYTE, F_ordinal_w_BYTE, S_w_CHAR, E_w_CHAR, F_ordinal_w_CHAR, S_w_OBJECT, E_w_OBJECT, F_ordinal_w_OBJECT, S_w_FLOAT, E_w_FLOAT, F_ordinal_w_FLOAT, S_w_DOUBLE, E_w_DOUBLE, F_ordinal_w_DOUBLE, S_w_LONG, E_w_LONG, F_ordinal_w_LONG, S_w_SHORT, E_w_SHORT, F_ordinal_w_SHORT, S_w_BOOLEAN, E_w_BOOLEAN, F_ordinal_w_BOOLEAN⟩ := G'
  obtain ⟨_, _, ⟨T1, L1, k1, n1⟩, -, X1, ⟨Lc1, hQ1, l1, y1, z1⟩, st1⟩ := Jvm.LawKit.callS X0 hx (y := (⟨"com/example/refleash/refleash/hprof/BasicType", "of", "(I)Lcom/example/refleash/refleash/hprof/BasicType;"⟩ : MethodName)) hown (mvT hZ (hw _ (List.mem_of_getElem? (i := 0) rfl))) (mvT hZ (hw _ (List.mem_of_getElem? (i := 1) rfl))) (mvT hZ (hw _ (List.mem_of_getElem? (i := 2) rfl))) (mvT hZ (hw _ (List.mem_of_getElem? (i := 3) rfl))) (by decide) (backOf (W := 0) (c1_0 l Z a0 hw [] w_INT w_BYTE w_CHAR w_OBJECT w_FLOAT w_DOUBLE w_LONG w_SHORT w_BOOLEAN h0 n0 Z0 G) hZ (hw _ (List.mem_of_getElem? (i := 3) rfl)) (hw _ (List.mem_of_getElem? (i := 2) rfl)) (by decide) (by decide)) (g := (mkF m 18 #[.val (.int (2 : Int32)), .val (.int p1), .val (.int (2 : Int32)), .unset, .unset, .unset] [(.int (2 : Int32))])) rfl (by rw [hml]; rfl) (argsL := [(.int (2 : Int32))]) (rest := []) (lenOf pd__I_Lcom_example_refleash_refleash_hprof_BasicType_ rfl) rfl (by show 2 * 0 + _ ≤ _; exact Nat.le_of_eq rfl) (hb hby at_18) (fun _ _ => ⟨rfl, e0, (by decide : 0 + 0 ≤ _), (by decide : 0 + 0 ≤ _)⟩)
  dsimp only [Pt.U, Pt.locs, Pt.cells, Pt.slots] at X1 l1 y1 z1 st1 hQ1
  subst l1 y1 z1
  obtain ⟨rfl, N1q, e1⟩ := hQ1
  have N1 := Fr.app N0 N1q
  obtain ⟨cq2, kq2, q2a, q2b, q2c⟩ := isOf hZ e1 E_w_OBJECT
  obtain ⟨_, _, ⟨T2, L2, k2, n2⟩, -, X2, ⟨Lc2, hQ2, l2, y2, z2⟩, st2⟩ := X1.virtualBackUp hx (x := (⟨"com/example/refleash/refleash/hprof/BasicType", "ordinal", "()I"⟩ : MethodName)) (y := (⟨"java/lang/Enum", "ordinal", "()I"⟩ : MethodName)) hown (mvT hZ (hw _ (List.mem_of_getElem? (i := 6) rfl))) (mvT hZ (hw _ (List.mem_of_getElem? (i := 7) rfl))) (mvT hZ (hw _ (List.mem_of_getElem? (i := 8) rfl))) (by decide) (mvT hZ (hw _ (List.mem_of_getElem? (i := 10) rfl))) (mvT hZ (hw _ (List.mem_of_getElem? (i := 9) rfl))) (backOf (W := 0) (c2_0 l Z a0 hw [] w_INT w_BYTE w_CHAR w_OBJECT w_FLOAT w_DOUBLE w_LONG w_SHORT w_BOOLEAN h0 n0 Z0 G) hZ (hw _ (List.mem_of_getElem? (i := 12) rfl)) (hw _ (List.mem_of_getElem? (i := 11) rfl)) (by decide) (by decide)) q2a q2c (g := (mkF m 81 #[.val (.int (2 : Int32)), .val (.int p1), .val (.int (2 : Int32)), .val (.ref w_OBJECT), .val (.int (1 : Int32)), .val (.int (0 : Int32))] [(.ref w_OBJECT)])) rfl (by rw [hml]; rfl) (Steps.refl _) (argsL := []) (rest := []) (lenOf pd___I rfl) rfl (by show 2 * 0 + _ ≤ _; exact Nat.le_of_eq rfl) (hb hby at_81) (fun _ _ => ⟨rfl, e1, (by decide : 0 + 0 ≤ _), (by decide : 0 + 0 ≤ _)⟩)
  dsimp only [Pt.U, Pt.locs, Pt.cells, Pt.slots] at X2 l2 y2 z2 st2 hQ2
  subst l2 y2 z2
  obtain ⟨rfl, N2q, e2⟩ := hQ2
  have N2 := Fr.app N1 N2q
  obtain ⟨fs, hr, hrun, hended, hW, hsame⟩ := X2.leave (v := some (.int (1 : Int32))) (fun h => by rw [Bd.returns] at h; cases h)
  refine ⟨_, _, pre0 _ ?_, hrun, hended, _, _, rfl, ?_, ⟨_, rfl⟩, hW, hsame.mono (by decide) (by decide)⟩
  · show Steps p.tables e below (s₁.setTop (mkF m 0 #[.val (.int (2 : Int32)), .val (.int p1), .unset, .unset, .unset, .unset] [])) _
    refine XS.iloadN X0.here hx rfl (hb hby at_0) rfl ?_
    show Steps p.tables e below (s₁.setTop (mkF m 1 #[.val (.int (2 : Int32)), .val (.int p1), .unset, .unset, .unset, .unset] [(.int p1)])) _
    refine XS.iconst X0.here hx rfl (hb hby at_1) ?_
    show Steps p.tables e below (s₁.setTop (mkF m 2 #[.val (.int (2 : Int32)), .val (.int p1), .unset, .unset, .unset, .unset] [(.int (1 : Int32)), (.int p1)])) _
    refine XS.iand X0.here hx rfl (hb hby at_2) rfl ?_
    show Steps p.tables e below (s₁.setTop (mkF m 3 #[.val (.int (2 : Int32)), .val (.int p1), .unset, .unset, .unset, .unset] [(.int (p1 &&& (1 : Int32)))])) _
    refine XS.ifNo X0.here hx rfl (hb hby at_3) rfl ((if0 _ _).trans (feq (hs : ¬ ((p1 &&& (1 : Int32)) = (0 : Int32)))).1) ?_
    show Steps p.tables e below (s₁.setTop (mkF m 6 #[.val (.int (2 : Int32)), .val (.int p1), .unset, .unset, .unset, .unset] [])) _
    refine XS.iloadN X0.here hx rfl (hb hby at_6) rfl ?_
    show Steps p.tables e below (s₁.setTop (mkF m 7 #[.val (.int (2 : Int32)), .val (.int p1), .unset, .unset, .unset, .unset] [(.int (2 : Int32))])) _
    refine XS.goto X0.here hx rfl (pc0 := 7) (pc' := 16) rfl (hb hby at_7) (by decide) (by decide) ?_
    show Steps p.tables e below (s₁.setTop (mkF m 16 #[.val (.int (2 : Int32)), .val (.int p1), .unset, .unset, .unset, .unset] [(.int (2 : Int32))])) _
    refine XS.istoreN X0.here hx rfl (hb hby at_16) rfl (l' := #[.val (.int (2 : Int32)), .val (.int p1), .val (.int (2 : Int32)), .unset, .unset, .unset]) rfl ?_
    show Steps p.tables e below (s₁.setTop (mkF m 17 #[.val (.int (2 : Int32)), .val (.int p1), .val (.int (2 : Int32)), .unset, .unset, .unset] [])) _
    refine XS.iloadN X0.here hx rfl (hb hby at_17) rfl ?_
    show Steps p.tables e below (s₁.setTop (mkF m 18 #[.val (.int (2 : Int32)), .val (.int p1), .val (.int (2 : Int32)), .unset, .unset, .unset] [(.int (2 : Int32))])) _
    refine st1 _ ?_
    show Steps p.tables e below (T1.setTop (mkF m 21 #[.val (.int (2 : Int32)), .val (.int p1), .val (.int (2 : Int32)), .unset, .unset, .unset] [(.ref w_OBJECT)])) _
    refine XS.astoreN X1.here hx rfl (hb hby at_21) rfl rfl (l' := #[.val (.int (2 : Int32)), .val (.int p1), .val (.int (2 : Int32)), .val (.ref w_OBJECT), .unset, .unset]) rfl ?_
    show Steps p.tables e below (T1.setTop (mkF m 22 #[.val (.int (2 : Int32)), .val (.int p1), .val (.int (2 : Int32)), .val (.ref w_OBJECT), .unset, .unset] [])) _
    refine XS.iloadN X1.here hx rfl (hb hby at_22) rfl ?_
    show Steps p.tables e below (T1.setTop (mkF m 23 #[.val (.int (2 : Int32)), .val (.int p1), .val (.int (2 : Int32)), .val (.ref w_OBJECT), .unset, .unset] [(.int (2 : Int32))])) _
    refine XS.iconst X1.here hx rfl (hb hby at_23) ?_
    show Steps p.tables e below (T1.setTop (mkF m 24 #[.val (.int (2 : Int32)), .val (.int p1), .val (.int (2 : Int32)), .val (.ref w_OBJECT), .unset, .unset] [(.int (2 : Int32)), (.int (2 : Int32))])) _
    refine XS.icmpYes X1.here hx rfl (pc0 := 24) (pc' := 38) rfl (hb hby at_24) rfl (teq (by decide : (2 : Int32) = (2 : Int32))).1 (by decide) (by decide) ?_
    show Steps p.tables e below (T1.setTop (mkF m 38 #[.val (.int (2 : Int32)), .val (.int p1), .val (.int (2 : Int32)), .val (.ref w_OBJECT), .unset, .unset] [])) _
    refine XS.iconst X1.here hx rfl (hb hby at_38) ?_
    show Steps p.tables e below (T1.setTop (mkF m 39 #[.val (.int (2 : Int32)), .val (.int p1), .val (.int (2 : Int32)), .val (.ref w_OBJECT), .unset, .unset] [(.int (1 : Int32))])) _
    refine XS.goto X1.here hx rfl (pc0 := 39) (pc' := 43) rfl (hb hby at_39) (by decide) (by decide) ?_
    show Steps p.tables e below (T1.setTop (mkF m 43 #[.val (.int (2 : Int32)), .val (.int p1), .val (.int (2 : Int32)), .val (.ref w_OBJECT), .unset, .unset] [(.int (1 : Int32))])) _
    refine XS.istore X1.here hx rfl (hb hby at_43) rfl (l' := #[.val (.int (2 : Int32)), .val (.int p1), .val (.int (2 : Int32)), .val (.ref w_OBJECT), .val (.int (1 : Int32)), .unset]) rfl ?_
    show Steps p.tables e below (T1.setTop (mkF m 45 #[.val (.int (2 : Int32)), .val (.int p1), .val (.int (2 : Int32)), .val (.ref w_OBJECT), .val (.int (1 : Int32)), .unset] [])) _
    refine XS.iload X1.here hx rfl (hb hby at_45) rfl ?_
    show Steps p.tables e below (T1.setTop (mkF m 47 #[.val (.int (2 : Int32)), .val (.int p1), .val (.int (2 : Int32)), .val (.ref w_OBJECT), .val (.int (1 : Int32)), .unset] [(.int (1 : Int32))])) _
    refine XS.ifYes X1.here hx rfl (pc0 := 47) (pc' := 60) rfl (hb hby at_47) rfl ((if0 _ _).trans (feq (by decide : ¬ ((1 : Int32) = (0 : Int32)))).2) (by decide) (by decide) ?_
    show Steps p.tables e below (T1.setTop (mkF m 60 #[.val (.int (2 : Int32)), .val (.int p1), .val (.int (2 : Int32)), .val (.ref w_OBJECT), .val (.int (1 : Int32)), .unset] [])) _
    refine XS.aloadN X1.here hx rfl (hb hby at_60) rfl rfl ?_
    show Steps p.tables e below (T1.setTop (mkF m 61 #[.val (.int (2 : Int32)), .val (.int p1), .val (.int (2 : Int32)), .val (.ref w_OBJECT), .val (.int (1 : Int32)), .unset] [(.ref w_OBJECT)])) _
    refine XS.ifnonnullYes X1.here hx rfl (pc0 := 61) (pc' := 66) rfl (hb hby at_61) rfl (by decide) (by decide) ?_
    show Steps p.tables e below (T1.setTop (mkF m 66 #[.val (.int (2 : Int32)), .val (.int p1), .val (.int (2 : Int32)), .val (.ref w_OBJECT), .val (.int (1 : Int32)), .unset] [])) _
    refine XS.iloadN X1.here hx rfl (hb hby at_66) rfl ?_
    show Steps p.tables e below (T1.setTop (mkF m 67 #[.val (.int (2 : Int32)), .val (.int p1), .val (.int (2 : Int32)), .val (.ref w_OBJECT), .val (.int (1 : Int32)), .unset] [(.int (2 : Int32))])) _
    refine XS.iconst X1.here hx rfl (hb hby at_67) ?_
    show Steps p.tables e below (T1.setTop (mkF m 68 #[.val (.int (2 : Int32)), .val (.int p1), .val (.int (2 : Int32)), .val (.ref w_OBJECT), .val (.int (1 : Int32)), .unset] [(.int (2 : Int32)), (.int (2 : Int32))])) _
    refine XS.icmpNo X1.here hx rfl (hb hby at_68) rfl (teq (by decide : (2 : Int32) = (2 : Int32))).2 ?_
    show Steps p.tables e below (T1.setTop (mkF m 71 #[.val (.int (2 : Int32)), .val (.int p1), .val (.int (2 : Int32)), .val (.ref w_OBJECT), .val (.int (1 : Int32)), .unset] [])) _
    refine XS.iconst X1.here hx rfl (hb hby at_71) ?_
    show Steps p.tables e below (T1.setTop (mkF m 72 #[.val (.int (2 : Int32)), .val (.int p1), .val (.int (2 : Int32)), .val (.ref w_OBJECT), .val (.int (1 : Int32)), .unset] [(.int (0 : Int32))])) _
    refine XS.goto X1.here hx rfl (pc0 := 72) (pc' := 78) rfl (hb hby at_72) (by decide) (by decide) ?_
    show Steps p.tables e below (T1.setTop (mkF m 78 #[.val (.int (2 : Int32)), .val (.int p1), .val (.int (2 : Int32)), .val (.ref w_OBJECT), .val (.int (1 : Int32)), .unset] [(.int (0 : Int32))])) _
    refine XS.istore X1.here hx rfl (hb hby at_78) rfl (l' := #[.val (.int (2 : Int32)), .val (.int p1), .val (.int (2 : Int32)), .val (.ref w_OBJECT), .val (.int (1 : Int32)), .val (.int (0 : Int32))]) rfl ?_
    show Steps p.tables e below (T1.setTop (mkF m 80 #[.val (.int (2 : Int32)), .val (.int p1), .val (.int (2 : Int32)), .val (.ref w_OBJECT), .val (.int (1 : Int32)), .val (.int (0 : Int32))] [])) _
    refine XS.aloadN X1.here hx rfl (hb hby at_80) rfl rfl ?_
    show Steps p.tables e below (T1.setTop (mkF m 81 #[.val (.int (2 : Int32)), .val (.int p1), .val (.int (2 : Int32)), .val (.ref w_OBJECT), .val (.int (1 : Int32)), .val (.int (0 : Int32))] [(.ref w_OBJECT)])) _
    refine st2.trans ?_
    show Steps p.tables e below (T2.setTop (mkF m 84 #[.val (.int (2 : Int32)), .val (.int p1), .val (.int (2 : Int32)), .val (.ref w_OBJECT), .val (.int (1 : Int32)), .val (.int (0 : Int32))] [(.int (0 : Int32))])) _
    refine XS.iload X2.here hx rfl (hb hby at_84) rfl ?_
    show Steps p.tables e below (T2.setTop (mkF m 86 #[.val (.int (2 : Int32)), .val (.int p1), .val (.int (2 : Int32)), .val (.ref w_OBJECT), .val (.int (1 : Int32)), .val (.int (0 : Int32))] [(.int (0 : Int32)), (.int (0 : Int32))])) _
    refine XS.icmpNo X2.here hx rfl (hb hby at_86) rfl (teq (by decide : (0 : Int32) = (0 : Int32))).2 ?_
    show Steps p.tables e below (T2.setTop (mkF m 89 #[.val (.int (2 : Int32)), .val (.int p1), .val (.int (2 : Int32)), .val (.ref w_OBJECT), .val (.int (1 : Int32)), .val (.int (0 : Int32))] [])) _
    refine XS.iconst X2.here hx rfl (hb hby at_89) ?_
    show Steps p.tables e below (T2.setTop (mkF m 90 #[.val (.int (2 : Int32)), .val (.int p1), .val (.int (2 : Int32)), .val (.ref w_OBJECT), .val (.int (1 : Int32)), .val (.int (0 : Int32))] [(.int (1 : Int32))])) _
    refine XS.goto X2.here hx rfl (pc0 := 90) (pc' := 94) rfl (hb hby at_90) (by decide) (by decide) ?_
    show Steps p.tables e below (T2.setTop (mkF m 94 #[.val (.int (2 : Int32)), .val (.int p1), .val (.int (2 : Int32)), .val (.ref w_OBJECT), .val (.int (1 : Int32)), .val (.int (0 : Int32))] [(.int (1 : Int32))])) _
    exact retOut X2 hx Bd.returns rfl (Or.inl ⟨rfl, Or.inr (Or.inl rfl), _, rfl⟩) (hb hby at_94) hr
  · exact ⟨rfl, N2⟩
theorem d1_62 : decode prog_56_method_4_code 62 = .ok (.getstatic 7, 3) := by decide +kernel
theorem d1_65 : decode prog_56_method_4_code 65 = .ok (.goto 46, 3) := by decide +kernel
set_option maxRecDepth 65536 in
set_option maxHeartbeats 40000000 in
theorem c1_1 (l : Launch) (Z : State) (a0 : Array Value) (hw : ∀ d ∈ tables_1, d.before a0 Z = true) (ws : List Jvm.Cond) (w_INT : Addr) (w_BYTE : Addr) (w_CHAR : Addr) (w_OBJECT : Addr) (w_FLOAT : Addr) (w_DOUBLE : Addr) (w_LONG : Addr) (w_SHORT : Addr) (w_BOOLEAN : Addr) (h0 : Heap) (n0 : Nat) (Z0 : n0 ≤ h0.size) (G : Glob Z h0 w_INT w_BYTE w_CHAR w_OBJECT w_FLOAT w_DOUBLE w_LONG w_SHORT w_BOOLEAN)  :
    MetFree l (⟨"com/example/refleash/refleash/hprof/BasicType", "of", "(I)Lcom/example/refleash/refleash/hprof/BasicType;"⟩ : MethodName) (head1 (Jvm.Cond.code (⟨"com/example/refleash/refleash/hprof/BasicType", "of", "(I)Lcom/example/refleash/refleash/hprof/BasicType;"⟩ : MethodName) prog_56_method_4_code 1 (some (.object "com/example/refleash/refleash/hprof/BasicType")) :: ws) ({ frames := 0, cells := 0, slots := 0, locals := 0 } : Room)) (fun a U => a = #[(.int (4 : Int32))] ∧ Z.Warmed39 U.vm ∧ U.heap = h0) (fun _ _ _ _ _ => True) (fun _ U o U' => ∃ v L, o = .returned v ∧ QR (some (.ref w_BOOLEAN)) h0 n0 v U'.heap L ∧ FrameEnd U o U' L ({ frames := 0, cells := 0, slots := 0, locals := 0 } : Room).cells ({ frames := 0, cells := 0, slots := 0, locals := 0 } : Room).slots) := by
  refine MetFree.of_bodySF (plainFor_of_name pn_com_example_refleash_refleash_hprof_BasicType) hisR ?_
  intro p e s m args below meth c s₁ Bd hml0 hP hK
  obtain ⟨rfl, hZ, hh⟩ := hP
  have hx := Bd.exec
  have hby := Bd.bytes
  have hml : c.maxLocals = 1 := hml0
  have hown : s.vm.findClass "com/example/refleash/refleash/hprof/BasicType" = some m.cls := findClass_of_methodNamed Bd.named
  have X0 : Stand p l e ({ frames := 0, cells := 0, slots := 0, locals := 0 } : Room) s m #[(.int (4 : Int32))] below meth c s₁ [] 0 0 := Stand.of_body Bd
  have e0 : s₁.heap = h0 := by rw [← hh, Bd.state]; rfl
  have N0 := Fr.nil n0
  have pre0 : ∀ t, Steps p.tables e below (s₁.setTop (mkF m 0 #[.val (.int (4 : Int32))] [])) t → Steps p.tables e below (s₁.setTop (entryFrame m #[(.int (4 : Int32))] 1)) t := fun t k => castTop (ef_1_I m (4 : Int32)) k
  have G' := G
  obtain ⟨S_w_INT, E_w_INT, F_ordinal_w_INT, S_w_BYTE, E_w_BYTE, F_ordinal_w_BYTE, S_w_CHAR, E_w_CHAR, F_ordinal_w_CHAR, S_w_OBJECT, E_w_OBJECT, F_ordinal_w_OBJECT, S_w_FLOAT, E_w_FLOAT, F_ordinal_w_FLOAT, S_w_DOUBLE, E_w_DOUBLE, F_ordinal_w_DOUBLE, S_w_LONG, E_w_LONG, F_ordinal_w_LONG, S_w_SHORT, E_w_SHORT, F_ordinal_w_SHORT, S_w_BOOLEAN, E_w_BOOLEAN, F_ordinal_w_BOOLEAN⟩ := G'
  obtain ⟨T1, X1, e1, st1⟩ := getS2 X0 hx hZ hown (host := "") (Or.inl (hw _ (List.mem_of_getElem? (i := 29) rfl))) Via.refl e0 S_w_BOOLEAN (g := (mkF m 62 #[.val (.int (4 : Int32))] [])) rfl (hb hby d1_62)
  obtain ⟨fs, hr, hrun, hended, hW, hsame⟩ := X1.leave (v := some (.ref w_BOOLEAN)) (fun h => by rw [Bd.returns] at h; cases h)
  refine ⟨_, _, pre0 _ ?_, hrun, hended, _, _, rfl, ?_, ⟨_, rfl⟩, hW, hsame.mono (by decide) (by decide)⟩
  · show Steps p.tables e below (s₁.setTop (mkF m 0 #[.val (.int (4 : Int32))] [])) _
    refine XS.iloadN X0.here hx rfl (hb hby d1_0) rfl ?_
    show Steps p.tables e below (s₁.setTop (mkF m 1 #[.val (.int (4 : Int32))] [(.int (4 : Int32))])) _
    refine XS.tswIn X0.here hx rfl (pc0 := 1) (pc' := 62) rfl (hb hby d1_1) rfl (by decide) (o := 61) (by decide) (by decide) (by decide) ?_
    show Steps p.tables e below (s₁.setTop (mkF m 62 #[.val (.int (4 : Int32))] [])) _
    refine st1 _ ?_
    show Steps p.tables e below (T1.setTop (mkF m 65 #[.val (.int (4 : Int32))] [(.ref w_BOOLEAN)])) _
    refine XS.goto X1.here hx rfl (pc0 := 65) (pc' := 111) rfl (hb hby d1_65) (by decide) (by decide) ?_
    show Steps p.tables e below (T1.setTop (mkF m 111 #[.val (.int (4 : Int32))] [(.ref w_BOOLEAN)])) _
    exact retOut X1 hx Bd.returns rfl (Or.inr (Or.inr (Or.inr (Or.inr ⟨rfl, rfl, rfl⟩)))) (hb hby d1_111) hr
  · show QR _ h0 n0 _ T1.heap _
    rw [e1]
    exact ⟨rfl, N0, rfl⟩
set_option maxRecDepth 65536 in
set_option maxHeartbeats 40000000 in
theorem c2_1 (l : Launch) (Z : State) (a0 : Array Value) (hw : ∀ d ∈ tables_1, d.before a0 Z = true) (ws : List Jvm.Cond) (w_INT : Addr) (w_BYTE : Addr) (w_CHAR : Addr) (w_OBJECT : Addr) (w_FLOAT : Addr) (w_DOUBLE : Addr) (w_LONG : Addr) (w_SHORT : Addr) (w_BOOLEAN : Addr) (h0 : Heap) (n0 : Nat) (Z0 : n0 ≤ h0.size) (G : Glob Z h0 w_INT w_BYTE w_CHAR w_OBJECT w_FLOAT w_DOUBLE w_LONG w_SHORT w_BOOLEAN)  :
    MetFree l (⟨"java/lang/Enum", "ordinal", "()I"⟩ : MethodName) (head1 (Jvm.Cond.code (⟨"java/lang/Enum", "ordinal", "()I"⟩ : MethodName) jdk_37_method_2_code 1 (some .int) :: ws) ({ frames := 0, cells := 0, slots := 0, locals := 0 } : Room)) (fun a U => a = #[(.ref w_BOOLEAN)] ∧ Z.Warmed39 U.vm ∧ U.heap = h0) (fun _ _ _ _ _ => True) (fun _ U o U' => ∃ v L, o = .returned v ∧ QR (some (.int (1 : Int32))) h0 n0 v U'.heap L ∧ FrameEnd U o U' L ({ frames := 0, cells := 0, slots := 0, locals := 0 } : Room).cells ({ frames := 0, cells := 0, slots := 0, locals := 0 } : Room).slots) := by
  refine MetFree.of_bodySF (plainFor_of_name pn_java_lang_Enum) hisR ?_
  intro p e s m args below meth c s₁ Bd hml0 hP hK
  obtain ⟨rfl, hZ, hh⟩ := hP
  have hx := Bd.exec
  have hby := Bd.bytes
  have hml : c.maxLocals = 1 := hml0
  have hown : s.vm.findClass "java/lang/Enum" = some m.cls := findClass_of_methodNamed Bd.named
  have X0 : Stand p l e ({ frames := 0, cells := 0, slots := 0, locals := 0 } : Room) s m #[(.ref w_BOOLEAN)] below meth c s₁ [] 0 0 := Stand.of_body Bd
  have e0 : s₁.heap = h0 := by rw [← hh, Bd.state]; rfl
  have N0 := Fr.nil n0
  have pre0 : ∀ t, Steps p.tables e below (s₁.setTop (mkF m 0 #[.val (.ref w_BOOLEAN)] [])) t → Steps p.tables e below (s₁.setTop (entryFrame m #[(.ref w_BOOLEAN)] 1)) t := fun t k => castTop (ef_2_R m w_BOOLEAN) k
  have G' := G
  obtain ⟨S_w_INT, E_w_INT, F_ordinal_w_INT, S_w_BYTE, E_w_BYTE, F_ordinal_w_BYTE, S_w_CHAR, E_w_CHAR, F_ordinal_w_CHAR, S_w_OBJECT, E_w_OBJECT, F_ordinal_w_OBJECT, S_w_FLOAT, E_w_FLOAT, F_ordinal_w_FLOAT, S_w_DOUBLE, E_w_DOUBLE, F_ordinal_w_DOUBLE, S_w_LONG, E_w_LONG, F_ordinal_w_LONG, S_w_SHORT, E_w_SHORT, F_ordinal_w_SHORT, S_w_BOOLEAN, E_w_BOOLEAN, F_ordinal_w_BOOLEAN⟩ := G'
  obtain ⟨T1, X1, e1, st1⟩ := getF X0 hx hZ hown (host := "") (Or.inl (hw _ (List.mem_of_getElem? (i := 13) rfl))) Via.refl e0 F_ordinal_w_BOOLEAN (g := (mkF m 1 #[.val (.ref w_BOOLEAN)] [(.ref w_BOOLEAN)])) rfl rfl (hb hby d2_1)
  obtain ⟨fs, hr, hrun, hended, hW, hsame⟩ := X1.leave (v := some (.int (1 : Int32))) (fun h => by rw [Bd.returns] at h; cases h)
  refine ⟨_, _, pre0 _ ?_, hrun, hended, _, _, rfl, ?_, ⟨_, rfl⟩, hW, hsame.mono (by decide) (by decide)⟩
  · show Steps p.tables e below (s₁.setTop (mkF m 0 #[.val (.ref w_BOOLEAN)] [])) _
    refine XS.aloadN X0.here hx rfl (hb hby d2_0) rfl rfl ?_
    show Steps p.tables e below (s₁.setTop (mkF m 1 #[.val (.ref w_BOOLEAN)] [(.ref w_BOOLEAN)])) _
    refine st1 _ ?_
    show Steps p.tables e below (T1.setTop (mkF m 4 #[.val (.ref w_BOOLEAN)] [(.int (1 : Int32))])) _
    exact retOut X1 hx Bd.returns rfl (Or.inl ⟨rfl, Or.inl rfl, _, rfl⟩) (hb hby d2_4) hr
  · show QR _ h0 n0 _ T1.heap _
    rw [e1]
    exact ⟨rfl, N0, rfl⟩
set_option maxRecDepth 65536 in
set_option maxHeartbeats 40000000 in
theorem raw_4 (l : Launch) (Z : State) (a0 : Array Value) (hw : ∀ d ∈ tables_1, d.before a0 Z = true) (ws : List Jvm.Cond) (w_INT : Addr) (w_BYTE : Addr) (w_CHAR : Addr) (w_OBJECT : Addr) (w_FLOAT : Addr) (w_DOUBLE : Addr) (w_LONG : Addr) (w_SHORT : Addr) (w_BOOLEAN : Addr) (h0 : Heap) (n0 : Nat) (Z0 : n0 ≤ h0.size) (G : Glob Z h0 w_INT w_BYTE w_CHAR w_OBJECT w_FLOAT w_DOUBLE w_LONG w_SHORT w_BOOLEAN) (p1 : Int32) (hs : ¬ ((p1 &&& (1 : Int32)) = (0 : Int32))) :
    MetFree l x (head1 (Jvm.Cond.code x code maxLocals ret :: ws) room_1) (fun a U => a = #[(.int (4 : Int32)), (.int p1)] ∧ Z.Warmed39 U.vm ∧ U.heap = h0) (fun _ _ _ _ _ => True) (fun _ U o U' => ∃ v L, o = .returned v ∧ QL (some (.int (1 : Int32))) h0 n0 v U'.heap L ∧ FrameEnd U o U' L room_1.cells room_1.slots) := by
  refine MetFree.of_bodySF (plainFor_of_name pn_com_example_refleash_refleash_hprof_BasicTypeOfPinLaw) hisR ?_
  intro p e s m args below meth c s₁ Bd hml0 hP hK
  obtain ⟨rfl, hZ, hh⟩ := hP
  have hx := Bd.exec
  have hby := Bd.bytes
  have hml : c.maxLocals = 6 := hml0
  have hown : s.vm.findClass "com/example/refleash/refleash/hprof/BasicTypeOfPinLaw" = some m.cls := findClass_of_methodNamed Bd.named
  have X0 : Stand p l e room_1 s m #[(.int (4 : Int32)), (.int p1)] below meth c s₁ [] 0 0 := Stand.of_body Bd
  have e0 : s₁.heap = h0 := by rw [← hh, Bd.state]; rfl
  have N0 := Fr.nil n0
  have pre0 : ∀ t, Steps p.tables e below (s₁.setTop (mkF m 0 #[.val (.int (4 : Int32)), .val (.int p1), .unset, .unset, .unset, .unset] [])) t → Steps p.tables e below (s₁.setTop (entryFrame m #[(.int (4 : Int32)), (.int p1)] maxLocals)) t := fun t k => castTop (ef_0_II m (4 : Int32) p1) k
  have G' := G
  obtain ⟨S_w_INT, E_w_INT, F_ordinal_w_INT, S_w_BYTE, E_w_BYTE, F_ordinal_w_BYTE, S_w_CHAR, E_w_CHAR, F_ordinal_w_CHAR, S_w_OBJECT, E_w_OBJECT, F_ordinal_w_OBJECT, S_w_FLOAT, E_w_FLOAT, F_ordinal_w_FLOAT, S_w_DOUBLE, E_w_DOUBLE, F_ordinal_w_DOUBLE, S_w_LONG, E_w_LONG, F_ordinal_w_LONG, S_w_SHORT, E_w_SHORT, F_ordinal_w_SHORT, S_w_BOOLEAN, E_w_BOOLEAN, F_ordinal_w_BOOLEAN⟩ := G'
  obtain ⟨_, _, ⟨T1, L1, k1, n1⟩, -, X1, ⟨Lc1, hQ1, l1, y1, z1⟩, st1⟩ := Jvm.LawKit.callS X0 hx (y := (⟨"com/example/refleash/refleash/hprof/BasicType", "of", "(I)Lcom/example/refleash/refleash/hprof/BasicType;"⟩ : MethodName)) hown (mvT hZ (hw _ (List.mem_of_getElem? (i := 0) rfl))) (mvT hZ (hw _ (List.mem_of_getElem? (i := 1) rfl))) (mvT hZ (hw _ (List.mem_of_getElem? (i := 2) rfl))) (mvT hZ (hw _ (List.mem_of_getElem? (i := 3) rfl))) (by decide) (backOf (W := 0) (c1_1 l Z a0 hw [] w_INT w_BYTE w_CHAR w_OBJECT w_FLOAT w_DOUBLE w_LONG w_SHORT w_BOOLEAN h0 n0 Z0 G) hZ (hw _ (List.mem_of_getElem? (i := 3) rfl)) (hw _ (List.mem_of_getElem? (i := 2) rfl)) (by decide) (by decide)) (g := (mkF m 18 #[.val (.int (4 : Int32)), .val (.int p1), .val (.int (4 : Int32)), .unset, .unset, .unset] [(.int (4 : Int32))])) rfl (by rw [hml]; rfl) (argsL := [(.int (4 : Int32))]) (rest := []) (lenOf pd__I_Lcom_example_refleash_refleash_hprof_BasicType_ rfl) rfl (by show 2 * 0 + _ ≤ _; exact Nat.le_of_eq rfl) (hb hby at_18) (fun _ _ => ⟨rfl, e0, (by decide : 0 + 0 ≤ _), (by decide : 0 + 0 ≤ _)⟩)
  dsimp only [Pt.U, Pt.locs, Pt.cells, Pt.slots] at X1 l1 y1 z1 st1 hQ1
  subst l1 y1 z1
  obtain ⟨rfl, N1q, e1⟩ := hQ1
  have N1 := Fr.app N0 N1q
  obtain ⟨cq2, kq2, q2a, q2b, q2c⟩ := isOf hZ e1 E_w_BOOLEAN
  obtain ⟨_, _, ⟨T2, L2, k2, n2⟩, -, X2, ⟨Lc2, hQ2, l2, y2, z2⟩, st2⟩ := X1.virtualBackUp hx (x := (⟨"com/example/refleash/refleash/hprof/BasicType", "ordinal", "()I"⟩ : MethodName)) (y := (⟨"java/lang/Enum", "ordinal", "()I"⟩ : MethodName)) hown (mvT hZ (hw _ (List.mem_of_getElem? (i := 6) rfl))) (mvT hZ (hw _ (List.mem_of_getElem? (i := 7) rfl))) (mvT hZ (hw _ (List.mem_of_getElem? (i := 8) rfl))) (by decide) (mvT hZ (hw _ (List.mem_of_getElem? (i := 10) rfl))) (mvT hZ (hw _ (List.mem_of_getElem? (i := 9) rfl))) (backOf (W := 0) (c2_1 l Z a0 hw [] w_INT w_BYTE w_CHAR w_OBJECT w_FLOAT w_DOUBLE w_LONG w_SHORT w_BOOLEAN h0 n0 Z0 G) hZ (hw _ (List.mem_of_getElem? (i := 12) rfl)) (hw _ (List.mem_of_getElem? (i := 11) rfl)) (by decide) (by decide)) q2a q2c (g := (mkF m 81 #[.val (.int (4 : Int32)), .val (.int p1), .val (.int (4 : Int32)), .val (.ref w_BOOLEAN), .val (.int (1 : Int32)), .val (.int (1 : Int32))] [(.ref w_BOOLEAN)])) rfl (by rw [hml]; rfl) (Steps.refl _) (argsL := []) (rest := []) (lenOf pd___I rfl) rfl (by show 2 * 0 + _ ≤ _; exact Nat.le_of_eq rfl) (hb hby at_81) (fun _ _ => ⟨rfl, e1, (by decide : 0 + 0 ≤ _), (by decide : 0 + 0 ≤ _)⟩)
  dsimp only [Pt.U, Pt.locs, Pt.cells, Pt.slots] at X2 l2 y2 z2 st2 hQ2
  subst l2 y2 z2
  obtain ⟨rfl, N2q, e2⟩ := hQ2
  have N2 := Fr.app N1 N2q
  obtain ⟨fs, hr, hrun, hended, hW, hsame⟩ := X2.leave (v := some (.int (1 : Int32))) (fun h => by rw [Bd.returns] at h; cases h)
  refine ⟨_, _, pre0 _ ?_, hrun, hended, _, _, rfl, ?_, ⟨_, rfl⟩, hW, hsame.mono (by decide) (by decide)⟩
  · show Steps p.tables e below (s₁.setTop (mkF m 0 #[.val (.int (4 : Int32)), .val (.int p1), .unset, .unset, .unset, .unset] [])) _
    refine XS.iloadN X0.here hx rfl (hb hby at_0) rfl ?_
    show Steps p.tables e below (s₁.setTop (mkF m 1 #[.val (.int (4 : Int32)), .val (.int p1), .unset, .unset, .unset, .unset] [(.int p1)])) _
    refine XS.iconst X0.here hx rfl (hb hby at_1) ?_
    show Steps p.tables e below (s₁.setTop (mkF m 2 #[.val (.int (4 : Int32)), .val (.int p1), .unset, .unset, .unset, .unset] [(.int (1 : Int32)), (.int p1)])) _
    refine XS.iand X0.here hx rfl (hb hby at_2) rfl ?_
    show Steps p.tables e below (s₁.setTop (mkF m 3 #[.val (.int (4 : Int32)), .val (.int p1), .unset, .unset, .unset, .unset] [(.int (p1 &&& (1 : Int32)))])) _
    refine XS.ifNo X0.here hx rfl (hb hby at_3) rfl ((if0 _ _).trans (feq (hs : ¬ ((p1 &&& (1 : Int32)) = (0 : Int32)))).1) ?_
    show Steps p.tables e below (s₁.setTop (mkF m 6 #[.val (.int (4 : Int32)), .val (.int p1), .unset, .unset, .unset, .unset] [])) _
    refine XS.iloadN X0.here hx rfl (hb hby at_6) rfl ?_
    show Steps p.tables e below (s₁.setTop (mkF m 7 #[.val (.int (4 : Int32)), .val (.int p1), .unset, .unset, .unset, .unset] [(.int (4 : Int32))])) _
    refine XS.goto X0.here hx rfl (pc0 := 7) (pc' := 16) rfl (hb hby at_7) (by decide) (by decide) ?_
    show Steps p.tables e below (s₁.setTop (mkF m 16 #[.val (.int (4 : Int32)), .val (.int p1), .unset, .unset, .unset, .unset] [(.int (4 : Int32))])) _
    refine XS.istoreN X0.here hx rfl (hb hby at_16) rfl (l' := #[.val (.int (4 : Int32)), .val (.int p1), .val (.int (4 : Int32)), .unset, .unset, .unset]) rfl ?_
    show Steps p.tables e below (s₁.setTop (mkF m 17 #[.val (.int (4 : Int32)), .val (.int p1), .val (.int (4 : Int32)), .unset, .unset, .unset] [])) _
    refine XS.iloadN X0.here hx rfl (hb hby at_17) rfl ?_
    show Steps p.tables e below (s₁.setTop (mkF m 18 #[.val (.int (4 : Int32)), .val (.int p1), .val (.int (4 : Int32)), .unset, .unset, .unset] [(.int (4 : Int32))])) _
    refine st1 _ ?_
    show Steps p.tables e below (T1.setTop (mkF m 21 #[.val (.int (4 : Int32)), .val (.int p1), .val (.int (4 : Int32)), .unset, .unset, .unset] [(.ref w_BOOLEAN)])) _
    refine XS.astoreN X1.here hx rfl (hb hby at_21) rfl rfl (l' := #[.val (.int (4 : Int32)), .val (.int p1), .val (.int (4 : Int32)), .val (.ref w_BOOLEAN), .unset, .unset]) rfl ?_
    show Steps p.tables e below (T1.setTop (mkF m 22 #[.val (.int (4 : Int32)), .val (.int p1), .val (.int (4 : Int32)), .val (.ref w_BOOLEAN), .unset, .unset] [])) _
    refine XS.iloadN X1.here hx rfl (hb hby at_22) rfl ?_
    show Steps p.tables e below (T1.setTop (mkF m 23 #[.val (.int (4 : Int32)), .val (.int p1), .val (.int (4 : Int32)), .val (.ref w_BOOLEAN), .unset, .unset] [(.int (4 : Int32))])) _
    refine XS.iconst X1.here hx rfl (hb hby at_23) ?_
    show Steps p.tables e below (T1.setTop (mkF m 24 #[.val (.int (4 : Int32)), .val (.int p1), .val (.int (4 : Int32)), .val (.ref w_BOOLEAN), .unset, .unset] [(.int (2 : Int32)), (.int (4 : Int32))])) _
    refine XS.icmpNo X1.here hx rfl (hb hby at_24) rfl (feq (by decide : ¬ ((4 : Int32) = (2 : Int32)))).1 ?_
    show Steps p.tables e below (T1.setTop (mkF m 27 #[.val (.int (4 : Int32)), .val (.int p1), .val (.int (4 : Int32)), .val (.ref w_BOOLEAN), .unset, .unset] [])) _
    refine XS.iloadN X1.here hx rfl (hb hby at_27) rfl ?_
    show Steps p.tables e below (T1.setTop (mkF m 28 #[.val (.int (4 : Int32)), .val (.int p1), .val (.int (4 : Int32)), .val (.ref w_BOOLEAN), .unset, .unset] [(.int (4 : Int32))])) _
    refine XS.iconst X1.here hx rfl (hb hby at_28) ?_
    show Steps p.tables e below (T1.setTop (mkF m 29 #[.val (.int (4 : Int32)), .val (.int p1), .val (.int (4 : Int32)), .val (.ref w_BOOLEAN), .unset, .unset] [(.int (4 : Int32)), (.int (4 : Int32))])) _
    refine XS.icmpNo X1.here hx rfl (hb hby at_29) rfl (flt (by decide : ¬ ((4 : Int32) < (4 : Int32)))).1 ?_
    show Steps p.tables e below (T1.setTop (mkF m 32 #[.val (.int (4 : Int32)), .val (.int p1), .val (.int (4 : Int32)), .val (.ref w_BOOLEAN), .unset, .unset] [])) _
    refine XS.iloadN X1.here hx rfl (hb hby at_32) rfl ?_
    show Steps p.tables e below (T1.setTop (mkF m 33 #[.val (.int (4 : Int32)), .val (.int p1), .val (.int (4 : Int32)), .val (.ref w_BOOLEAN), .unset, .unset] [(.int (4 : Int32))])) _
    refine XS.bipush X1.here hx rfl (hb hby at_33) ?_
    show Steps p.tables e below (T1.setTop (mkF m 35 #[.val (.int (4 : Int32)), .val (.int p1), .val (.int (4 : Int32)), .val (.ref w_BOOLEAN), .unset, .unset] [(.int (11 : Int32)), (.int (4 : Int32))])) _
    refine XS.icmpNo X1.here hx rfl (hb hby at_35) rfl (flt (by decide : ¬ ((11 : Int32) < (4 : Int32)))).2.2.1 ?_
    show Steps p.tables e below (T1.setTop (mkF m 38 #[.val (.int (4 : Int32)), .val (.int p1), .val (.int (4 : Int32)), .val (.ref w_BOOLEAN), .unset, .unset] [])) _
    refine XS.iconst X1.here hx rfl (hb hby at_38) ?_
    show Steps p.tables e below (T1.setTop (mkF m 39 #[.val (.int (4 : Int32)), .val (.int p1), .val (.int (4 : Int32)), .val (.ref w_BOOLEAN), .unset, .unset] [(.int (1 : Int32))])) _
    refine XS.goto X1.here hx rfl (pc0 := 39) (pc' := 43) rfl (hb hby at_39) (by decide) (by decide) ?_
    show Steps p.tables e below (T1.setTop (mkF m 43 #[.val (.int (4 : Int32)), .val (.int p1), .val (.int (4 : Int32)), .val (.ref w_BOOLEAN), .unset, .unset] [(.int (1 : Int32))])) _
    refine XS.istore X1.here hx rfl (hb hby at_43) rfl (l' := #[.val (.int (4 : Int32)), .val (.int p1), .val (.int (4 : Int32)), .val (.ref w_BOOLEAN), .val (.int (1 : Int32)), .unset]) rfl ?_
    show Steps p.tables e below (T1.setTop (mkF m 45 #[.val (.int (4 : Int32)), .val (.int p1), .val (.int (4 : Int32)), .val (.ref w_BOOLEAN), .val (.int (1 : Int32)), .unset] [])) _
    refine XS.iload X1.here hx rfl (hb hby at_45) rfl ?_
    show Steps p.tables e below (T1.setTop (mkF m 47 #[.val (.int (4 : Int32)), .val (.int p1), .val (.int (4 : Int32)), .val (.ref w_BOOLEAN), .val (.int (1 : Int32)), .unset] [(.int (1 : Int32))])) _
    refine XS.ifYes X1.here hx rfl (pc0 := 47) (pc' := 60) rfl (hb hby at_47) rfl ((if0 _ _).trans (feq (by decide : ¬ ((1 : Int32) = (0 : Int32)))).2) (by decide) (by decide) ?_
    show Steps p.tables e below (T1.setTop (mkF m 60 #[.val (.int (4 : Int32)), .val (.int p1), .val (.int (4 : Int32)), .val (.ref w_BOOLEAN), .val (.int (1 : Int32)), .unset] [])) _
    refine XS.aloadN X1.here hx rfl (hb hby at_60) rfl rfl ?_
    show Steps p.tables e below (T1.setTop (mkF m 61 #[.val (.int (4 : Int32)), .val (.int p1), .val (.int (4 : Int32)), .val (.ref w_BOOLEAN), .val (.int (1 : Int32)), .unset] [(.ref w_BOOLEAN)])) _
    refine XS.ifnonnullYes X1.here hx rfl (pc0 := 61) (pc' := 66) rfl (hb hby at_61) rfl (by decide) (by decide) ?_
    show Steps p.tables e below (T1.setTop (mkF m 66 #[.val (.int (4 : Int32)), .val (.int p1), .val (.int (4 : Int32)), .val (.ref w_BOOLEAN), .val (.int (1 : Int32)), .unset] [])) _
    refine XS.iloadN X1.here hx rfl (hb hby at_66) rfl ?_
    show Steps p.tables e below (T1.setTop (mkF m 67 #[.val (.int (4 : Int32)), .val (.int p1), .val (.int (4 : Int32)), .val (.ref w_BOOLEAN), .val (.int (1 : Int32)), .unset] [(.int (4 : Int32))])) _
    refine XS.iconst X1.here hx rfl (hb hby at_67) ?_
    show Steps p.tables e below (T1.setTop (mkF m 68 #[.val (.int (4 : Int32)), .val (.int p1), .val (.int (4 : Int32)), .val (.ref w_BOOLEAN), .val (.int (1 : Int32)), .unset] [(.int (2 : Int32)), (.int (4 : Int32))])) _
    refine XS.icmpYes X1.here hx rfl (pc0 := 68) (pc' := 75) rfl (hb hby at_68) rfl (feq (by decide : ¬ ((4 : Int32) = (2 : Int32)))).2 (by decide) (by decide) ?_
    show Steps p.tables e below (T1.setTop (mkF m 75 #[.val (.int (4 : Int32)), .val (.int p1), .val (.int (4 : Int32)), .val (.ref w_BOOLEAN), .val (.int (1 : Int32)), .unset] [])) _
    refine XS.iloadN X1.here hx rfl (hb hby at_75) rfl ?_
    show Steps p.tables e below (T1.setTop (mkF m 76 #[.val (.int (4 : Int32)), .val (.int p1), .val (.int (4 : Int32)), .val (.ref w_BOOLEAN), .val (.int (1 : Int32)), .unset] [(.int (4 : Int32))])) _
    refine XS.iconst X1.here hx rfl (hb hby at_76) ?_
    show Steps p.tables e below (T1.setTop (mkF m 77 #[.val (.int (4 : Int32)), .val (.int p1), .val (.int (4 : Int32)), .val (.ref w_BOOLEAN), .val (.int (1 : Int32)), .unset] [(.int (3 : Int32)), (.int (4 : Int32))])) _
    refine XS.isub X1.here hx rfl (hb hby at_77) rfl ?_
    show Steps p.tables e below (T1.setTop (mkF m 78 #[.val (.int (4 : Int32)), .val (.int p1), .val (.int (4 : Int32)), .val (.ref w_BOOLEAN), .val (.int (1 : Int32)), .unset] [(.int ((4 : Int32) - (3 : Int32)))])) _
    rw [(show ((4 : Int32) - (3 : Int32)) = (1 : Int32) from by decide)]
    show Steps p.tables e below (T1.setTop (mkF m 78 #[.val (.int (4 : Int32)), .val (.int p1), .val (.int (4 : Int32)), .val (.ref w_BOOLEAN), .val (.int (1 : Int32)), .unset] [(.int (1 : Int32))])) _
    refine XS.istore X1.here hx rfl (hb hby at_78) rfl (l' := #[.val (.int (4 : Int32)), .val (.int p1), .val (.int (4 : Int32)), .val (.ref w_BOOLEAN), .val (.int (1 : Int32)), .val (.int (1 : Int32))]) rfl ?_
    show Steps p.tables e below (T1.setTop (mkF m 80 #[.val (.int (4 : Int32)), .val (.int p1), .val (.int (4 : Int32)), .val (.ref w_BOOLEAN), .val (.int (1 : Int32)), .val (.int (1 : Int32))] [])) _
    refine XS.aloadN X1.here hx rfl (hb hby at_80) rfl rfl ?_
    show Steps p.tables e below (T1.setTop (mkF m 81 #[.val (.int (4 : Int32)), .val (.int p1), .val (.int (4 : Int32)), .val (.ref w_BOOLEAN), .val (.int (1 : Int32)), .val (.int (1 : Int32))] [(.ref w_BOOLEAN)])) _
    refine st2.trans ?_
    show Steps p.tables e below (T2.setTop (mkF m 84 #[.val (.int (4 : Int32)), .val (.int p1), .val (.int (4 : Int32)), .val (.ref w_BOOLEAN), .val (.int (1 : Int32)), .val (.int (1 : Int32))] [(.int (1 : Int32))])) _
    refine XS.iload X2.here hx rfl (hb hby at_84) rfl ?_
    show Steps p.tables e below (T2.setTop (mkF m 86 #[.val (.int (4 : Int32)), .val (.int p1), .val (.int (4 : Int32)), .val (.ref w_BOOLEAN), .val (.int (1 : Int32)), .val (.int (1 : Int32))] [(.int (1 : Int32)), (.int (1 : Int32))])) _
    refine XS.icmpNo X2.here hx rfl (hb hby at_86) rfl (teq (by decide : (1 : Int32) = (1 : Int32))).2 ?_
    show Steps p.tables e below (T2.setTop (mkF m 89 #[.val (.int (4 : Int32)), .val (.int p1), .val (.int (4 : Int32)), .val (.ref w_BOOLEAN), .val (.int (1 : Int32)), .val (.int (1 : Int32))] [])) _
    refine XS.iconst X2.here hx rfl (hb hby at_89) ?_
    show Steps p.tables e below (T2.setTop (mkF m 90 #[.val (.int (4 : Int32)), .val (.int p1), .val (.int (4 : Int32)), .val (.ref w_BOOLEAN), .val (.int (1 : Int32)), .val (.int (1 : Int32))] [(.int (1 : Int32))])) _
    refine XS.goto X2.here hx rfl (pc0 := 90) (pc' := 94) rfl (hb hby at_90) (by decide) (by decide) ?_
    show Steps p.tables e below (T2.setTop (mkF m 94 #[.val (.int (4 : Int32)), .val (.int p1), .val (.int (4 : Int32)), .val (.ref w_BOOLEAN), .val (.int (1 : Int32)), .val (.int (1 : Int32))] [(.int (1 : Int32))])) _
    exact retOut X2 hx Bd.returns rfl (Or.inl ⟨rfl, Or.inr (Or.inl rfl), _, rfl⟩) (hb hby at_94) hr
  · exact ⟨rfl, N2⟩
theorem d1_68 : decode prog_56_method_4_code 68 = .ok (.getstatic 10, 3) := by decide +kernel
theorem d1_71 : decode prog_56_method_4_code 71 = .ok (.goto 40, 3) := by decide +kernel
set_option maxRecDepth 65536 in
set_option maxHeartbeats 40000000 in
theorem c1_2 (l : Launch) (Z : State) (a0 : Array Value) (hw : ∀ d ∈ tables_1, d.before a0 Z = true) (ws : List Jvm.Cond) (w_INT : Addr) (w_BYTE : Addr) (w_CHAR : Addr) (w_OBJECT : Addr) (w_FLOAT : Addr) (w_DOUBLE : Addr) (w_LONG : Addr) (w_SHORT : Addr) (w_BOOLEAN : Addr) (h0 : Heap) (n0 : Nat) (Z0 : n0 ≤ h0.size) (G : Glob Z h0 w_INT w_BYTE w_CHAR w_OBJECT w_FLOAT w_DOUBLE w_LONG w_SHORT w_BOOLEAN)  :
    MetFree l (⟨"com/example/refleash/refleash/hprof/BasicType", "of", "(I)Lcom/example/refleash/refleash/hprof/BasicType;"⟩ : MethodName) (head1 (Jvm.Cond.code (⟨"com/example/refleash/refleash/hprof/BasicType", "of", "(I)Lcom/example/refleash/refleash/hprof/BasicType;"⟩ : MethodName) prog_56_method_4_code 1 (some (.object "com/example/refleash/refleash/hprof/BasicType")) :: ws) ({ frames := 0, cells := 0, slots := 0, locals := 0 } : Room)) (fun a U => a = #[(.int (5 : Int32))] ∧ Z.Warmed39 U.vm ∧ U.heap = h0) (fun _ _ _ _ _ => True) (fun _ U o U' => ∃ v L, o = .returned v ∧ QR (some (.ref w_CHAR)) h0 n0 v U'.heap L ∧ FrameEnd U o U' L ({ frames := 0, cells := 0, slots := 0, locals := 0 } : Room).cells ({ frames := 0, cells := 0, slots := 0, locals := 0 } : Room).slots) := by
  refine MetFree.of_bodySF (plainFor_of_name pn_com_example_refleash_refleash_hprof_BasicType) hisR ?_
  intro p e s m args below meth c s₁ Bd hml0 hP hK
  obtain ⟨rfl, hZ, hh⟩ := hP
  have hx := Bd.exec
  have hby := Bd.bytes
  have hml : c.maxLocals = 1 := hml0
  have hown : s.vm.findClass "com/example/refleash/refleash/hprof/BasicType" = some m.cls := findClass_of_methodNamed Bd.named
  have X0 : Stand p l e ({ frames := 0, cells := 0, slots := 0, locals := 0 } : Room) s m #[(.int (5 : Int32))] below meth c s₁ [] 0 0 := Stand.of_body Bd
  have e0 : s₁.heap = h0 := by rw [← hh, Bd.state]; rfl
  have N0 := Fr.nil n0
  have pre0 : ∀ t, Steps p.tables e below (s₁.setTop (mkF m 0 #[.val (.int (5 : Int32))] [])) t → Steps p.tables e below (s₁.setTop (entryFrame m #[(.int (5 : Int32))] 1)) t := fun t k => castTop (ef_1_I m (5 : Int32)) k
  have G' := G
  obtain ⟨S_w_INT, E_w_INT, F_ordinal_w_INT, S_w_BYTE, E_w_BYTE, F_ordinal_w_BYTE, S_w_CHAR, E_w_CHAR, F_ordinal_w_CHAR, S_w_OBJECT, E_w_OBJECT, F_ordinal_w_OBJECT, S_w_FLOAT, E_w_FLOAT, F_ordinal_w_FLOAT, S_w_DOUBLE, E_w_DOUBLE, F_ordinal_w_DOUBLE, S_w_LONG, E_w_LONG, F_ordinal_w_LONG, S_w_SHORT, E_w_SHORT, F_ordinal_w_SHORT, S_w_BOOLEAN, E_w_BOOLEAN, F_ordinal_w_BOOLEAN⟩ := G'
  obtain ⟨T1, X1, e1, st1⟩ := getS2 X0 hx hZ hown (host := "") (Or.inl (hw _ (List.mem_of_getElem? (i := 17) rfl))) Via.refl e0 S_w_CHAR (g := (mkF m 68 #[.val (.int (5 : Int32))] [])) rfl (hb hby d1_68)
  obtain ⟨fs, hr, hrun, hended, hW, hsame⟩ := X1.leave (v := some (.ref w_CHAR)) (fun h => by rw [Bd.returns] at h; cases h)
  refine ⟨_, _, pre0 _ ?_, hrun, hended, _, _, rfl, ?_, ⟨_, rfl⟩, hW, hsame.mono (by decide) (by decide)⟩
  · show Steps p.tables e below (s₁.setTop (mkF m 0 #[.val (.int (5 : Int32))] [])) _
    refine XS.iloadN X0.here hx rfl (hb hby d1_0) rfl ?_
    show Steps p.tables e below (s₁.setTop (mkF m 1 #[.val (.int (5 : Int32))] [(.int (5 : Int32))])) _
    refine XS.tswIn X0.here hx rfl (pc0 := 1) (pc' := 68) rfl (hb hby d1_1) rfl (by decide) (o := 67) (by decide) (by decide) (by decide) ?_
    show Steps p.tables e below (s₁.setTop (mkF m 68 #[.val (.int (5 : Int32))] [])) _
    refine st1 _ ?_
    show Steps p.tables e below (T1.setTop (mkF m 71 #[.val (.int (5 : Int32))] [(.ref w_CHAR)])) _
    refine XS.goto X1.here hx rfl (pc0 := 71) (pc' := 111) rfl (hb hby d1_71) (by decide) (by decide) ?_
    show Steps p.tables e below (T1.setTop (mkF m 111 #[.val (.int (5 : Int32))] [(.ref w_CHAR)])) _
    exact retOut X1 hx Bd.returns rfl (Or.inr (Or.inr (Or.inr (Or.inr ⟨rfl, rfl, rfl⟩)))) (hb hby d1_111) hr
  · show QR _ h0 n0 _ T1.heap _
    rw [e1]
    exact ⟨rfl, N0, rfl⟩
set_option maxRecDepth 65536 in
set_option maxHeartbeats 40000000 in
theorem c2_2 (l : Launch) (Z : State) (a0 : Array Value) (hw : ∀ d ∈ tables_1, d.before a0 Z = true) (ws : List Jvm.Cond) (w_INT : Addr) (w_BYTE : Addr) (w_CHAR : Addr) (w_OBJECT : Addr) (w_FLOAT : Addr) (w_DOUBLE : Addr) (w_LONG : Addr) (w_SHORT : Addr) (w_BOOLEAN : Addr) (h0 : Heap) (n0 : Nat) (Z0 : n0 ≤ h0.size) (G : Glob Z h0 w_INT w_BYTE w_CHAR w_OBJECT w_FLOAT w_DOUBLE w_LONG w_SHORT w_BOOLEAN)  :
    MetFree l (⟨"java/lang/Enum", "ordinal", "()I"⟩ : MethodName) (head1 (Jvm.Cond.code (⟨"java/lang/Enum", "ordinal", "()I"⟩ : MethodName) jdk_37_method_2_code 1 (some .int) :: ws) ({ frames := 0, cells := 0, slots := 0, locals := 0 } : Room)) (fun a U => a = #[(.ref w_CHAR)] ∧ Z.Warmed39 U.vm ∧ U.heap = h0) (fun _ _ _ _ _ => True) (fun _ U o U' => ∃ v L, o = .returned v ∧ QR (some (.int (2 : Int32))) h0 n0 v U'.heap L ∧ FrameEnd U o U' L ({ frames := 0, cells := 0, slots := 0, locals := 0 } : Room).cells ({ frames := 0, cells := 0, slots := 0, locals := 0 } : Room).slots) := by
  refine MetFree.of_bodySF (plainFor_of_name pn_java_lang_Enum) hisR ?_
  intro p e s m args below meth c s₁ Bd hml0 hP hK
  obtain ⟨rfl, hZ, hh⟩ := hP
  have hx := Bd.exec
  have hby := Bd.bytes
  have hml : c.maxLocals = 1 := hml0
  have hown : s.vm.findClass "java/lang/Enum" = some m.cls := findClass_of_methodNamed Bd.named
  have X0 : Stand p l e ({ frames := 0, cells := 0, slots := 0, locals := 0 } : Room) s m #[(.ref w_CHAR)] below meth c s₁ [] 0 0 := Stand.of_body Bd
  have e0 : s₁.heap = h0 := by rw [← hh, Bd.state]; rfl
  have N0 := Fr.nil n0
  have pre0 : ∀ t, Steps p.tables e below (s₁.setTop (mkF m 0 #[.val (.ref w_CHAR)] [])) t → Steps p.tables e below (s₁.setTop (entryFrame m #[(.ref w_CHAR)] 1)) t := fun t k => castTop (ef_2_R m w_CHAR) k
  have G' := G
  obtain ⟨S_w_INT, E_w_INT, F_ordinal_w_INT, S_w_BYTE, E_w_BYTE, F_ordinal_w_BYTE, S_w_CHAR, E_w_CHAR, F_ordinal_w_CHAR, S_w_OBJECT, E_w_OBJECT, F_ordinal_w_OBJECT, S_w_FLOAT, E_w_FLOAT, F_ordinal_w_FLOAT, S_w_DOUBLE, E_w_DOUBLE, F_ordinal_w_DOUBLE, S_w_LONG, E_w_LONG, F_ordinal_w_LONG, S_w_SHORT, E_w_SHORT, F_ordinal_w_SHORT, S_w_BOOLEAN, E_w_BOOLEAN, F_ordinal_w_BOOLEAN⟩ := G'
  obtain ⟨T1, X1, e1, st1⟩ := getF X0 hx hZ hown (host := "") (Or.inl (hw _ (List.mem_of_getElem? (i := 13) rfl))) Via.refl e0 F_ordinal_w_CHAR (g := (mkF m 1 #[.val (.ref w_CHAR)] [(.ref w_CHAR)])) rfl rfl (hb hby d2_1)
  obtain ⟨fs, hr, hrun, hended, hW, hsame⟩ := X1.leave (v := some (.int (2 : Int32))) (fun h => by rw [Bd.returns] at h; cases h)
  refine ⟨_, _, pre0 _ ?_, hrun, hended, _, _, rfl, ?_, ⟨_, rfl⟩, hW, hsame.mono (by decide) (by decide)⟩
  · show Steps p.tables e below (s₁.setTop (mkF m 0 #[.val (.ref w_CHAR)] [])) _
    refine XS.aloadN X0.here hx rfl (hb hby d2_0) rfl rfl ?_
    show Steps p.tables e below (s₁.setTop (mkF m 1 #[.val (.ref w_CHAR)] [(.ref w_CHAR)])) _
    refine st1 _ ?_
    show Steps p.tables e below (T1.setTop (mkF m 4 #[.val (.ref w_CHAR)] [(.int (2 : Int32))])) _
    exact retOut X1 hx Bd.returns rfl (Or.inl ⟨rfl, Or.inl rfl, _, rfl⟩) (hb hby d2_4) hr
  · show QR _ h0 n0 _ T1.heap _
    rw [e1]
    exact ⟨rfl, N0, rfl⟩
set_option maxRecDepth 65536 in
set_option maxHeartbeats 40000000 in
theorem raw_5 (l : Launch) (Z : State) (a0 : Array Value) (hw : ∀ d ∈ tables_1, d.before a0 Z = true) (ws : List Jvm.Cond) (w_INT : Addr) (w_BYTE : Addr) (w_CHAR : Addr) (w_OBJECT : Addr) (w_FLOAT : Addr) (w_DOUBLE : Addr) (w_LONG : Addr) (w_SHORT : Addr) (w_BOOLEAN : Addr) (h0 : Heap) (n0 : Nat) (Z0 : n0 ≤ h0.size) (G : Glob Z h0 w_INT w_BYTE w_CHAR w_OBJECT w_FLOAT w_DOUBLE w_LONG w_SHORT w_BOOLEAN) (p1 : Int32) (hs : ¬ ((p1 &&& (1 : Int32)) = (0 : Int32))) :
    MetFree l x (head1 (Jvm.Cond.code x code maxLocals ret :: ws) room_1) (fun a U => a = #[(.int (5 : Int32)), (.int p1)] ∧ Z.Warmed39 U.vm ∧ U.heap = h0) (fun _ _ _ _ _ => True) (fun _ U o U' => ∃ v L, o = .returned v ∧ QL (some (.int (1 : Int32))) h0 n0 v U'.heap L ∧ FrameEnd U o U' L room_1.cells room_1.slots) := by
  refine MetFree.of_bodySF (plainFor_of_name pn_com_example_refleash_refleash_hprof_BasicTypeOfPinLaw) hisR ?_
  intro p e s m args below meth c s₁ Bd hml0 hP hK
  obtain ⟨rfl, hZ, hh⟩ := hP
  have hx := Bd.exec
  have hby := Bd.bytes
  have hml : c.maxLocals = 6 := hml0
  have hown : s.vm.findClass "com/example/refleash/refleash/hprof/BasicTypeOfPinLaw" = some m.cls := findClass_of_methodNamed Bd.named
  have X0 : Stand p l e room_1 s m #[(.int (5 : Int32)), (.int p1)] below meth c s₁ [] 0 0 := Stand.of_body Bd
  have e0 : s₁.heap = h0 := by rw [← hh, Bd.state]; rfl
  have N0 := Fr.nil n0
  have pre0 : ∀ t, Steps p.tables e below (s₁.setTop (mkF m 0 #[.val (.int (5 : Int32)), .val (.int p1), .unset, .unset, .unset, .unset] [])) t → Steps p.tables e below (s₁.setTop (entryFrame m #[(.int (5 : Int32)), (.int p1)] maxLocals)) t := fun t k => castTop (ef_0_II m (5 : Int32) p1) k
  have G' := G
  obtain ⟨S_w_INT, E_w_INT, F_ordinal_w_INT, S_w_BYTE, E_w_BYTE, F_ordinal_w_BYTE, S_w_CHAR, E_w_CHAR, F_ordinal_w_CHAR, S_w_OBJECT, E_w_OBJECT, F_ordinal_w_OBJECT, S_w_FLOAT, E_w_FLOAT, F_ordinal_w_FLOAT, S_w_DOUBLE, E_w_DOUBLE, F_ordinal_w_DOUBLE, S_w_LONG, E_w_LONG, F_ordinal_w_LONG, S_w_SHORT, E_w_SHORT, F_ordinal_w_SHORT, S_w_BOOLEAN, E_w_BOOLEAN, F_ordinal_w_BOOLEAN⟩ := G'
  obtain ⟨_, _, ⟨T1, L1, k1, n1⟩, -, X1, ⟨Lc1, hQ1, l1, y1, z1⟩, st1⟩ := Jvm.LawKit.callS X0 hx (y := (⟨"com/example/refleash/refleash/hprof/BasicType", "of", "(I)Lcom/example/refleash/refleash/hprof/BasicType;"⟩ : MethodName)) hown (mvT hZ (hw _ (List.mem_of_getElem? (i := 0) rfl))) (mvT hZ (hw _ (List.mem_of_getElem? (i := 1) rfl))) (mvT hZ (hw _ (List.mem_of_getElem? (i := 2) rfl))) (mvT hZ (hw _ (List.mem_of_getElem? (i := 3) rfl))) (by decide) (backOf (W := 0) (c1_2 l Z a0 hw [] w_INT w_BYTE w_CHAR w_OBJECT w_FLOAT w_DOUBLE w_LONG w_SHORT w_BOOLEAN h0 n0 Z0 G) hZ (hw _ (List.mem_of_getElem? (i := 3) rfl)) (hw _ (List.mem_of_getElem? (i := 2) rfl)) (by decide) (by decide)) (g := (mkF m 18 #[.val (.int (5 : Int32)), .val (.int p1), .val (.int (5 : Int32)), .unset, .unset, .unset] [(.int (5 : Int32))])) rfl (by rw [hml]; rfl) (argsL := [(.int (5 : Int32))]) (rest := []) (lenOf pd__I_Lcom_example_refleash_refleash_hprof_BasicType_ rfl) rfl (by show 2 * 0 + _ ≤ _; exact Nat.le_of_eq rfl) (hb hby at_18) (fun _ _ => ⟨rfl, e0, (by decide : 0 + 0 ≤ _), (by decide : 0 + 0 ≤ _)⟩)
  dsimp only [Pt.U, Pt.locs, Pt.cells, Pt.slots] at X1 l1 y1 z1 st1 hQ1
  subst l1 y1 z1
  obtain ⟨rfl, N1q, e1⟩ := hQ1
  have N1 := Fr.app N0 N1q
  obtain ⟨cq2, kq2, q2a, q2b, q2c⟩ := isOf hZ e1 E_w_CHAR
  obtain ⟨_, _, ⟨T2, L2, k2, n2⟩, -, X2, ⟨Lc2, hQ2, l2, y2, z2⟩, st2⟩ := X1.virtualBackUp hx (x := (⟨"com/example/refleash/refleash/hprof/BasicType", "ordinal", "()I"⟩ : MethodName)) (y := (⟨"java/lang/Enum", "ordinal", "()I"⟩ : MethodName)) hown (mvT hZ (hw _ (List.mem_of_getElem? (i := 6) rfl))) (mvT hZ (hw _ (List.mem_of_getElem? (i := 7) rfl))) (mvT hZ (hw _ (List.mem_of_getElem? (i := 8) rfl))) (by decide) (mvT hZ (hw _ (List.mem_of_getElem? (i := 10) rfl))) (mvT hZ (hw _ (List.mem_of_getElem? (i := 9) rfl))) (backOf (W := 0) (c2_2 l Z a0 hw [] w_INT w_BYTE w_CHAR w_OBJECT w_FLOAT w_DOUBLE w_LONG w_SHORT w_BOOLEAN h0 n0 Z0 G) hZ (hw _ (List.mem_of_getElem? (i := 12) rfl)) (hw _ (List.mem_of_getElem? (i := 11) rfl)) (by decide) (by decide)) q2a q2c (g := (mkF m 81 #[.val (.int (5 : Int32)), .val (.int p1), .val (.int (5 : Int32)), .val (.ref w_CHAR), .val (.int (1 : Int32)), .val (.int (2 : Int32))] [(.ref w_CHAR)])) rfl (by rw [hml]; rfl) (Steps.refl _) (argsL := []) (rest := []) (lenOf pd___I rfl) rfl (by show 2 * 0 + _ ≤ _; exact Nat.le_of_eq rfl) (hb hby at_81) (fun _ _ => ⟨rfl, e1, (by decide : 0 + 0 ≤ _), (by decide : 0 + 0 ≤ _)⟩)
  dsimp only [Pt.U, Pt.locs, Pt.cells, Pt.slots] at X2 l2 y2 z2 st2 hQ2
  subst l2 y2 z2
  obtain ⟨rfl, N2q, e2⟩ := hQ2
  have N2 := Fr.app N1 N2q
  obtain ⟨fs, hr, hrun, hended, hW, hsame⟩ := X2.leave (v := some (.int (1 : Int32))) (fun h => by rw [Bd.returns] at h; cases h)
  refine ⟨_, _, pre0 _ ?_, hrun, hended, _, _, rfl, ?_, ⟨_, rfl⟩, hW, hsame.mono (by decide) (by decide)⟩
  · show Steps p.tables e below (s₁.setTop (mkF m 0 #[.val (.int (5 : Int32)), .val (.int p1), .unset, .unset, .unset, .unset] [])) _
    refine XS.iloadN X0.here hx rfl (hb hby at_0) rfl ?_
    show Steps p.tables e below (s₁.setTop (mkF m 1 #[.val (.int (5 : Int32)), .val (.int p1), .unset, .unset, .unset, .unset] [(.int p1)])) _
    refine XS.iconst X0.here hx rfl (hb hby at_1) ?_
    show Steps p.tables e below (s₁.setTop (mkF m 2 #[.val (.int (5 : Int32)), .val (.int p1), .unset, .unset, .unset, .unset] [(.int (1 : Int32)), (.int p1)])) _
    refine XS.iand X0.here hx rfl (hb hby at_2) rfl ?_
    show Steps p.tables e below (s₁.setTop (mkF m 3 #[.val (.int (5 : Int32)), .val (.int p1), .unset, .unset, .unset, .unset] [(.int (p1 &&& (1 : Int32)))])) _
    refine XS.ifNo X0.here hx rfl (hb hby at_3) rfl ((if0 _ _).trans (feq (hs : ¬ ((p1 &&& (1 : Int32)) = (0 : Int32)))).1) ?_
    show Steps p.tables e below (s₁.setTop (mkF m 6 #[.val (.int (5 : Int32)), .val (.int p1), .unset, .unset, .unset, .unset] [])) _
    refine XS.iloadN X0.here hx rfl (hb hby at_6) rfl ?_
    show Steps p.tables e below (s₁.setTop (mkF m 7 #[.val (.int (5 : Int32)), .val (.int p1), .unset, .unset, .unset, .unset] [(.int (5 : Int32))])) _
    refine XS.goto X0.here hx rfl (pc0 := 7) (pc' := 16) rfl (hb hby at_7) (by decide) (by decide) ?_
    show Steps p.tables e below (s₁.setTop (mkF m 16 #[.val (.int (5 : Int32)), .val (.int p1), .unset, .unset, .unset, .unset] [(.int (5 : Int32))])) _
    refine XS.istoreN X0.here hx rfl (hb hby at_16) rfl (l' := #[.val (.int (5 : Int32)), .val (.int p1), .val (.int (5 : Int32)), .unset, .unset, .unset]) rfl ?_
    show Steps p.tables e below (s₁.setTop (mkF m 17 #[.val (.int (5 : Int32)), .val (.int p1), .val (.int (5 : Int32)), .unset, .unset, .unset] [])) _
    refine XS.iloadN X0.here hx rfl (hb hby at_17) rfl ?_
    show Steps p.tables e below (s₁.setTop (mkF m 18 #[.val (.int (5 : Int32)), .val (.int p1), .val (.int (5 : Int32)), .unset, .unset, .unset] [(.int (5 : Int32))])) _
    refine st1 _ ?_
    show Steps p.tables e below (T1.setTop (mkF m 21 #[.val (.int (5 : Int32)), .val (.int p1), .val (.int (5 : Int32)), .unset, .unset, .unset] [(.ref w_CHAR)])) _
    refine XS.astoreN X1.here hx rfl (hb hby at_21) rfl rfl (l' := #[.val (.int (5 : Int32)), .val (.int p1), .val (.int (5 : Int32)), .val (.ref w_CHAR), .unset, .unset]) rfl ?_
    show Steps p.tables e below (T1.setTop (mkF m 22 #[.val (.int (5 : Int32)), .val (.int p1), .val (.int (5 : Int32)), .val (.ref w_CHAR), .unset, .unset] [])) _
    refine XS.iloadN X1.here hx rfl (hb hby at_22) rfl ?_
    show Steps p.tables e below (T1.setTop (mkF m 23 #[.val (.int (5 : Int32)), .val (.int p1), .val (.int (5 : Int32)), .val (.ref w_CHAR), .unset, .unset] [(.int (5 : Int32))])) _
    refine XS.iconst X1.here hx rfl (hb hby at_23) ?_
    show Steps p.tables e below (T1.setTop (mkF m 24 #[.val (.int (5 : Int32)), .val (.int p1), .val (.int (5 : Int32)), .val (.ref w_CHAR), .unset, .unset] [(.int (2 : Int32)), (.int (5 : Int32))])) _
    refine XS.icmpNo X1.here hx rfl (hb hby at_24) rfl (feq (by decide : ¬ ((5 : Int32) = (2 : Int32)))).1 ?_
    show Steps p.tables e below (T1.setTop (mkF m 27 #[.val (.int (5 : Int32)), .val (.int p1), .val (.int (5 : Int32)), .val (.ref w_CHAR), .unset, .unset] [])) _
    refine XS.iloadN X1.here hx rfl (hb hby at_27) rfl ?_
    show Steps p.tables e below (T1.setTop (mkF m 28 #[.val (.int (5 : Int32)), .val (.int p1), .val (.int (5 : Int32)), .val (.ref w_CHAR), .unset, .unset] [(.int (5 : Int32))])) _
    refine XS.iconst X1.here hx rfl (hb hby at_28) ?_
    show Steps p.tables e below (T1.setTop (mkF m 29 #[.val (.int (5 : Int32)), .val (.int p1), .val (.int (5 : Int32)), .val (.ref w_CHAR), .unset, .unset] [(.int (4 : Int32)), (.int (5 : Int32))])) _
    refine XS.icmpNo X1.here hx rfl (hb hby at_29) rfl (flt (by decide : ¬ ((5 : Int32) < (4 : Int32)))).1 ?_
    show Steps p.tables e below (T1.setTop (mkF m 32 #[.val (.int (5 : Int32)), .val (.int p1), .val (.int (5 : Int32)), .val (.ref w_CHAR), .unset, .unset] [])) _
    refine XS.iloadN X1.here hx rfl (hb hby at_32) rfl ?_
    show Steps p.tables e below (T1.setTop (mkF m 33 #[.val (.int (5 : Int32)), .val (.int p1), .val (.int (5 : Int32)), .val (.ref w_CHAR), .unset, .unset] [(.int (5 : Int32))])) _
    refine XS.bipush X1.here hx rfl (hb hby at_33) ?_
    show Steps p.tables e below (T1.setTop (mkF m 35 #[.val (.int (5 : Int32)), .val (.int p1), .val (.int (5 : Int32)), .val (.ref w_CHAR), .unset, .unset] [(.int (11 : Int32)), (.int (5 : Int32))])) _
    refine XS.icmpNo X1.here hx rfl (hb hby at_35) rfl (flt (by decide : ¬ ((11 : Int32) < (5 : Int32)))).2.2.1 ?_
    show Steps p.tables e below (T1.setTop (mkF m 38 #[.val (.int (5 : Int32)), .val (.int p1), .val (.int (5 : Int32)), .val (.ref w_CHAR), .unset, .unset] [])) _
    refine XS.iconst X1.here hx rfl (hb hby at_38) ?_
    show Steps p.tables e below (T1.setTop (mkF m 39 #[.val (.int (5 : Int32)), .val (.int p1), .val (.int (5 : Int32)), .val (.ref w_CHAR), .unset, .unset] [(.int (1 : Int32))])) _
    refine XS.goto X1.here hx rfl (pc0 := 39) (pc' := 43) rfl (hb hby at_39) (by decide) (by decide) ?_
    show Steps p.tables e below (T1.setTop (mkF m 43 #[.val (.int (5 : Int32)), .val (.int p1), .val (.int (5 : Int32)), .val (.ref w_CHAR), .unset, .unset] [(.int (1 : Int32))])) _
    refine XS.istore X1.here hx rfl (hb hby at_43) rfl (l' := #[.val (.int (5 : Int32)), .val (.int p1), .val (.int (5 : Int32)), .val (.ref w_CHAR), .val (.int (1 : Int32)), .unset]) rfl ?_
    show Steps p.tables e below (T1.setTop (mkF m 45 #[.val (.int (5 : Int32)), .val (.int p1), .val (.int (5 : Int32)), .val (.ref w_CHAR), .val (.int (1 : Int32)), .unset] [])) _
    refine XS.iload X1.here hx rfl (hb hby at_45) rfl ?_
    show Steps p.tables e below (T1.setTop (mkF m 47 #[.val (.int (5 : Int32)), .val (.int p1), .val (.int (5 : Int32)), .val (.ref w_CHAR), .val (.int (1 : Int32)), .unset] [(.int (1 : Int32))])) _
    refine XS.ifYes X1.here hx rfl (pc0 := 47) (pc' := 60) rfl (hb hby at_47) rfl ((if0 _ _).trans (feq (by decide : ¬ ((1 : Int32) = (0 : Int32)))).2) (by decide) (by decide) ?_
    show Steps p.tables e below (T1.setTop (mkF m 60 #[.val (.int (5 : Int32)), .val (.int p1), .val (.int (5 : Int32)), .val (.ref w_CHAR), .val (.int (1 : Int32)), .unset] [])) _
    refine XS.aloadN X1.here hx rfl (hb hby at_60) rfl rfl ?_
    show Steps p.tables e below (T1.setTop (mkF m 61 #[.val (.int (5 : Int32)), .val (.int p1), .val (.int (5 : Int32)), .val (.ref w_CHAR), .val (.int (1 : Int32)), .unset] [(.ref w_CHAR)])) _
    refine XS.ifnonnullYes X1.here hx rfl (pc0 := 61) (pc' := 66) rfl (hb hby at_61) rfl (by decide) (by decide) ?_
    show Steps p.tables e below (T1.setTop (mkF m 66 #[.val (.int (5 : Int32)), .val (.int p1), .val (.int (5 : Int32)), .val (.ref w_CHAR), .val (.int (1 : Int32)), .unset] [])) _
    refine XS.iloadN X1.here hx rfl (hb hby at_66) rfl ?_
    show Steps p.tables e below (T1.setTop (mkF m 67 #[.val (.int (5 : Int32)), .val (.int p1), .val (.int (5 : Int32)), .val (.ref w_CHAR), .val (.int (1 : Int32)), .unset] [(.int (5 : Int32))])) _
    refine XS.iconst X1.here hx rfl (hb hby at_67) ?_
    show Steps p.tables e below (T1.setTop (mkF m 68 #[.val (.int (5 : Int32)), .val (.int p1), .val (.int (5 : Int32)), .val (.ref w_CHAR), .val (.int (1 : Int32)), .unset] [(.int (2 : Int32)), (.int (5 : Int32))])) _
    refine XS.icmpYes X1.here hx rfl (pc0 := 68) (pc' := 75) rfl (hb hby at_68) rfl (feq (by decide : ¬ ((5 : Int32) = (2 : Int32)))).2 (by decide) (by decide) ?_
    show Steps p.tables e below (T1.setTop (mkF m 75 #[.val (.int (5 : Int32)), .val (.int p1), .val (.int (5 : Int32)), .val (.ref w_CHAR), .val (.int (1 : Int32)), .unset] [])) _
    refine XS.iloadN X1.here hx rfl (hb hby at_75) rfl ?_
    show Steps p.tables e below (T1.setTop (mkF m 76 #[.val (.int (5 : Int32)), .val (.int p1), .val (.int (5 : Int32)), .val (.ref w_CHAR), .val (.int (1 : Int32)), .unset] [(.int (5 : Int32))])) _
    refine XS.iconst X1.here hx rfl (hb hby at_76) ?_
    show Steps p.tables e below (T1.setTop (mkF m 77 #[.val (.int (5 : Int32)), .val (.int p1), .val (.int (5 : Int32)), .val (.ref w_CHAR), .val (.int (1 : Int32)), .unset] [(.int (3 : Int32)), (.int (5 : Int32))])) _
    refine XS.isub X1.here hx rfl (hb hby at_77) rfl ?_
    show Steps p.tables e below (T1.setTop (mkF m 78 #[.val (.int (5 : Int32)), .val (.int p1), .val (.int (5 : Int32)), .val (.ref w_CHAR), .val (.int (1 : Int32)), .unset] [(.int ((5 : Int32) - (3 : Int32)))])) _
    rw [(show ((5 : Int32) - (3 : Int32)) = (2 : Int32) from by decide)]
    show Steps p.tables e below (T1.setTop (mkF m 78 #[.val (.int (5 : Int32)), .val (.int p1), .val (.int (5 : Int32)), .val (.ref w_CHAR), .val (.int (1 : Int32)), .unset] [(.int (2 : Int32))])) _
    refine XS.istore X1.here hx rfl (hb hby at_78) rfl (l' := #[.val (.int (5 : Int32)), .val (.int p1), .val (.int (5 : Int32)), .val (.ref w_CHAR), .val (.int (1 : Int32)), .val (.int (2 : Int32))]) rfl ?_
    show Steps p.tables e below (T1.setTop (mkF m 80 #[.val (.int (5 : Int32)), .val (.int p1), .val (.int (5 : Int32)), .val (.ref w_CHAR), .val (.int (1 : Int32)), .val (.int (2 : Int32))] [])) _
    refine XS.aloadN X1.here hx rfl (hb hby at_80) rfl rfl ?_
    show Steps p.tables e below (T1.setTop (mkF m 81 #[.val (.int (5 : Int32)), .val (.int p1), .val (.int (5 : Int32)), .val (.ref w_CHAR), .val (.int (1 : Int32)), .val (.int (2 : Int32))] [(.ref w_CHAR)])) _
    refine st2.trans ?_
    show Steps p.tables e below (T2.setTop (mkF m 84 #[.val (.int (5 : Int32)), .val (.int p1), .val (.int (5 : Int32)), .val (.ref w_CHAR), .val (.int (1 : Int32)), .val (.int (2 : Int32))] [(.int (2 : Int32))])) _
    refine XS.iload X2.here hx rfl (hb hby at_84) rfl ?_
    show Steps p.tables e below (T2.setTop (mkF m 86 #[.val (.int (5 : Int32)), .val (.int p1), .val (.int (5 : Int32)), .val (.ref w_CHAR), .val (.int (1 : Int32)), .val (.int (2 : Int32))] [(.int (2 : Int32)), (.int (2 : Int32))])) _
    refine XS.icmpNo X2.here hx rfl (hb hby at_86) rfl (teq (by decide : (2 : Int32) = (2 : Int32))).2 ?_
    show Steps p.tables e below (T2.setTop (mkF m 89 #[.val (.int (5 : Int32)), .val (.int p1), .val (.int (5 : Int32)), .val (.ref w_CHAR), .val (.int (1 : Int32)), .val (.int (2 : Int32))] [])) _
    refine XS.iconst X2.here hx rfl (hb hby at_89) ?_
    show Steps p.tables e below (T2.setTop (mkF m 90 #[.val (.int (5 : Int32)), .val (.int p1), .val (.int (5 : Int32)), .val (.ref w_CHAR), .val (.int (1 : Int32)), .val (.int (2 : Int32))] [(.int (1 : Int32))])) _
    refine XS.goto X2.here hx rfl (pc0 := 90) (pc' := 94) rfl (hb hby at_90) (by decide) (by decide) ?_
    show Steps p.tables e below (T2.setTop (mkF m 94 #[.val (.int (5 : Int32)), .val (.int p1), .val (.int (5 : Int32)), .val (.ref w_CHAR), .val (.int (1 : Int32)), .val (.int (2 : Int32))] [(.int (1 : Int32))])) _
    exact retOut X2 hx Bd.returns rfl (Or.inl ⟨rfl, Or.inr (Or.inl rfl), _, rfl⟩) (hb hby at_94) hr
  · exact ⟨rfl, N2⟩
theorem d1_74 : decode prog_56_method_4_code 74 = .ok (.getstatic 13, 3) := by decide +kernel
theorem d1_77 : decode prog_56_method_4_code 77 = .ok (.goto 34, 3) := by decide +kernel
set_option maxRecDepth 65536 in
set_option maxHeartbeats 40000000 in
theorem c1_3 (l : Launch) (Z : State) (a0 : Array Value) (hw : ∀ d ∈ tables_1, d.before a0 Z = true) (ws : List Jvm.Cond) (w_INT : Addr) (w_BYTE : Addr) (w_CHAR : Addr) (w_OBJECT : Addr) (w_FLOAT : Addr) (w_DOUBLE : Addr) (w_LONG : Addr) (w_SHORT : Addr) (w_BOOLEAN : Addr) (h0 : Heap) (n0 : Nat) (Z0 : n0 ≤ h0.size) (G : Glob Z h0 w_INT w_BYTE w_CHAR w_OBJECT w_FLOAT w_DOUBLE w_LONG w_SHORT w_BOOLEAN)  :
    MetFree l (⟨"com/example/refleash/refleash/hprof/BasicType", "of", "(I)Lcom/example/refleash/refleash/hprof/BasicType;"⟩ : MethodName) (head1 (Jvm.Cond.code (⟨"com/example/refleash/refleash/hprof/BasicType", "of", "(I)Lcom/example/refleash/refleash/hprof/BasicType;"⟩ : MethodName) prog_56_method_4_code 1 (some (.object "com/example/refleash/refleash/hprof/BasicType")) :: ws) ({ frames := 0, cells := 0, slots := 0, locals := 0 } : Room)) (fun a U => a = #[(.int (6 : Int32))] ∧ Z.Warmed39 U.vm ∧ U.heap = h0) (fun _ _ _ _ _ => True) (fun _ U o U' => ∃ v L, o = .returned v ∧ QR (some (.ref w_FLOAT)) h0 n0 v U'.heap L ∧ FrameEnd U o U' L ({ frames := 0, cells := 0, slots := 0, locals := 0 } : Room).cells ({ frames := 0, cells := 0, slots := 0, locals := 0 } : Room).slots) := by
  refine MetFree.of_bodySF (plainFor_of_name pn_com_example_refleash_refleash_hprof_BasicType) hisR ?_
  intro p e s m args below meth c s₁ Bd hml0 hP hK
  obtain ⟨rfl, hZ, hh⟩ := hP
  have hx := Bd.exec
  have hby := Bd.bytes
  have hml : c.maxLocals = 1 := hml0
  have hown : s.vm.findClass "com/example/refleash/refleash/hprof/BasicType" = some m.cls := findClass_of_methodNamed Bd.named
  have X0 : Stand p l e ({ frames := 0, cells := 0, slots := 0, locals := 0 } : Room) s m #[(.int (6 : Int32))] below meth c s₁ [] 0 0 := Stand.of_body Bd
  have e0 : s₁.heap = h0 := by rw [← hh, Bd.state]; rfl
  have N0 := Fr.nil n0
  have pre0 : ∀ t, Steps p.tables e below (s₁.setTop (mkF m 0 #[.val (.int (6 : Int32))] [])) t → Steps p.tables e below (s₁.setTop (entryFrame m #[(.int (6 : Int32))] 1)) t := fun t k => castTop (ef_1_I m (6 : Int32)) k
  have G' := G
  obtain ⟨S_w_INT, E_w_INT, F_ordinal_w_INT, S_w_BYTE, E_w_BYTE, F_ordinal_w_BYTE, S_w_CHAR, E_w_CHAR, F_ordinal_w_CHAR, S_w_OBJECT, E_w_OBJECT, F_ordinal_w_OBJECT, S_w_FLOAT, E_w_FLOAT, F_ordinal_w_FLOAT, S_w_DOUBLE, E_w_DOUBLE, F_ordinal_w_DOUBLE, S_w_LONG, E_w_LONG, F_ordinal_w_LONG, S_w_SHORT, E_w_SHORT, F_ordinal_w_SHORT, S_w_BOOLEAN, E_w_BOOLEAN, F_ordinal_w_BOOLEAN⟩ := G'
  obtain ⟨T1, X1, e1, st1⟩ := getS2 X0 hx hZ hown (host := "") (Or.inl (hw _ (List.mem_of_getElem? (i := 21) rfl))) Via.refl e0 S_w_FLOAT (g := (mkF m 74 #[.val (.int (6 : Int32))] [])) rfl (hb hby d1_74)
  obtain ⟨fs, hr, hrun, hended, hW, hsame⟩ := X1.leave (v := some (.ref w_FLOAT)) (fun h => by rw [Bd.returns] at h; cases h)
  refine ⟨_, _, pre0 _ ?_, hrun, hended, _, _, rfl, ?_, ⟨_, rfl⟩, hW, hsame.mono (by decide) (by decide)⟩
  · show Steps p.tables e below (s₁.setTop (mkF m 0 #[.val (.int (6 : Int32))] [])) _
    refine XS.iloadN X0.here hx rfl (hb hby d1_0) rfl ?_
    show Steps p.tables e below (s₁.setTop (mkF m 1 #[.val (.int (6 : Int32))] [(.int (6 : Int32))])) _
    refine XS.tswIn X0.here hx rfl (pc0 := 1) (pc' := 74) rfl (hb hby d1_1) rfl (by decide) (o := 73) (by decide) (by decide) (by decide) ?_
    show Steps p.tables e below (s₁.setTop (mkF m 74 #[.val (.int (6 : Int32))] [])) _
    refine st1 _ ?_
    show Steps p.tables e below (T1.setTop (mkF m 77 #[.val (.int (6 : Int32))] [(.ref w_FLOAT)])) _
    refine XS.goto X1.here hx rfl (pc0 := 77) (pc' := 111) rfl (hb hby d1_77) (by decide) (by decide) ?_
    show Steps p.tables e below (T1.setTop (mkF m 111 #[.val (.int (6 : Int32))] [(.ref w_FLOAT)])) _
    exact retOut X1 hx Bd.returns rfl (Or.inr (Or.inr (Or.inr (Or.inr ⟨rfl, rfl, rfl⟩)))) (hb hby d1_111) hr
  · show QR _ h0 n0 _ T1.heap _
    rw [e1]
    exact ⟨rfl, N0, rfl⟩
set_option maxRecDepth 65536 in
set_option maxHeartbeats 40000000 in
theorem c2_3 (l : Launch) (Z : State) (a0 : Array Value) (hw : ∀ d ∈ tables_1, d.before a0 Z = true) (ws : List Jvm.Cond) (w_INT : Addr) (w_BYTE : Addr) (w_CHAR : Addr) (w_OBJECT : Addr) (w_FLOAT : Addr) (w_DOUBLE : Addr) (w_LONG : Addr) (w_SHORT : Addr) (w_BOOLEAN : Addr) (h0 : Heap) (n0 : Nat) (Z0 : n0 ≤ h0.size) (G : Glob Z h0 w_INT w_BYTE w_CHAR w_OBJECT w_FLOAT w_DOUBLE w_LONG w_SHORT w_BOOLEAN)  :
    MetFree l (⟨"java/lang/Enum", "ordinal", "()I"⟩ : MethodName) (head1 (Jvm.Cond.code (⟨"java/lang/Enum", "ordinal", "()I"⟩ : MethodName) jdk_37_method_2_code 1 (some .int) :: ws) ({ frames := 0, cells := 0, slots := 0, locals := 0 } : Room)) (fun a U => a = #[(.ref w_FLOAT)] ∧ Z.Warmed39 U.vm ∧ U.heap = h0) (fun _ _ _ _ _ => True) (fun _ U o U' => ∃ v L, o = .returned v ∧ QR (some (.int (3 : Int32))) h0 n0 v U'.heap L ∧ FrameEnd U o U' L ({ frames := 0, cells := 0, slots := 0, locals := 0 } : Room).cells ({ frames := 0, cells := 0, slots := 0, locals := 0 } : Room).slots) := by
  refine MetFree.of_bodySF (plainFor_of_name pn_java_lang_Enum) hisR ?_
  intro p e s m args below meth c s₁ Bd hml0 hP hK
  obtain ⟨rfl, hZ, hh⟩ := hP
  have hx := Bd.exec
  have hby := Bd.bytes
  have hml : c.maxLocals = 1 := hml0
  have hown : s.vm.findClass "java/lang/Enum" = some m.cls := findClass_of_methodNamed Bd.named
  have X0 : Stand p l e ({ frames := 0, cells := 0, slots := 0, locals := 0 } : Room) s m #[(.ref w_FLOAT)] below meth c s₁ [] 0 0 := Stand.of_body Bd
  have e0 : s₁.heap = h0 := by rw [← hh, Bd.state]; rfl
  have N0 := Fr.nil n0
  have pre0 : ∀ t, Steps p.tables e below (s₁.setTop (mkF m 0 #[.val (.ref w_FLOAT)] [])) t → Steps p.tables e below (s₁.setTop (entryFrame m #[(.ref w_FLOAT)] 1)) t := fun t k => castTop (ef_2_R m w_FLOAT) k
  have G' := G
  obtain ⟨S_w_INT, E_w_INT, F_ordinal_w_INT, S_w_BYTE, E_w_BYTE, F_ordinal_w_BYTE, S_w_CHAR, E_w_CHAR, F_ordinal_w_CHAR, S_w_OBJECT, E_w_OBJECT, F_ordinal_w_OBJECT, S_w_FLOAT, E_w_FLOAT, F_ordinal_w_FLOAT, S_w_DOUBLE, E_w_DOUBLE, F_ordinal_w_DOUBLE, S_w_LONG, E_w_LONG, F_ordinal_w_LONG, S_w_SHORT, E_w_SHORT, F_ordinal_w_SHORT, S_w_BOOLEAN, E_w_BOOLEAN, F_ordinal_w_BOOLEAN⟩ := G'
  obtain ⟨T1, X1, e1, st1⟩ := getF X0 hx hZ hown (host := "") (Or.inl (hw _ (List.mem_of_getElem? (i := 13) rfl))) Via.refl e0 F_ordinal_w_FLOAT (g := (mkF m 1 #[.val (.ref w_FLOAT)] [(.ref w_FLOAT)])) rfl rfl (hb hby d2_1)
  obtain ⟨fs, hr, hrun, hended, hW, hsame⟩ := X1.leave (v := some (.int (3 : Int32))) (fun h => by rw [Bd.returns] at h; cases h)
  refine ⟨_, _, pre0 _ ?_, hrun, hended, _, _, rfl, ?_, ⟨_, rfl⟩, hW, hsame.mono (by decide) (by decide)⟩
  · show Steps p.tables e below (s₁.setTop (mkF m 0 #[.val (.ref w_FLOAT)] [])) _
    refine XS.aloadN X0.here hx rfl (hb hby d2_0) rfl rfl ?_
    show Steps p.tables e below (s₁.setTop (mkF m 1 #[.val (.ref w_FLOAT)] [(.ref w_FLOAT)])) _
    refine st1 _ ?_
    show Steps p.tables e below (T1.setTop (mkF m 4 #[.val (.ref w_FLOAT)] [(.int (3 : Int32))])) _
    exact retOut X1 hx Bd.returns rfl (Or.inl ⟨rfl, Or.inl rfl, _, rfl⟩) (hb hby d2_4) hr
  · show QR _ h0 n0 _ T1.heap _
    rw [e1]
    exact ⟨rfl, N0, rfl⟩
set_option maxRecDepth 65536 in
set_option maxHeartbeats 40000000 in
theorem raw_6 (l : Launch) (Z : State) (a0 : Array Value) (hw : ∀ d ∈ tables_1, d.before a0 Z = true) (ws : List Jvm.Cond) (w_INT : Addr) (w_BYTE : Addr) (w_CHAR : Addr) (w_OBJECT : Addr) (w_FLOAT : Addr) (w_DOUBLE : Addr) (w_LONG : Addr) (w_SHORT : Addr) (w_BOOLEAN : Addr) (h0 : Heap) (n0 : Nat) (Z0 : n0 ≤ h0.size) (G : Glob Z h0 w_INT w_BYTE w_CHAR w_OBJECT w_FLOAT w_DOUBLE w_LONG w_SHORT w_BOOLEAN) (p1 : Int32) (hs : ¬ ((p1 &&& (1 : Int32)) = (0 : Int32))) :
    MetFree l x (head1 (Jvm.Cond.code x code maxLocals ret :: ws) room_1) (fun a U => a = #[(.int (6 : Int32)), (.int p1)] ∧ Z.Warmed39 U.vm ∧ U.heap = h0) (fun _ _ _ _ _ => True) (fun _ U o U' => ∃ v L, o = .returned v ∧ QL (some (.int (1 : Int32))) h0 n0 v U'.heap L ∧ FrameEnd U o U' L room_1.cells room_1.slots) := by
  refine MetFree.of_bodySF (plainFor_of_name pn_com_example_refleash_refleash_hprof_BasicTypeOfPinLaw) hisR ?_
  intro p e s m args below meth c s₁ Bd hml0 hP hK
  obtain ⟨rfl, hZ, hh⟩ := hP
  have hx := Bd.exec
  have hby := Bd.bytes
  have hml : c.maxLocals = 6 := hml0
  have hown : s.vm.findClass "com/example/refleash/refleash/hprof/BasicTypeOfPinLaw" = some m.cls := findClass_of_methodNamed Bd.named
  have X0 : Stand p l e room_1 s m #[(.int (6 : Int32)), (.int p1)] below meth c s₁ [] 0 0 := Stand.of_body Bd
  have e0 : s₁.heap = h0 := by rw [← hh, Bd.state]; rfl
  have N0 := Fr.nil n0
  have pre0 : ∀ t, Steps p.tables e below (s₁.setTop (mkF m 0 #[.val (.int (6 : Int32)), .val (.int p1), .unset, .unset, .unset, .unset] [])) t → Steps p.tables e below (s₁.setTop (entryFrame m #[(.int (6 : Int32)), (.int p1)] maxLocals)) t := fun t k => castTop (ef_0_II m (6 : Int32) p1) k
  have G' := G
  obtain ⟨S_w_INT, E_w_INT, F_ordinal_w_INT, S_w_BYTE, E_w_BYTE, F_ordinal_w_BYTE, S_w_CHAR, E_w_CHAR, F_ordinal_w_CHAR, S_w_OBJECT, E_w_OBJECT, F_ordinal_w_OBJECT, S_w_FLOAT, E_w_FLOAT, F_ordinal_w_FLOAT, S_w_DOUBLE, E_w_DOUBLE, F_ordinal_w_DOUBLE, S_w_LONG, E_w_LONG, F_ordinal_w_LONG, S_w_SHORT, E_w_SHORT, F_ordinal_w_SHORT, S_w_BOOLEAN, E_w_BOOLEAN, F_ordinal_w_BOOLEAN⟩ := G'
  obtain ⟨_, _, ⟨T1, L1, k1, n1⟩, -, X1, ⟨Lc1, hQ1, l1, y1, z1⟩, st1⟩ := Jvm.LawKit.callS X0 hx (y := (⟨"com/example/refleash/refleash/hprof/BasicType", "of", "(I)Lcom/example/refleash/refleash/hprof/BasicType;"⟩ : MethodName)) hown (mvT hZ (hw _ (List.mem_of_getElem? (i := 0) rfl))) (mvT hZ (hw _ (List.mem_of_getElem? (i := 1) rfl))) (mvT hZ (hw _ (List.mem_of_getElem? (i := 2) rfl))) (mvT hZ (hw _ (List.mem_of_getElem? (i := 3) rfl))) (by decide) (backOf (W := 0) (c1_3 l Z a0 hw [] w_INT w_BYTE w_CHAR w_OBJECT w_FLOAT w_DOUBLE w_LONG w_SHORT w_BOOLEAN h0 n0 Z0 G) hZ (hw _ (List.mem_of_getElem? (i := 3) rfl)) (hw _ (List.mem_of_getElem? (i := 2) rfl)) (by decide) (by decide)) (g := (mkF m 18 #[.val (.int (6 : Int32)), .val (.int p1), .val (.int (6 : Int32)), .unset, .unset, .unset] [(.int (6 : Int32))])) rfl (by rw [hml]; rfl) (argsL := [(.int (6 : Int32))]) (rest := []) (lenOf pd__I_Lcom_example_refleash_refleash_hprof_BasicType_ rfl) rfl (by show 2 * 0 + _ ≤ _; exact Nat.le_of_eq rfl) (hb hby at_18) (fun _ _ => ⟨rfl, e0, (by decide : 0 + 0 ≤ _), (by decide : 0 + 0 ≤ _)⟩)
  dsimp only [Pt.U, Pt.locs, Pt.cells, Pt.slots] at X1 l1 y1 z1 st1 hQ1
  subst l1 y1 z1
  obtain ⟨rfl, N1q, e1⟩ := hQ1
  have N1 := Fr.app N0 N1q
  obtain ⟨cq2, kq2, q2a, q2b, q2c⟩ := isOf hZ e1 E_w_FLOAT
  obtain ⟨_, _, ⟨T2, L2, k2, n2⟩, -, X2, ⟨Lc2, hQ2, l2, y2, z2⟩, st2⟩ := X1.virtualBackUp hx (x := (⟨"com/example/refleash/refleash/hprof/BasicType", "ordinal", "()I"⟩ : MethodName)) (y := (⟨"java/lang/Enum", "ordinal", "()I"⟩ : MethodName)) hown (mvT hZ (hw _ (List.mem_of_getElem? (i := 6) rfl))) (mvT hZ (hw _ (List.mem_of_getElem? (i := 7) rfl))) (mvT hZ (hw _ (List.mem_of_getElem? (i := 8) rfl))) (by decide) (mvT hZ (hw _ (List.mem_of_getElem? (i := 10) rfl))) (mvT hZ (hw _ (List.mem_of_getElem? (i := 9) rfl))) (backOf (W := 0) (c2_3 l Z a0 hw [] w_INT w_BYTE w_CHAR w_OBJECT w_FLOAT w_DOUBLE w_LONG w_SHORT w_BOOLEAN h0 n0 Z0 G) hZ (hw _ (List.mem_of_getElem? (i := 12) rfl)) (hw _ (List.mem_of_getElem? (i := 11) rfl)) (by decide) (by decide)) q2a q2c (g := (mkF m 81 #[.val (.int (6 : Int32)), .val (.int p1), .val (.int (6 : Int32)), .val (.ref w_FLOAT), .val (.int (1 : Int32)), .val (.int (3 : Int32))] [(.ref w_FLOAT)])) rfl (by rw [hml]; rfl) (Steps.refl _) (argsL := []) (rest := []) (lenOf pd___I rfl) rfl (by show 2 * 0 + _ ≤ _; exact Nat.le_of_eq rfl) (hb hby at_81) (fun _ _ => ⟨rfl, e1, (by decide : 0 + 0 ≤ _), (by decide : 0 + 0 ≤ _)⟩)
  dsimp only [Pt.U, Pt.locs, Pt.cells, Pt.slots] at X2 l2 y2 z2 st2 hQ2
  subst l2 y2 z2
  obtain ⟨rfl, N2q, e2⟩ := hQ2
  have N2 := Fr.app N1 N2q
  obtain ⟨fs, hr, hrun, hended, hW, hsame⟩ := X2.leave (v := some (.int (1 : Int32))) (fun h => by rw [Bd.returns] at h; cases h)
  refine ⟨_, _, pre0 _ ?_, hrun, hended, _, _, rfl, ?_, ⟨_, rfl⟩, hW, hsame.mono (by decide) (by decide)⟩
  · show Steps p.tables e below (s₁.setTop (mkF m 0 #[.val (.int (6 : Int32)), .val (.int p1), .unset, .unset, .unset, .unset] [])) _
    refine XS.iloadN X0.here hx rfl (hb hby at_0) rfl ?_
    show Steps p.tables e below (s₁.setTop (mkF m 1 #[.val (.int (6 : Int32)), .val (.int p1), .unset, .unset, .unset, .unset] [(.int p1)])) _
    refine XS.iconst X0.here hx rfl (hb hby at_1) ?_
    show Steps p.tables e below (s₁.setTop (mkF m 2 #[.val (.int (6 : Int32)), .val (.int p1), .unset, .unset, .unset, .unset] [(.int (1 : Int32)), (.int p1)])) _
    refine XS.iand X0.here hx rfl (hb hby at_2) rfl ?_
    show Steps p.tables e below (s₁.setTop (mkF m 3 #[.val (.int (6 : Int32)), .val (.int p1), .unset, .unset, .unset, .unset] [(.int (p1 &&& (1 : Int32)))])) _
    refine XS.ifNo X0.here hx rfl (hb hby at_3) rfl ((if0 _ _).trans (feq (hs : ¬ ((p1 &&& (1 : Int32)) = (0 : Int32)))).1) ?_
    show Steps p.tables e below (s₁.setTop (mkF m 6 #[.val (.int (6 : Int32)), .val (.int p1), .unset, .unset, .unset, .unset] [])) _
    refine XS.iloadN X0.here hx rfl (hb hby at_6) rfl ?_
    show Steps p.tables e below (s₁.setTop (mkF m 7 #[.val (.int (6 : Int32)), .val (.int p1), .unset, .unset, .unset, .unset] [(.int (6 : Int32))])) _
    refine XS.goto X0.here hx rfl (pc0 := 7) (pc' := 16) rfl (hb hby at_7) (by decide) (by decide) ?_
    show Steps p.tables e below (s₁.setTop (mkF m 16 #[.val (.int (6 : Int32)), .val (.int p1), .unset, .unset, .unset, .unset] [(.int (6 : Int32))])) _
    refine XS.istoreN X0.here hx rfl (hb hby at_16) rfl (l' := #[.val (.int (6 : Int32)), .val (.int p1), .val (.int (6 : Int32)), .unset, .unset, .unset]) rfl ?_
    show Steps p.tables e below (s₁.setTop (mkF m 17 #[.val (.int (6 : Int32)), .val (.int p1), .val (.int (6 : Int32)), .unset, .unset, .unset] [])) _
    refine XS.iloadN X0.here hx rfl (hb hby at_17) rfl ?_
    show Steps p.tables e below (s₁.setTop (mkF m 18 #[.val (.int (6 : Int32)), .val (.int p1), .val (.int (6 : Int32)), .unset, .unset, .unset] [(.int (6 : Int32))])) _
    refine st1 _ ?_
    show Steps p.tables e below (T1.setTop (mkF m 21 #[.val (.int (6 : Int32)), .val (.int p1), .val (.int (6 : Int32)), .unset, .unset, .unset] [(.ref w_FLOAT)])) _
    refine XS.astoreN X1.here hx rfl (hb hby at_21) rfl rfl (l' := #[.val (.int (6 : Int32)), .val (.int p1), .val (.int (6 : Int32)), .val (.ref w_FLOAT), .unset, .unset]) rfl ?_
    show Steps p.tables e below (T1.setTop (mkF m 22 #[.val (.int (6 : Int32)), .val (.int p1), .val (.int (6 : Int32)), .val (.ref w_FLOAT), .unset, .unset] [])) _
    refine XS.iloadN X1.here hx rfl (hb hby at_22) rfl ?_
    show Steps p.tables e below (T1.setTop (mkF m 23 #[.val (.int (6 : Int32)), .val (.int p1), .val (.int (6 : Int32)), .val (.ref w_FLOAT), .unset, .unset] [(.int (6 : Int32))])) _
    refine XS.iconst X1.here hx rfl (hb hby at_23) ?_
    show Steps p.tables e below (T1.setTop (mkF m 24 #[.val (.int (6 : Int32)), .val (.int p1), .val (.int (6 : Int32)), .val (.ref w_FLOAT), .unset, .unset] [(.int (2 : Int32)), (.int (6 : Int32))])) _
    refine XS.icmpNo X1.here hx rfl (hb hby at_24) rfl (feq (by decide : ¬ ((6 : Int32) = (2 : Int32)))).1 ?_
    show Steps p.tables e below (T1.setTop (mkF m 27 #[.val (.int (6 : Int32)), .val (.int p1), .val (.int (6 : Int32)), .val (.ref w_FLOAT), .unset, .unset] [])) _
    refine XS.iloadN X1.here hx rfl (hb hby at_27) rfl ?_
    show Steps p.tables e below (T1.setTop (mkF m 28 #[.val (.int (6 : Int32)), .val (.int p1), .val (.int (6 : Int32)), .val (.ref w_FLOAT), .unset, .unset] [(.int (6 : Int32))])) _
    refine XS.iconst X1.here hx rfl (hb hby at_28) ?_
    show Steps p.tables e below (T1.setTop (mkF m 29 #[.val (.int (6 : Int32)), .val (.int p1), .val (.int (6 : Int32)), .val (.ref w_FLOAT), .unset, .unset] [(.int (4 : Int32)), (.int (6 : Int32))])) _
    refine XS.icmpNo X1.here hx rfl (hb hby at_29) rfl (flt (by decide : ¬ ((6 : Int32) < (4 : Int32)))).1 ?_
    show Steps p.tables e below (T1.setTop (mkF m 32 #[.val (.int (6 : Int32)), .val (.int p1), .val (.int (6 : Int32)), .val (.ref w_FLOAT), .unset, .unset] [])) _
    refine XS.iloadN X1.here hx rfl (hb hby at_32) rfl ?_
    show Steps p.tables e below (T1.setTop (mkF m 33 #[.val (.int (6 : Int32)), .val (.int p1), .val (.int (6 : Int32)), .val (.ref w_FLOAT), .unset, .unset] [(.int (6 : Int32))])) _
    refine XS.bipush X1.here hx rfl (hb hby at_33) ?_
    show Steps p.tables e below (T1.setTop (mkF m 35 #[.val (.int (6 : Int32)), .val (.int p1), .val (.int (6 : Int32)), .val (.ref w_FLOAT), .unset, .unset] [(.int (11 : Int32)), (.int (6 : Int32))])) _
    refine XS.icmpNo X1.here hx rfl (hb hby at_35) rfl (flt (by decide : ¬ ((11 : Int32) < (6 : Int32)))).2.2.1 ?_
    show Steps p.tables e below (T1.setTop (mkF m 38 #[.val (.int (6 : Int32)), .val (.int p1), .val (.int (6 : Int32)), .val (.ref w_FLOAT), .unset, .unset] [])) _
    refine XS.iconst X1.here hx rfl (hb hby at_38) ?_
    show Steps p.tables e below (T1.setTop (mkF m 39 #[.val (.int (6 : Int32)), .val (.int p1), .val (.int (6 : Int32)), .val (.ref w_FLOAT), .unset, .unset] [(.int (1 : Int32))])) _
    refine XS.goto X1.here hx rfl (pc0 := 39) (pc' := 43) rfl (hb hby at_39) (by decide) (by decide) ?_
    show Steps p.tables e below (T1.setTop (mkF m 43 #[.val (.int (6 : Int32)), .val (.int p1), .val (.int (6 : Int32)), .val (.ref w_FLOAT), .unset, .unset] [(.int (1 : Int32))])) _
    refine XS.istore X1.here hx rfl (hb hby at_43) rfl (l' := #[.val (.int (6 : Int32)), .val (.int p1), .val (.int (6 : Int32)), .val (.ref w_FLOAT), .val (.int (1 : Int32)), .unset]) rfl ?_
    show Steps p.tables e below (T1.setTop (mkF m 45 #[.val (.int (6 : Int32)), .val (.int p1), .val (.int (6 : Int32)), .val (.ref w_FLOAT), .val (.int (1 : Int32)), .unset] [])) _
    refine XS.iload X1.here hx rfl (hb hby at_45) rfl ?_
    show Steps p.tables e below (T1.setTop (mkF m 47 #[.val (.int (6 : Int32)), .val (.int p1), .val (.int (6 : Int32)), .val (.ref w_FLOAT), .val (.int (1 : Int32)), .unset] [(.int (1 : Int32))])) _
    refine XS.ifYes X1.here hx rfl (pc0 := 47) (pc' := 60) rfl (hb hby at_47) rfl ((if0 _ _).trans (feq (by decide : ¬ ((1 : Int32) = (0 : Int32)))).2) (by decide) (by decide) ?_
    show Steps p.tables e below (T1.setTop (mkF m 60 #[.val (.int (6 : Int32)), .val (.int p1), .val (.int (6 : Int32)), .val (.ref w_FLOAT), .val (.int (1 : Int32)), .unset] [])) _
    refine XS.aloadN X1.here hx rfl (hb hby at_60) rfl rfl ?_
    show Steps p.tables e below (T1.setTop (mkF m 61 #[.val (.int (6 : Int32)), .val (.int p1), .val (.int (6 : Int32)), .val (.ref w_FLOAT), .val (.int (1 : Int32)), .unset] [(.ref w_FLOAT)])) _
    refine XS.ifnonnullYes X1.here hx rfl (pc0 := 61) (pc' := 66) rfl (hb hby at_61) rfl (by decide) (by decide) ?_
    show Steps p.tables e below (T1.setTop (mkF m 66 #[.val (.int (6 : Int32)), .val (.int p1), .val (.int (6 : Int32)), .val (.ref w_FLOAT), .val (.int (1 : Int32)), .unset] [])) _
    refine XS.iloadN X1.here hx rfl (hb hby at_66) rfl ?_
    show Steps p.tables e below (T1.setTop (mkF m 67 #[.val (.int (6 : Int32)), .val (.int p1), .val (.int (6 : Int32)), .val (.ref w_FLOAT), .val (.int (1 : Int32)), .unset] [(.int (6 : Int32))])) _
    refine XS.iconst X1.here hx rfl (hb hby at_67) ?_
    show Steps p.tables e below (T1.setTop (mkF m 68 #[.val (.int (6 : Int32)), .val (.int p1), .val (.int (6 : Int32)), .val (.ref w_FLOAT), .val (.int (1 : Int32)), .unset] [(.int (2 : Int32)), (.int (6 : Int32))])) _
    refine XS.icmpYes X1.here hx rfl (pc0 := 68) (pc' := 75) rfl (hb hby at_68) rfl (feq (by decide : ¬ ((6 : Int32) = (2 : Int32)))).2 (by decide) (by decide) ?_
    show Steps p.tables e below (T1.setTop (mkF m 75 #[.val (.int (6 : Int32)), .val (.int p1), .val (.int (6 : Int32)), .val (.ref w_FLOAT), .val (.int (1 : Int32)), .unset] [])) _
    refine XS.iloadN X1.here hx rfl (hb hby at_75) rfl ?_
    show Steps p.tables e below (T1.setTop (mkF m 76 #[.val (.int (6 : Int32)), .val (.int p1), .val (.int (6 : Int32)), .val (.ref w_FLOAT), .val (.int (1 : Int32)), .unset] [(.int (6 : Int32))])) _
    refine XS.iconst X1.here hx rfl (hb hby at_76) ?_
    show Steps p.tables e below (T1.setTop (mkF m 77 #[.val (.int (6 : Int32)), .val (.int p1), .val (.int (6 : Int32)), .val (.ref w_FLOAT), .val (.int (1 : Int32)), .unset] [(.int (3 : Int32)), (.int (6 : Int32))])) _
    refine XS.isub X1.here hx rfl (hb hby at_77) rfl ?_
    show Steps p.tables e below (T1.setTop (mkF m 78 #[.val (.int (6 : Int32)), .val (.int p1), .val (.int (6 : Int32)), .val (.ref w_FLOAT), .val (.int (1 : Int32)), .unset] [(.int ((6 : Int32) - (3 : Int32)))])) _
    rw [(show ((6 : Int32) - (3 : Int32)) = (3 : Int32) from by decide)]
    show Steps p.tables e below (T1.setTop (mkF m 78 #[.val (.int (6 : Int32)), .val (.int p1), .val (.int (6 : Int32)), .val (.ref w_FLOAT), .val (.int (1 : Int32)), .unset] [(.int (3 : Int32))])) _
    refine XS.istore X1.here hx rfl (hb hby at_78) rfl (l' := #[.val (.int (6 : Int32)), .val (.int p1), .val (.int (6 : Int32)), .val (.ref w_FLOAT), .val (.int (1 : Int32)), .val (.int (3 : Int32))]) rfl ?_
    show Steps p.tables e below (T1.setTop (mkF m 80 #[.val (.int (6 : Int32)), .val (.int p1), .val (.int (6 : Int32)), .val (.ref w_FLOAT), .val (.int (1 : Int32)), .val (.int (3 : Int32))] [])) _
    refine XS.aloadN X1.here hx rfl (hb hby at_80) rfl rfl ?_
    show Steps p.tables e below (T1.setTop (mkF m 81 #[.val (.int (6 : Int32)), .val (.int p1), .val (.int (6 : Int32)), .val (.ref w_FLOAT), .val (.int (1 : Int32)), .val (.int (3 : Int32))] [(.ref w_FLOAT)])) _
    refine st2.trans ?_
    show Steps p.tables e below (T2.setTop (mkF m 84 #[.val (.int (6 : Int32)), .val (.int p1), .val (.int (6 : Int32)), .val (.ref w_FLOAT), .val (.int (1 : Int32)), .val (.int (3 : Int32))] [(.int (3 : Int32))])) _
    refine XS.iload X2.here hx rfl (hb hby at_84) rfl ?_
    show Steps p.tables e below (T2.setTop (mkF m 86 #[.val (.int (6 : Int32)), .val (.int p1), .val (.int (6 : Int32)), .val (.ref w_FLOAT), .val (.int (1 : Int32)), .val (.int (3 : Int32))] [(.int (3 : Int32)), (.int (3 : Int32))])) _
    refine XS.icmpNo X2.here hx rfl (hb hby at_86) rfl (teq (by decide : (3 : Int32) = (3 : Int32))).2 ?_
    show Steps p.tables e below (T2.setTop (mkF m 89 #[.val (.int (6 : Int32)), .val (.int p1), .val (.int (6 : Int32)), .val (.ref w_FLOAT), .val (.int (1 : Int32)), .val (.int (3 : Int32))] [])) _
    refine XS.iconst X2.here hx rfl (hb hby at_89) ?_
    show Steps p.tables e below (T2.setTop (mkF m 90 #[.val (.int (6 : Int32)), .val (.int p1), .val (.int (6 : Int32)), .val (.ref w_FLOAT), .val (.int (1 : Int32)), .val (.int (3 : Int32))] [(.int (1 : Int32))])) _
    refine XS.goto X2.here hx rfl (pc0 := 90) (pc' := 94) rfl (hb hby at_90) (by decide) (by decide) ?_
    show Steps p.tables e below (T2.setTop (mkF m 94 #[.val (.int (6 : Int32)), .val (.int p1), .val (.int (6 : Int32)), .val (.ref w_FLOAT), .val (.int (1 : Int32)), .val (.int (3 : Int32))] [(.int (1 : Int32))])) _
    exact retOut X2 hx Bd.returns rfl (Or.inl ⟨rfl, Or.inr (Or.inl rfl), _, rfl⟩) (hb hby at_94) hr
  · exact ⟨rfl, N2⟩
theorem d1_80 : decode prog_56_method_4_code 80 = .ok (.getstatic 16, 3) := by decide +kernel
theorem d1_83 : decode prog_56_method_4_code 83 = .ok (.goto 28, 3) := by decide +kernel
set_option maxRecDepth 65536 in
set_option maxHeartbeats 40000000 in
theorem c1_4 (l : Launch) (Z : State) (a0 : Array Value) (hw : ∀ d ∈ tables_1, d.before a0 Z = true) (ws : List Jvm.Cond) (w_INT : Addr) (w_BYTE : Addr) (w_CHAR : Addr) (w_OBJECT : Addr) (w_FLOAT : Addr) (w_DOUBLE : Addr) (w_LONG : Addr) (w_SHORT : Addr) (w_BOOLEAN : Addr) (h0 : Heap) (n0 : Nat) (Z0 : n0 ≤ h0.size) (G : Glob Z h0 w_INT w_BYTE w_CHAR w_OBJECT w_FLOAT w_DOUBLE w_LONG w_SHORT w_BOOLEAN)  :
    MetFree l (⟨"com/example/refleash/refleash/hprof/BasicType", "of", "(I)Lcom/example/refleash/refleash/hprof/BasicType;"⟩ : MethodName) (head1 (Jvm.Cond.code (⟨"com/example/refleash/refleash/hprof/BasicType", "of", "(I)Lcom/example/refleash/refleash/hprof/BasicType;"⟩ : MethodName) prog_56_method_4_code 1 (some (.object "com/example/refleash/refleash/hprof/BasicType")) :: ws) ({ frames := 0, cells := 0, slots := 0, locals := 0 } : Room)) (fun a U => a = #[(.int (7 : Int32))] ∧ Z.Warmed39 U.vm ∧ U.heap = h0) (fun _ _ _ _ _ => True) (fun _ U o U' => ∃ v L, o = .returned v ∧ QR (some (.ref w_DOUBLE)) h0 n0 v U'.heap L ∧ FrameEnd U o U' L ({ frames := 0, cells := 0, slots := 0, locals := 0 } : Room).cells ({ frames := 0, cells := 0, slots := 0, locals := 0 } : Room).slots) := by
  refine MetFree.of_bodySF (plainFor_of_name pn_com_example_refleash_refleash_hprof_BasicType) hisR ?_
  intro p e s m args below meth c s₁ Bd hml0 hP hK
  obtain ⟨rfl, hZ, hh⟩ := hP
  have hx := Bd.exec
  have hby := Bd.bytes
  have hml : c.maxLocals = 1 := hml0
  have hown : s.vm.findClass "com/example/refleash/refleash/hprof/BasicType" = some m.cls := findClass_of_methodNamed Bd.named
  have X0 : Stand p l e ({ frames := 0, cells := 0, slots := 0, locals := 0 } : Room) s m #[(.int (7 : Int32))] below meth c s₁ [] 0 0 := Stand.of_body Bd
  have e0 : s₁.heap = h0 := by rw [← hh, Bd.state]; rfl
  have N0 := Fr.nil n0
  have pre0 : ∀ t, Steps p.tables e below (s₁.setTop (mkF m 0 #[.val (.int (7 : Int32))] [])) t → Steps p.tables e below (s₁.setTop (entryFrame m #[(.int (7 : Int32))] 1)) t := fun t k => castTop (ef_1_I m (7 : Int32)) k
  have G' := G
  obtain ⟨S_w_INT, E_w_INT, F_ordinal_w_INT, S_w_BYTE, E_w_BYTE, F_ordinal_w_BYTE, S_w_CHAR, E_w_CHAR, F_ordinal_w_CHAR, S_w_OBJECT, E_w_OBJECT, F_ordinal_w_OBJECT, S_w_FLOAT, E_w_FLOAT, F_ordinal_w_FLOAT, S_w_DOUBLE, E_w_DOUBLE, F_ordinal_w_DOUBLE, S_w_LONG, E_w_LONG, F_ordinal_w_LONG, S_w_SHORT, E_w_SHORT, F_ordinal_w_SHORT, S_w_BOOLEAN, E_w_BOOLEAN, F_ordinal_w_BOOLEAN⟩ := G'
  obtain ⟨T1, X1, e1, st1⟩ := getS2 X0 hx hZ hown (host := "") (Or.inl (hw _ (List.mem_of_getElem? (i := 23) rfl))) Via.refl e0 S_w_DOUBLE (g := (mkF m 80 #[.val (.int (7 : Int32))] [])) rfl (hb hby d1_80)
  obtain ⟨fs, hr, hrun, hended, hW, hsame⟩ := X1.leave (v := some (.ref w_DOUBLE)) (fun h => by rw [Bd.returns] at h; cases h)
  refine ⟨_, _, pre0 _ ?_, hrun, hended, _, _, rfl, ?_, ⟨_, rfl⟩, hW, hsame.mono (by decide) (by decide)⟩
  · show Steps p.tables e below (s₁.setTop (mkF m 0 #[.val (.int (7 : Int32))] [])) _
    refine XS.iloadN X0.here hx rfl (hb hby d1_0) rfl ?_
    show Steps p.tables e below (s₁.setTop (mkF m 1 #[.val (.int (7 : Int32))] [(.int (7 : Int32))])) _
    refine XS.tswIn X0.here hx rfl (pc0 := 1) (pc' := 80) rfl (hb hby d1_1) rfl (by decide) (o := 79) (by decide) (by decide) (by decide) ?_
    show Steps p.tables e below (s₁.setTop (mkF m 80 #[.val (.int (7 : Int32))] [])) _
    refine st1 _ ?_
    show Steps p.tables e below (T1.setTop (mkF m 83 #[.val (.int (7 : Int32))] [(.ref w_DOUBLE)])) _
    refine XS.goto X1.here hx rfl (pc0 := 83) (pc' := 111) rfl (hb hby d1_83) (by decide) (by decide) ?_
    show Steps p.tables e below (T1.setTop (mkF m 111 #[.val (.int (7 : Int32))] [(.ref w_DOUBLE)])) _
    exact retOut X1 hx Bd.returns rfl (Or.inr (Or.inr (Or.inr (Or.inr ⟨rfl, rfl, rfl⟩)))) (hb hby d1_111) hr
  · show QR _ h0 n0 _ T1.heap _
    rw [e1]
    exact ⟨rfl, N0, rfl⟩
set_option maxRecDepth 65536 in
set_option maxHeartbeats 40000000 in
theorem c2_4 (l : Launch) (Z : State) (a0 : Array Value) (hw : ∀ d ∈ tables_1, d.before a0 Z = true) (ws : List Jvm.Cond) (w_INT : Addr) (w_BYTE : Addr) (w_CHAR : Addr) (w_OBJECT : Addr) (w_FLOAT : Addr) (w_DOUBLE : Addr) (w_LONG : Addr) (w_SHORT : Addr) (w_BOOLEAN : Addr) (h0 : Heap) (n0 : Nat) (Z0 : n0 ≤ h0.size) (G : Glob Z h0 w_INT w_BYTE w_CHAR w_OBJECT w_FLOAT w_DOUBLE w_LONG w_SHORT w_BOOLEAN)  :
    MetFree l (⟨"java/lang/Enum", "ordinal", "()I"⟩ : MethodName) (head1 (Jvm.Cond.code (⟨"java/lang/Enum", "ordinal", "()I"⟩ : MethodName) jdk_37_method_2_code 1 (some .int) :: ws) ({ frames := 0, cells := 0, slots := 0, locals := 0 } : Room)) (fun a U => a = #[(.ref w_DOUBLE)] ∧ Z.Warmed39 U.vm ∧ U.heap = h0) (fun _ _ _ _ _ => True) (fun _ U o U' => ∃ v L, o = .returned v ∧ QR (some (.int (4 : Int32))) h0 n0 v U'.heap L ∧ FrameEnd U o U' L ({ frames := 0, cells := 0, slots := 0, locals := 0 } : Room).cells ({ frames := 0, cells := 0, slots := 0, locals := 0 } : Room).slots) := by
  refine MetFree.of_bodySF (plainFor_of_name pn_java_lang_Enum) hisR ?_
  intro p e s m args below meth c s₁ Bd hml0 hP hK
  obtain ⟨rfl, hZ, hh⟩ := hP
  have hx := Bd.exec
  have hby := Bd.bytes
  have hml : c.maxLocals = 1 := hml0
  have hown : s.vm.findClass "java/lang/Enum" = some m.cls := findClass_of_methodNamed Bd.named
  have X0 : Stand p l e ({ frames := 0, cells := 0, slots := 0, locals := 0 } : Room) s m #[(.ref w_DOUBLE)] below meth c s₁ [] 0 0 := Stand.of_body Bd
  have e0 : s₁.heap = h0 := by rw [← hh, Bd.state]; rfl
  have N0 := Fr.nil n0
  have pre0 : ∀ t, Steps p.tables e below (s₁.setTop (mkF m 0 #[.val (.ref w_DOUBLE)] [])) t → Steps p.tables e below (s₁.setTop (entryFrame m #[(.ref w_DOUBLE)] 1)) t := fun t k => castTop (ef_2_R m w_DOUBLE) k
  have G' := G
  obtain ⟨S_w_INT, E_w_INT, F_ordinal_w_INT, S_w_BYTE, E_w_BYTE, F_ordinal_w_BYTE, S_w_CHAR, E_w_CHAR, F_ordinal_w_CHAR, S_w_OBJECT, E_w_OBJECT, F_ordinal_w_OBJECT, S_w_FLOAT, E_w_FLOAT, F_ordinal_w_FLOAT, S_w_DOUBLE, E_w_DOUBLE, F_ordinal_w_DOUBLE, S_w_LONG, E_w_LONG, F_ordinal_w_LONG, S_w_SHORT, E_w_SHORT, F_ordinal_w_SHORT, S_w_BOOLEAN, E_w_BOOLEAN, F_ordinal_w_BOOLEAN⟩ := G'
  obtain ⟨T1, X1, e1, st1⟩ := getF X0 hx hZ hown (host := "") (Or.inl (hw _ (List.mem_of_getElem? (i := 13) rfl))) Via.refl e0 F_ordinal_w_DOUBLE (g := (mkF m 1 #[.val (.ref w_DOUBLE)] [(.ref w_DOUBLE)])) rfl rfl (hb hby d2_1)
  obtain ⟨fs, hr, hrun, hended, hW, hsame⟩ := X1.leave (v := some (.int (4 : Int32))) (fun h => by rw [Bd.returns] at h; cases h)
  refine ⟨_, _, pre0 _ ?_, hrun, hended, _, _, rfl, ?_, ⟨_, rfl⟩, hW, hsame.mono (by decide) (by decide)⟩
  · show Steps p.tables e below (s₁.setTop (mkF m 0 #[.val (.ref w_DOUBLE)] [])) _
    refine XS.aloadN X0.here hx rfl (hb hby d2_0) rfl rfl ?_
    show Steps p.tables e below (s₁.setTop (mkF m 1 #[.val (.ref w_DOUBLE)] [(.ref w_DOUBLE)])) _
    refine st1 _ ?_
    show Steps p.tables e below (T1.setTop (mkF m 4 #[.val (.ref w_DOUBLE)] [(.int (4 : Int32))])) _
    exact retOut X1 hx Bd.returns rfl (Or.inl ⟨rfl, Or.inl rfl, _, rfl⟩) (hb hby d2_4) hr
  · show QR _ h0 n0 _ T1.heap _
    rw [e1]
    exact ⟨rfl, N0, rfl⟩
set_option maxRecDepth 65536 in
set_option maxHeartbeats 40000000 in
theorem raw_7 (l : Launch) (Z : State) (a0 : Array Value) (hw : ∀ d ∈ tables_1, d.before a0 Z = true) (ws : List Jvm.Cond) (w_INT : Addr) (w_BYTE : Addr) (w_CHAR : Addr) (w_OBJECT : Addr) (w_FLOAT : Addr) (w_DOUBLE : Addr) (w_LONG : Addr) (w_SHORT : Addr) (w_BOOLEAN : Addr) (h0 : Heap) (n0 : Nat) (Z0 : n0 ≤ h0.size) (G : Glob Z h0 w_INT w_BYTE w_CHAR w_OBJECT w_FLOAT w_DOUBLE w_LONG w_SHORT w_BOOLEAN) (p1 : Int32) (hs : ¬ ((p1 &&& (1 : Int32)) = (0 : Int32))) :
    MetFree l x (head1 (Jvm.Cond.code x code maxLocals ret :: ws) room_1) (fun a U => a = #[(.int (7 : Int32)), (.int p1)] ∧ Z.Warmed39 U.vm ∧ U.heap = h0) (fun _ _ _ _ _ => True) (fun _ U o U' => ∃ v L, o = .returned v ∧ QL (some (.int (1 : Int32))) h0 n0 v U'.heap L ∧ FrameEnd U o U' L room_1.cells room_1.slots) := by
  refine MetFree.of_bodySF (plainFor_of_name pn_com_example_refleash_refleash_hprof_BasicTypeOfPinLaw) hisR ?_
  intro p e s m args below meth c s₁ Bd hml0 hP hK
  obtain ⟨rfl, hZ, hh⟩ := hP
  have hx := Bd.exec
  have hby := Bd.bytes
  have hml : c.maxLocals = 6 := hml0
  have hown : s.vm.findClass "com/example/refleash/refleash/hprof/BasicTypeOfPinLaw" = some m.cls := findClass_of_methodNamed Bd.named
  have X0 : Stand p l e room_1 s m #[(.int (7 : Int32)), (.int p1)] below meth c s₁ [] 0 0 := Stand.of_body Bd
  have e0 : s₁.heap = h0 := by rw [← hh, Bd.state]; rfl
  have N0 := Fr.nil n0
  have pre0 : ∀ t, Steps p.tables e below (s₁.setTop (mkF m 0 #[.val (.int (7 : Int32)), .val (.int p1), .unset, .unset, .unset, .unset] [])) t → Steps p.tables e below (s₁.setTop (entryFrame m #[(.int (7 : Int32)), (.int p1)] maxLocals)) t := fun t k => castTop (ef_0_II m (7 : Int32) p1) k
  have G' := G
  obtain ⟨S_w_INT, E_w_INT, F_ordinal_w_INT, S_w_BYTE, E_w_BYTE, F_ordinal_w_BYTE, S_w_CHAR, E_w_CHAR, F_ordinal_w_CHAR, S_w_OBJECT, E_w_OBJECT, F_ordinal_w_OBJECT, S_w_FLOAT, E_w_FLOAT, F_ordinal_w_FLOAT, S_w_DOUBLE, E_w_DOUBLE, F_ordinal_w_DOUBLE, S_w_LONG, E_w_LONG, F_ordinal_w_LONG, S_w_SHORT, E_w_SHORT, F_ordinal_w_SHORT, S_w_BOOLEAN, E_w_BOOLEAN, F_ordinal_w_BOOLEAN⟩ := G'
  obtain ⟨_, _, ⟨T1, L1, k1, n1⟩, -, X1, ⟨Lc1, hQ1, l1, y1, z1⟩, st1⟩ := Jvm.LawKit.callS X0 hx (y := (⟨"com/example/refleash/refleash/hprof/BasicType", "of", "(I)Lcom/example/refleash/refleash/hprof/BasicType;"⟩ : MethodName)) hown (mvT hZ (hw _ (List.mem_of_getElem? (i := 0) rfl))) (mvT hZ (hw _ (List.mem_of_getElem? (i := 1) rfl))) (mvT hZ (hw _ (List.mem_of_getElem? (i := 2) rfl))) (mvT hZ (hw _ (List.mem_of_getElem? (i := 3) rfl))) (by decide) (backOf (W := 0) (c1_4 l Z a0 hw [] w_INT w_BYTE w_CHAR w_OBJECT w_FLOAT w_DOUBLE w_LONG w_SHORT w_BOOLEAN h0 n0 Z0 G) hZ (hw _ (List.mem_of_getElem? (i := 3) rfl)) (hw _ (List.mem_of_getElem? (i := 2) rfl)) (by decide) (by decide)) (g := (mkF m 18 #[.val (.int (7 : Int32)), .val (.int p1), .val (.int (7 : Int32)), .unset, .unset, .unset] [(.int (7 : Int32))])) rfl (by rw [hml]; rfl) (argsL := [(.int (7 : Int32))]) (rest := []) (lenOf pd__I_Lcom_example_refleash_refleash_hprof_BasicType_ rfl) rfl (by show 2 * 0 + _ ≤ _; exact Nat.le_of_eq rfl) (hb hby at_18) (fun _ _ => ⟨rfl, e0, (by decide : 0 + 0 ≤ _), (by decide : 0 + 0 ≤ _)⟩)
  dsimp only [Pt.U, Pt.locs, Pt.cells, Pt.slots] at X1 l1 y1 z1 st1 hQ1
  subst l1 y1 z1
  obtain ⟨rfl, N1q, e1⟩ := hQ1
  have N1 := Fr.app N0 N1q
  obtain ⟨cq2, kq2, q2a, q2b, q2c⟩ := isOf hZ e1 E_w_DOUBLE
  obtain ⟨_, _, ⟨T2, L2, k2, n2⟩, -, X2, ⟨Lc2, hQ2, l2, y2, z2⟩, st2⟩ := X1.virtualBackUp hx (x := (⟨"com/example/refleash/refleash/hprof/BasicType", "ordinal", "()I"⟩ : MethodName)) (y := (⟨"java/lang/Enum", "ordinal", "()I"⟩ : MethodName)) hown (mvT hZ (hw _ (List.mem_of_getElem? (i := 6) rfl))) (mvT hZ (hw _ (List.mem_of_getElem? (i := 7) rfl))) (mvT hZ (hw _ (List.mem_of_getElem? (i := 8) rfl))) (by decide) (mvT hZ (hw _ (List.mem_of_getElem? (i := 10) rfl))) (mvT hZ (hw _ (List.mem_of_getElem? (i := 9) rfl))) (backOf (W := 0) (c2_4 l Z a0 hw [] w_INT w_BYTE w_CHAR w_OBJECT w_FLOAT w_DOUBLE w_LONG w_SHORT w_BOOLEAN h0 n0 Z0 G) hZ (hw _ (List.mem_of_getElem? (i := 12) rfl)) (hw _ (List.mem_of_getElem? (i := 11) rfl)) (by decide) (by decide)) q2a q2c (g := (mkF m 81 #[.val (.int (7 : Int32)), .val (.int p1), .val (.int (7 : Int32)), .val (.ref w_DOUBLE), .val (.int (1 : Int32)), .val (.int (4 : Int32))] [(.ref w_DOUBLE)])) rfl (by rw [hml]; rfl) (Steps.refl _) (argsL := []) (rest := []) (lenOf pd___I rfl) rfl (by show 2 * 0 + _ ≤ _; exact Nat.le_of_eq rfl) (hb hby at_81) (fun _ _ => ⟨rfl, e1, (by decide : 0 + 0 ≤ _), (by decide : 0 + 0 ≤ _)⟩)
  dsimp only [Pt.U, Pt.locs, Pt.cells, Pt.slots] at X2 l2 y2 z2 st2 hQ2
  subst l2 y2 z2
  obtain ⟨rfl, N2q, e2⟩ := hQ2
  have N2 := Fr.app N1 N2q
  obtain ⟨fs, hr, hrun, hended, hW, hsame⟩ := X2.leave (v := some (.int (1 : Int32))) (fun h => by rw [Bd.returns] at h; cases h)
  refine ⟨_, _, pre0 _ ?_, hrun, hended, _, _, rfl, ?_, ⟨_, rfl⟩, hW, hsame.mono (by decide) (by decide)⟩
  · show Steps p.tables e below (s₁.setTop (mkF m 0 #[.val (.int (7 : Int32)), .val (.int p1), .unset, .unset, .unset, .unset] [])) _
    refine XS.iloadN X0.here hx rfl (hb hby at_0) rfl ?_
    show Steps p.tables e below (s₁.setTop (mkF m 1 #[.val (.int (7 : Int32)), .val (.int p1), .unset, .unset, .unset, .unset] [(.int p1)])) _
    refine XS.iconst X0.here hx rfl (hb hby at_1) ?_
    show Steps p.tables e below (s₁.setTop (mkF m 2 #[.val (.int (7 : Int32)), .val (.int p1), .unset, .unset, .unset, .unset] [(.int (1 : Int32)), (.int p1)])) _
    refine XS.iand X0.here hx rfl (hb hby at_2) rfl ?_
    show Steps p.tables e below (s₁.setTop (mkF m 3 #[.val (.int (7 : Int32)), .val (.int p1), .unset, .unset, .unset, .unset] [(.int (p1 &&& (1 : Int32)))])) _
    refine XS.ifNo X0.here hx rfl (hb hby at_3) rfl ((if0 _ _).trans (feq (hs : ¬ ((p1 &&& (1 : Int32)) = (0 : Int32)))).1) ?_
    show Steps p.tables e below (s₁.setTop (mkF m 6 #[.val (.int (7 : Int32)), .val (.int p1), .unset, .unset, .unset, .unset] [])) _
    refine XS.iloadN X0.here hx rfl (hb hby at_6) rfl ?_
    show Steps p.tables e below (s₁.setTop (mkF m 7 #[.val (.int (7 : Int32)), .val (.int p1), .unset, .unset, .unset, .unset] [(.int (7 : Int32))])) _
    refine XS.goto X0.here hx rfl (pc0 := 7) (pc' := 16) rfl (hb hby at_7) (by decide) (by decide) ?_
    show Steps p.tables e below (s₁.setTop (mkF m 16 #[.val (.int (7 : Int32)), .val (.int p1), .unset, .unset, .unset, .unset] [(.int (7 : Int32))])) _
    refine XS.istoreN X0.here hx rfl (hb hby at_16) rfl (l' := #[.val (.int (7 : Int32)), .val (.int p1), .val (.int (7 : Int32)), .unset, .unset, .unset]) rfl ?_
    show Steps p.tables e below (s₁.setTop (mkF m 17 #[.val (.int (7 : Int32)), .val (.int p1), .val (.int (7 : Int32)), .unset, .unset, .unset] [])) _
    refine XS.iloadN X0.here hx rfl (hb hby at_17) rfl ?_
    show Steps p.tables e below (s₁.setTop (mkF m 18 #[.val (.int (7 : Int32)), .val (.int p1), .val (.int (7 : Int32)), .unset, .unset, .unset] [(.int (7 : Int32))])) _
    refine st1 _ ?_
    show Steps p.tables e below (T1.setTop (mkF m 21 #[.val (.int (7 : Int32)), .val (.int p1), .val (.int (7 : Int32)), .unset, .unset, .unset] [(.ref w_DOUBLE)])) _
    refine XS.astoreN X1.here hx rfl (hb hby at_21) rfl rfl (l' := #[.val (.int (7 : Int32)), .val (.int p1), .val (.int (7 : Int32)), .val (.ref w_DOUBLE), .unset, .unset]) rfl ?_
    show Steps p.tables e below (T1.setTop (mkF m 22 #[.val (.int (7 : Int32)), .val (.int p1), .val (.int (7 : Int32)), .val (.ref w_DOUBLE), .unset, .unset] [])) _
    refine XS.iloadN X1.here hx rfl (hb hby at_22) rfl ?_
    show Steps p.tables e below (T1.setTop (mkF m 23 #[.val (.int (7 : Int32)), .val (.int p1), .val (.int (7 : Int32)), .val (.ref w_DOUBLE), .unset, .unset] [(.int (7 : Int32))])) _
    refine XS.iconst X1.here hx rfl (hb hby at_23) ?_
    show Steps p.tables e below (T1.setTop (mkF m 24 #[.val (.int (7 : Int32)), .val (.int p1), .val (.int (7 : Int32)), .val (.ref w_DOUBLE), .unset, .unset] [(.int (2 : Int32)), (.int (7 : Int32))])) _
    refine XS.icmpNo X1.here hx rfl (hb hby at_24) rfl (feq (by decide : ¬ ((7 : Int32) = (2 : Int32)))).1 ?_
    show Steps p.tables e below (T1.setTop (mkF m 27 #[.val (.int (7 : Int32)), .val (.int p1), .val (.int (7 : Int32)), .val (.ref w_DOUBLE), .unset, .unset] [])) _
    refine XS.iloadN X1.here hx rfl (hb hby at_27) rfl ?_
    show Steps p.tables e below (T1.setTop (mkF m 28 #[.val (.int (7 : Int32)), .val (.int p1), .val (.int (7 : Int32)), .val (.ref w_DOUBLE), .unset, .unset] [(.int (7 : Int32))])) _
    refine XS.iconst X1.here hx rfl (hb hby at_28) ?_
    show Steps p.tables e below (T1.setTop (mkF m 29 #[.val (.int (7 : Int32)), .val (.int p1), .val (.int (7 : Int32)), .val (.ref w_DOUBLE), .unset, .unset] [(.int (4 : Int32)), (.int (7 : Int32))])) _
    refine XS.icmpNo X1.here hx rfl (hb hby at_29) rfl (flt (by decide : ¬ ((7 : Int32) < (4 : Int32)))).1 ?_
    show Steps p.tables e below (T1.setTop (mkF m 32 #[.val (.int (7 : Int32)), .val (.int p1), .val (.int (7 : Int32)), .val (.ref w_DOUBLE), .unset, .unset] [])) _
    refine XS.iloadN X1.here hx rfl (hb hby at_32) rfl ?_
    show Steps p.tables e below (T1.setTop (mkF m 33 #[.val (.int (7 : Int32)), .val (.int p1), .val (.int (7 : Int32)), .val (.ref w_DOUBLE), .unset, .unset] [(.int (7 : Int32))])) _
    refine XS.bipush X1.here hx rfl (hb hby at_33) ?_
    show Steps p.tables e below (T1.setTop (mkF m 35 #[.val (.int (7 : Int32)), .val (.int p1), .val (.int (7 : Int32)), .val (.ref w_DOUBLE), .unset, .unset] [(.int (11 : Int32)), (.int (7 : Int32))])) _
    refine XS.icmpNo X1.here hx rfl (hb hby at_35) rfl (flt (by decide : ¬ ((11 : Int32) < (7 : Int32)))).2.2.1 ?_
    show Steps p.tables e below (T1.setTop (mkF m 38 #[.val (.int (7 : Int32)), .val (.int p1), .val (.int (7 : Int32)), .val (.ref w_DOUBLE), .unset, .unset] [])) _
    refine XS.iconst X1.here hx rfl (hb hby at_38) ?_
    show Steps p.tables e below (T1.setTop (mkF m 39 #[.val (.int (7 : Int32)), .val (.int p1), .val (.int (7 : Int32)), .val (.ref w_DOUBLE), .unset, .unset] [(.int (1 : Int32))])) _
    refine XS.goto X1.here hx rfl (pc0 := 39) (pc' := 43) rfl (hb hby at_39) (by decide) (by decide) ?_
    show Steps p.tables e below (T1.setTop (mkF m 43 #[.val (.int (7 : Int32)), .val (.int p1), .val (.int (7 : Int32)), .val (.ref w_DOUBLE), .unset, .unset] [(.int (1 : Int32))])) _
    refine XS.istore X1.here hx rfl (hb hby at_43) rfl (l' := #[.val (.int (7 : Int32)), .val (.int p1), .val (.int (7 : Int32)), .val (.ref w_DOUBLE), .val (.int (1 : Int32)), .unset]) rfl ?_
    show Steps p.tables e below (T1.setTop (mkF m 45 #[.val (.int (7 : Int32)), .val (.int p1), .val (.int (7 : Int32)), .val (.ref w_DOUBLE), .val (.int (1 : Int32)), .unset] [])) _
    refine XS.iload X1.here hx rfl (hb hby at_45) rfl ?_
    show Steps p.tables e below (T1.setTop (mkF m 47 #[.val (.int (7 : Int32)), .val (.int p1), .val (.int (7 : Int32)), .val (.ref w_DOUBLE), .val (.int (1 : Int32)), .unset] [(.int (1 : Int32))])) _
    refine XS.ifYes X1.here hx rfl (pc0 := 47) (pc' := 60) rfl (hb hby at_47) rfl ((if0 _ _).trans (feq (by decide : ¬ ((1 : Int32) = (0 : Int32)))).2) (by decide) (by decide) ?_
    show Steps p.tables e below (T1.setTop (mkF m 60 #[.val (.int (7 : Int32)), .val (.int p1), .val (.int (7 : Int32)), .val (.ref w_DOUBLE), .val (.int (1 : Int32)), .unset] [])) _
    refine XS.aloadN X1.here hx rfl (hb hby at_60) rfl rfl ?_
    show Steps p.tables e below (T1.setTop (mkF m 61 #[.val (.int (7 : Int32)), .val (.int p1), .val (.int (7 : Int32)), .val (.ref w_DOUBLE), .val (.int (1 : Int32)), .unset] [(.ref w_DOUBLE)])) _
    refine XS.ifnonnullYes X1.here hx rfl (pc0 := 61) (pc' := 66) rfl (hb hby at_61) rfl (by decide) (by decide) ?_
    show Steps p.tables e below (T1.setTop (mkF m 66 #[.val (.int (7 : Int32)), .val (.int p1), .val (.int (7 : Int32)), .val (.ref w_DOUBLE), .val (.int (1 : Int32)), .unset] [])) _
    refine XS.iloadN X1.here hx rfl (hb hby at_66) rfl ?_
    show Steps p.tables e below (T1.setTop (mkF m 67 #[.val (.int (7 : Int32)), .val (.int p1), .val (.int (7 : Int32)), .val (.ref w_DOUBLE), .val (.int (1 : Int32)), .unset] [(.int (7 : Int32))])) _
    refine XS.iconst X1.here hx rfl (hb hby at_67) ?_
    show Steps p.tables e below (T1.setTop (mkF m 68 #[.val (.int (7 : Int32)), .val (.int p1), .val (.int (7 : Int32)), .val (.ref w_DOUBLE), .val (.int (1 : Int32)), .unset] [(.int (2 : Int32)), (.int (7 : Int32))])) _
    refine XS.icmpYes X1.here hx rfl (pc0 := 68) (pc' := 75) rfl (hb hby at_68) rfl (feq (by decide : ¬ ((7 : Int32) = (2 : Int32)))).2 (by decide) (by decide) ?_
    show Steps p.tables e below (T1.setTop (mkF m 75 #[.val (.int (7 : Int32)), .val (.int p1), .val (.int (7 : Int32)), .val (.ref w_DOUBLE), .val (.int (1 : Int32)), .unset] [])) _
    refine XS.iloadN X1.here hx rfl (hb hby at_75) rfl ?_
    show Steps p.tables e below (T1.setTop (mkF m 76 #[.val (.int (7 : Int32)), .val (.int p1), .val (.int (7 : Int32)), .val (.ref w_DOUBLE), .val (.int (1 : Int32)), .unset] [(.int (7 : Int32))])) _
    refine XS.iconst X1.here hx rfl (hb hby at_76) ?_
    show Steps p.tables e below (T1.setTop (mkF m 77 #[.val (.int (7 : Int32)), .val (.int p1), .val (.int (7 : Int32)), .val (.ref w_DOUBLE), .val (.int (1 : Int32)), .unset] [(.int (3 : Int32)), (.int (7 : Int32))])) _
    refine XS.isub X1.here hx rfl (hb hby at_77) rfl ?_
    show Steps p.tables e below (T1.setTop (mkF m 78 #[.val (.int (7 : Int32)), .val (.int p1), .val (.int (7 : Int32)), .val (.ref w_DOUBLE), .val (.int (1 : Int32)), .unset] [(.int ((7 : Int32) - (3 : Int32)))])) _
    rw [(show ((7 : Int32) - (3 : Int32)) = (4 : Int32) from by decide)]
    show Steps p.tables e below (T1.setTop (mkF m 78 #[.val (.int (7 : Int32)), .val (.int p1), .val (.int (7 : Int32)), .val (.ref w_DOUBLE), .val (.int (1 : Int32)), .unset] [(.int (4 : Int32))])) _
    refine XS.istore X1.here hx rfl (hb hby at_78) rfl (l' := #[.val (.int (7 : Int32)), .val (.int p1), .val (.int (7 : Int32)), .val (.ref w_DOUBLE), .val (.int (1 : Int32)), .val (.int (4 : Int32))]) rfl ?_
    show Steps p.tables e below (T1.setTop (mkF m 80 #[.val (.int (7 : Int32)), .val (.int p1), .val (.int (7 : Int32)), .val (.ref w_DOUBLE), .val (.int (1 : Int32)), .val (.int (4 : Int32))] [])) _
    refine XS.aloadN X1.here hx rfl (hb hby at_80) rfl rfl ?_
    show Steps p.tables e below (T1.setTop (mkF m 81 #[.val (.int (7 : Int32)), .val (.int p1), .val (.int (7 : Int32)), .val (.ref w_DOUBLE), .val (.int (1 : Int32)), .val (.int (4 : Int32))] [(.ref w_DOUBLE)])) _
    refine st2.trans ?_
    show Steps p.tables e below (T2.setTop (mkF m 84 #[.val (.int (7 : Int32)), .val (.int p1), .val (.int (7 : Int32)), .val (.ref w_DOUBLE), .val (.int (1 : Int32)), .val (.int (4 : Int32))] [(.int (4 : Int32))])) _
    refine XS.iload X2.here hx rfl (hb hby at_84) rfl ?_
    show Steps p.tables e below (T2.setTop (mkF m 86 #[.val (.int (7 : Int32)), .val (.int p1), .val (.int (7 : Int32)), .val (.ref w_DOUBLE), .val (.int (1 : Int32)), .val (.int (4 : Int32))] [(.int (4 : Int32)), (.int (4 : Int32))])) _
    refine XS.icmpNo X2.here hx rfl (hb hby at_86) rfl (teq (by decide : (4 : Int32) = (4 : Int32))).2 ?_
    show Steps p.tables e below (T2.setTop (mkF m 89 #[.val (.int (7 : Int32)), .val (.int p1), .val (.int (7 : Int32)), .val (.ref w_DOUBLE), .val (.int (1 : Int32)), .val (.int (4 : Int32))] [])) _
    refine XS.iconst X2.here hx rfl (hb hby at_89) ?_
    show Steps p.tables e below (T2.setTop (mkF m 90 #[.val (.int (7 : Int32)), .val (.int p1), .val (.int (7 : Int32)), .val (.ref w_DOUBLE), .val (.int (1 : Int32)), .val (.int (4 : Int32))] [(.int (1 : Int32))])) _
    refine XS.goto X2.here hx rfl (pc0 := 90) (pc' := 94) rfl (hb hby at_90) (by decide) (by decide) ?_
    show Steps p.tables e below (T2.setTop (mkF m 94 #[.val (.int (7 : Int32)), .val (.int p1), .val (.int (7 : Int32)), .val (.ref w_DOUBLE), .val (.int (1 : Int32)), .val (.int (4 : Int32))] [(.int (1 : Int32))])) _
    exact retOut X2 hx Bd.returns rfl (Or.inl ⟨rfl, Or.inr (Or.inl rfl), _, rfl⟩) (hb hby at_94) hr
  · exact ⟨rfl, N2⟩
theorem d1_86 : decode prog_56_method_4_code 86 = .ok (.getstatic 19, 3) := by decide +kernel
theorem d1_89 : decode prog_56_method_4_code 89 = .ok (.goto 22, 3) := by decide +kernel
set_option maxRecDepth 65536 in
set_option maxHeartbeats 40000000 in
theorem c1_5 (l : Launch) (Z : State) (a0 : Array Value) (hw : ∀ d ∈ tables_1, d.before a0 Z = true) (ws : List Jvm.Cond) (w_INT : Addr) (w_BYTE : Addr) (w_CHAR : Addr) (w_OBJECT : Addr) (w_FLOAT : Addr) (w_DOUBLE : Addr) (w_LONG : Addr) (w_SHORT : Addr) (w_BOOLEAN : Addr) (h0 : Heap) (n0 : Nat) (Z0 : n0 ≤ h0.size) (G : Glob Z h0 w_INT w_BYTE w_CHAR w_OBJECT w_FLOAT w_DOUBLE w_LONG w_SHORT w_BOOLEAN)  :
    MetFree l (⟨"com/example/refleash/refleash/hprof/BasicType", "of", "(I)Lcom/example/refleash/refleash/hprof/BasicType;"⟩ : MethodName) (head1 (Jvm.Cond.code (⟨"com/example/refleash/refleash/hprof/BasicType", "of", "(I)Lcom/example/refleash/refleash/hprof/BasicType;"⟩ : MethodName) prog_56_method_4_code 1 (some (.object "com/example/refleash/refleash/hprof/BasicType")) :: ws) ({ frames := 0, cells := 0, slots := 0, locals := 0 } : Room)) (fun a U => a = #[(.int (8 : Int32))] ∧ Z.Warmed39 U.vm ∧ U.heap = h0) (fun _ _ _ _ _ => True) (fun _ U o U' => ∃ v L, o = .returned v ∧ QR (some (.ref w_BYTE)) h0 n0 v U'.heap L ∧ FrameEnd U o U' L ({ frames := 0, cells := 0, slots := 0, locals := 0 } : Room).cells ({ frames := 0, cells := 0, slots := 0, locals := 0 } : Room).slots) := by
  refine MetFree.of_bodySF (plainFor_of_name pn_com_example_refleash_refleash_hprof_BasicType) hisR ?_
  intro p e s m args below meth c s₁ Bd hml0 hP hK
  obtain ⟨rfl, hZ, hh⟩ := hP
  have hx := Bd.exec
  have hby := Bd.bytes
  have hml : c.maxLocals = 1 := hml0
  have hown : s.vm.findClass "com/example/refleash/refleash/hprof/BasicType" = some m.cls := findClass_of_methodNamed Bd.named
  have X0 : Stand p l e ({ frames := 0, cells := 0, slots := 0, locals := 0 } : Room) s m #[(.int (8 : Int32))] below meth c s₁ [] 0 0 := Stand.of_body Bd
  have e0 : s₁.heap = h0 := by rw [← hh, Bd.state]; rfl
  have N0 := Fr.nil n0
  have pre0 : ∀ t, Steps p.tables e below (s₁.setTop (mkF m 0 #[.val (.int (8 : Int32))] [])) t → Steps p.tables e below (s₁.setTop (entryFrame m #[(.int (8 : Int32))] 1)) t := fun t k => castTop (ef_1_I m (8 : Int32)) k
  have G' := G
  obtain ⟨S_w_INT, E_w_INT, F_ordinal_w_INT, S_w_BYTE, E_w_BYTE, F_ordinal_w_BYTE, S_w_CHAR, E_w_CHAR, F_ordinal_w_CHAR, S_w_OBJECT, E_w_OBJECT, F_ordinal_w_OBJECT, S_w_FLOAT, E_w_FLOAT, F_ordinal_w_FLOAT, S_w_DOUBLE, E_w_DOUBLE, F_ordinal_w_DOUBLE, S_w_LONG, E_w_LONG, F_ordinal_w_LONG, S_w_SHORT, E_w_SHORT, F_ordinal_w_SHORT, S_w_BOOLEAN, E_w_BOOLEAN, F_ordinal_w_BOOLEAN⟩ := G'
  obtain ⟨T1, X1, e1, st1⟩ := getS2 X0 hx hZ hown (host := "") (Or.inl (hw _ (List.mem_of_getElem? (i := 15) rfl))) Via.refl e0 S_w_BYTE (g := (mkF m 86 #[.val (.int (8 : Int32))] [])) rfl (hb hby d1_86)
  obtain ⟨fs, hr, hrun, hended, hW, hsame⟩ := X1.leave (v := some (.ref w_BYTE)) (fun h => by rw [Bd.returns] at h; cases h)
  refine ⟨_, _, pre0 _ ?_, hrun, hended, _, _, rfl, ?_, ⟨_, rfl⟩, hW, hsame.mono (by decide) (by decide)⟩
  · show Steps p.tables e below (s₁.setTop (mkF m 0 #[.val (.int (8 : Int32))] [])) _
    refine XS.iloadN X0.here hx rfl (hb hby d1_0) rfl ?_
    show Steps p.tables e below (s₁.setTop (mkF m 1 #[.val (.int (8 : Int32))] [(.int (8 : Int32))])) _
    refine XS.tswIn X0.here hx rfl (pc0 := 1) (pc' := 86) rfl (hb hby d1_1) rfl (by decide) (o := 85) (by decide) (by decide) (by decide) ?_
    show Steps p.tables e below (s₁.setTop (mkF m 86 #[.val (.int (8 : Int32))] [])) _
    refine st1 _ ?_
    show Steps p.tables e below (T1.setTop (mkF m 89 #[.val (.int (8 : Int32))] [(.ref w_BYTE)])) _
    refine XS.goto X1.here hx rfl (pc0 := 89) (pc' := 111) rfl (hb hby d1_89) (by decide) (by decide) ?_
    show Steps p.tables e below (T1.setTop (mkF m 111 #[.val (.int (8 : Int32))] [(.ref w_BYTE)])) _
    exact retOut X1 hx Bd.returns rfl (Or.inr (Or.inr (Or.inr (Or.inr ⟨rfl, rfl, rfl⟩)))) (hb hby d1_111) hr
  · show QR _ h0 n0 _ T1.heap _
    rw [e1]
    exact ⟨rfl, N0, rfl⟩
set_option maxRecDepth 65536 in
set_option maxHeartbeats 40000000 in
theorem c2_5 (l : Launch) (Z : State) (a0 : Array Value) (hw : ∀ d ∈ tables_1, d.before a0 Z = true) (ws : List Jvm.Cond) (w_INT : Addr) (w_BYTE : Addr) (w_CHAR : Addr) (w_OBJECT : Addr) (w_FLOAT : Addr) (w_DOUBLE : Addr) (w_LONG : Addr) (w_SHORT : Addr) (w_BOOLEAN : Addr) (h0 : Heap) (n0 : Nat) (Z0 : n0 ≤ h0.size) (G : Glob Z h0 w_INT w_BYTE w_CHAR w_OBJECT w_FLOAT w_DOUBLE w_LONG w_SHORT w_BOOLEAN)  :
    MetFree l (⟨"java/lang/Enum", "ordinal", "()I"⟩ : MethodName) (head1 (Jvm.Cond.code (⟨"java/lang/Enum", "ordinal", "()I"⟩ : MethodName) jdk_37_method_2_code 1 (some .int) :: ws) ({ frames := 0, cells := 0, slots := 0, locals := 0 } : Room)) (fun a U => a = #[(.ref w_BYTE)] ∧ Z.Warmed39 U.vm ∧ U.heap = h0) (fun _ _ _ _ _ => True) (fun _ U o U' => ∃ v L, o = .returned v ∧ QR (some (.int (5 : Int32))) h0 n0 v U'.heap L ∧ FrameEnd U o U' L ({ frames := 0, cells := 0, slots := 0, locals := 0 } : Room).cells ({ frames := 0, cells := 0, slots := 0, locals := 0 } : Room).slots) := by
  refine MetFree.of_bodySF (plainFor_of_name pn_java_lang_Enum) hisR ?_
  intro p e s m args below meth c s₁ Bd hml0 hP hK
  obtain ⟨rfl, hZ, hh⟩ := hP
  have hx := Bd.exec
  have hby := Bd.bytes
  have hml : c.maxLocals = 1 := hml0
  have hown : s.vm.findClass "java/lang/Enum" = some m.cls := findClass_of_methodNamed Bd.named
  have X0 : Stand p l e ({ frames := 0, cells := 0, slots := 0, locals := 0 } : Room) s m #[(.ref w_BYTE)] below meth c s₁ [] 0 0 := Stand.of_body Bd
  have e0 : s₁.heap = h0 := by rw [← hh, Bd.state]; rfl
  have N0 := Fr.nil n0
  have pre0 : ∀ t, Steps p.tables e below (s₁.setTop (mkF m 0 #[.val (.ref w_BYTE)] [])) t → Steps p.tables e below (s₁.setTop (entryFrame m #[(.ref w_BYTE)] 1)) t := fun t k => castTop (ef_2_R m w_BYTE) k
  have G' := G
  obtain ⟨S_w_INT, E_w_INT, F_ordinal_w_INT, S_w_BYTE, E_w_BYTE, F_ordinal_w_BYTE, S_w_CHAR, E_w_CHAR, F_ordinal_w_CHAR, S_w_OBJECT, E_w_OBJECT, F_ordinal_w_OBJECT, S_w_FLOAT, E_w_FLOAT, F_ordinal_w_FLOAT, S_w_DOUBLE, E_w_DOUBLE, F_ordinal_w_DOUBLE, S_w_LONG, E_w_LONG, F_ordinal_w_LONG, S_w_SHORT, E_w_SHORT, F_ordinal_w_SHORT, S_w_BOOLEAN, E_w_BOOLEAN, F_ordinal_w_BOOLEAN⟩ := G'
  obtain ⟨T1, X1, e1, st1⟩ := getF X0 hx hZ hown (host := "") (Or.inl (hw _ (List.mem_of_getElem? (i := 13) rfl))) Via.refl e0 F_ordinal_w_BYTE (g := (mkF m 1 #[.val (.ref w_BYTE)] [(.ref w_BYTE)])) rfl rfl (hb hby d2_1)
  obtain ⟨fs, hr, hrun, hended, hW, hsame⟩ := X1.leave (v := some (.int (5 : Int32))) (fun h => by rw [Bd.returns] at h; cases h)
  refine ⟨_, _, pre0 _ ?_, hrun, hended, _, _, rfl, ?_, ⟨_, rfl⟩, hW, hsame.mono (by decide) (by decide)⟩
  · show Steps p.tables e below (s₁.setTop (mkF m 0 #[.val (.ref w_BYTE)] [])) _
    refine XS.aloadN X0.here hx rfl (hb hby d2_0) rfl rfl ?_
    show Steps p.tables e below (s₁.setTop (mkF m 1 #[.val (.ref w_BYTE)] [(.ref w_BYTE)])) _
    refine st1 _ ?_
    show Steps p.tables e below (T1.setTop (mkF m 4 #[.val (.ref w_BYTE)] [(.int (5 : Int32))])) _
    exact retOut X1 hx Bd.returns rfl (Or.inl ⟨rfl, Or.inl rfl, _, rfl⟩) (hb hby d2_4) hr
  · show QR _ h0 n0 _ T1.heap _
    rw [e1]
    exact ⟨rfl, N0, rfl⟩
set_option maxRecDepth 65536 in
set_option maxHeartbeats 40000000 in
theorem raw_8 (l : Launch) (Z : State) (a0 : Array Value) (hw : ∀ d ∈ tables_1, d.before a0 Z = true) (ws : List Jvm.Cond) (w_INT : Addr) (w_BYTE : Addr) (w_CHAR : Addr) (w_OBJECT : Addr) (w_FLOAT : Addr) (w_DOUBLE : Addr) (w_LONG : Addr) (w_SHORT : Addr) (w_BOOLEAN : Addr) (h0 : Heap) (n0 : Nat) (Z0 : n0 ≤ h0.size) (G : Glob Z h0 w_INT w_BYTE w_CHAR w_OBJECT w_FLOAT w_DOUBLE w_LONG w_SHORT w_BOOLEAN) (p1 : Int32) (hs : ¬ ((p1 &&& (1 : Int32)) = (0 : Int32))) :
    MetFree l x (head1 (Jvm.Cond.code x code maxLocals ret :: ws) room_1) (fun a U => a = #[(.int (8 : Int32)), (.int p1)] ∧ Z.Warmed39 U.vm ∧ U.heap = h0) (fun _ _ _ _ _ => True) (fun _ U o U' => ∃ v L, o = .returned v ∧ QL (some (.int (1 : Int32))) h0 n0 v U'.heap L ∧ FrameEnd U o U' L room_1.cells room_1.slots) := by
  refine MetFree.of_bodySF (plainFor_of_name pn_com_example_refleash_refleash_hprof_BasicTypeOfPinLaw) hisR ?_
  intro p e s m args below meth c s₁ Bd hml0 hP hK
  obtain ⟨rfl, hZ, hh⟩ := hP
  have hx := Bd.exec
  have hby := Bd.bytes
  have hml : c.maxLocals = 6 := hml0
  have hown : s.vm.findClass "com/example/refleash/refleash/hprof/BasicTypeOfPinLaw" = some m.cls := findClass_of_methodNamed Bd.named
  have X0 : Stand p l e room_1 s m #[(.int (8 : Int32)), (.int p1)] below meth c s₁ [] 0 0 := Stand.of_body Bd
  have e0 : s₁.heap = h0 := by rw [← hh, Bd.state]; rfl
  have N0 := Fr.nil n0
  have pre0 : ∀ t, Steps p.tables e below (s₁.setTop (mkF m 0 #[.val (.int (8 : Int32)), .val (.int p1), .unset, .unset, .unset, .unset] [])) t → Steps p.tables e below (s₁.setTop (entryFrame m #[(.int (8 : Int32)), (.int p1)] maxLocals)) t := fun t k => castTop (ef_0_II m (8 : Int32) p1) k
  have G' := G
  obtain ⟨S_w_INT, E_w_INT, F_ordinal_w_INT, S_w_BYTE, E_w_BYTE, F_ordinal_w_BYTE, S_w_CHAR, E_w_CHAR, F_ordinal_w_CHAR, S_w_OBJECT, E_w_OBJECT, F_ordinal_w_OBJECT, S_w_FLOAT, E_w_FLOAT, F_ordinal_w_FLOAT, S_w_DOUBLE, E_w_DOUBLE, F_ordinal_w_DOUBLE, S_w_LONG, E_w_LONG, F_ordinal_w_LONG, S_w_SHORT, E_w_SHORT, F_ordinal_w_SHORT, S_w_BOOLEAN, E_w_BOOLEAN, F_ordinal_w_BOOLEAN⟩ := G'
  obtain ⟨_, _, ⟨T1, L1, k1, n1⟩, -, X1, ⟨Lc1, hQ1, l1, y1, z1⟩, st1⟩ := Jvm.LawKit.callS X0 hx (y := (⟨"com/example/refleash/refleash/hprof/BasicType", "of", "(I)Lcom/example/refleash/refleash/hprof/BasicType;"⟩ : MethodName)) hown (mvT hZ (hw _ (List.mem_of_getElem? (i := 0) rfl))) (mvT hZ (hw _ (List.mem_of_getElem? (i := 1) rfl))) (mvT hZ (hw _ (List.mem_of_getElem? (i := 2) rfl))) (mvT hZ (hw _ (List.mem_of_getElem? (i := 3) rfl))) (by decide) (backOf (W := 0) (c1_5 l Z a0 hw [] w_INT w_BYTE w_CHAR w_OBJECT w_FLOAT w_DOUBLE w_LONG w_SHORT w_BOOLEAN h0 n0 Z0 G) hZ (hw _ (List.mem_of_getElem? (i := 3) rfl)) (hw _ (List.mem_of_getElem? (i := 2) rfl)) (by decide) (by decide)) (g := (mkF m 18 #[.val (.int (8 : Int32)), .val (.int p1), .val (.int (8 : Int32)), .unset, .unset, .unset] [(.int (8 : Int32))])) rfl (by rw [hml]; rfl) (argsL := [(.int (8 : Int32))]) (rest := []) (lenOf pd__I_Lcom_example_refleash_refleash_hprof_BasicType_ rfl) rfl (by show 2 * 0 + _ ≤ _; exact Nat.le_of_eq rfl) (hb hby at_18) (fun _ _ => ⟨rfl, e0, (by decide : 0 + 0 ≤ _), (by decide : 0 + 0 ≤ _)⟩)
  dsimp only [Pt.U, Pt.locs, Pt.cells, Pt.slots] at X1 l1 y1 z1 st1 hQ1
  subst l1 y1 z1
  obtain ⟨rfl, N1q, e1⟩ := hQ1
  have N1 := Fr.app N0 N1q
  obtain ⟨cq2, kq2, q2a, q2b, q2c⟩ := isOf hZ e1 E_w_BYTE
  obtain ⟨_, _, ⟨T2, L2, k2, n2⟩, -, X2, ⟨Lc2, hQ2, l2, y2, z2⟩, st2⟩ := X1.virtualBackUp hx (x := (⟨"com/example/refleash/refleash/hprof/BasicType", "ordinal", "()I"⟩ : MethodName)) (y := (⟨"java/lang/Enum", "ordinal", "()I"⟩ : MethodName)) hown (mvT hZ (hw _ (List.mem_of_getElem? (i := 6) rfl))) (mvT hZ (hw _ (List.mem_of_getElem? (i := 7) rfl))) (mvT hZ (hw _ (List.mem_of_getElem? (i := 8) rfl))) (by decide) (mvT hZ (hw _ (List.mem_of_getElem? (i := 10) rfl))) (mvT hZ (hw _ (List.mem_of_getElem? (i := 9) rfl))) (backOf (W := 0) (c2_5 l Z a0 hw [] w_INT w_BYTE w_CHAR w_OBJECT w_FLOAT w_DOUBLE w_LONG w_SHORT w_BOOLEAN h0 n0 Z0 G) hZ (hw _ (List.mem_of_getElem? (i := 12) rfl)) (hw _ (List.mem_of_getElem? (i := 11) rfl)) (by decide) (by decide)) q2a q2c (g := (mkF m 81 #[.val (.int (8 : Int32)), .val (.int p1), .val (.int (8 : Int32)), .val (.ref w_BYTE), .val (.int (1 : Int32)), .val (.int (5 : Int32))] [(.ref w_BYTE)])) rfl (by rw [hml]; rfl) (Steps.refl _) (argsL := []) (rest := []) (lenOf pd___I rfl) rfl (by show 2 * 0 + _ ≤ _; exact Nat.le_of_eq rfl) (hb hby at_81) (fun _ _ => ⟨rfl, e1, (by decide : 0 + 0 ≤ _), (by decide : 0 + 0 ≤ _)⟩)
  dsimp only [Pt.U, Pt.locs, Pt.cells, Pt.slots] at X2 l2 y2 z2 st2 hQ2
  subst l2 y2 z2
  obtain ⟨rfl, N2q, e2⟩ := hQ2
  have N2 := Fr.app N1 N2q
  obtain ⟨fs, hr, hrun, hended, hW, hsame⟩ := X2.leave (v := some (.int (1 : Int32))) (fun h => by rw [Bd.returns] at h; cases h)
  refine ⟨_, _, pre0 _ ?_, hrun, hended, _, _, rfl, ?_, ⟨_, rfl⟩, hW, hsame.mono (by decide) (by decide)⟩
  · show Steps p.tables e below (s₁.setTop (mkF m 0 #[.val (.int (8 : Int32)), .val (.int p1), .unset, .unset, .unset, .unset] [])) _
    refine XS.iloadN X0.here hx rfl (hb hby at_0) rfl ?_
    show Steps p.tables e below (s₁.setTop (mkF m 1 #[.val (.int (8 : Int32)), .val (.int p1), .unset, .unset, .unset, .unset] [(.int p1)])) _
    refine XS.iconst X0.here hx rfl (hb hby at_1) ?_
    show Steps p.tables e below (s₁.setTop (mkF m 2 #[.val (.int (8 : Int32)), .val (.int p1), .unset, .unset, .unset, .unset] [(.int (1 : Int32)), (.int p1)])) _
    refine XS.iand X0.here hx rfl (hb hby at_2) rfl ?_
    show Steps p.tables e below (s₁.setTop (mkF m 3 #[.val (.int (8 : Int32)), .val (.int p1), .unset, .unset, .unset, .unset] [(.int (p1 &&& (1 : Int32)))])) _
    refine XS.ifNo X0.here hx rfl (hb hby at_3) rfl ((if0 _ _).trans (feq (hs : ¬ ((p1 &&& (1 : Int32)) = (0 : Int32)))).1) ?_
    show Steps p.tables e below (s₁.setTop (mkF m 6 #[.val (.int (8 : Int32)), .val (.int p1), .unset, .unset, .unset, .unset] [])) _
    refine XS.iloadN X0.here hx rfl (hb hby at_6) rfl ?_
    show Steps p.tables e below (s₁.setTop (mkF m 7 #[.val (.int (8 : Int32)), .val (.int p1), .unset, .unset, .unset, .unset] [(.int (8 : Int32))])) _
    refine XS.goto X0.here hx rfl (pc0 := 7) (pc' := 16) rfl (hb hby at_7) (by decide) (by decide) ?_
    show Steps p.tables e below (s₁.setTop (mkF m 16 #[.val (.int (8 : Int32)), .val (.int p1), .unset, .unset, .unset, .unset] [(.int (8 : Int32))])) _
    refine XS.istoreN X0.here hx rfl (hb hby at_16) rfl (l' := #[.val (.int (8 : Int32)), .val (.int p1), .val (.int (8 : Int32)), .unset, .unset, .unset]) rfl ?_
    show Steps p.tables e below (s₁.setTop (mkF m 17 #[.val (.int (8 : Int32)), .val (.int p1), .val (.int (8 : Int32)), .unset, .unset, .unset] [])) _
    refine XS.iloadN X0.here hx rfl (hb hby at_17) rfl ?_
    show Steps p.tables e below (s₁.setTop (mkF m 18 #[.val (.int (8 : Int32)), .val (.int p1), .val (.int (8 : Int32)), .unset, .unset, .unset] [(.int (8 : Int32))])) _
    refine st1 _ ?_
    show Steps p.tables e below (T1.setTop (mkF m 21 #[.val (.int (8 : Int32)), .val (.int p1), .val (.int (8 : Int32)), .unset, .unset, .unset] [(.ref w_BYTE)])) _
    refine XS.astoreN X1.here hx rfl (hb hby at_21) rfl rfl (l' := #[.val (.int (8 : Int32)), .val (.int p1), .val (.int (8 : Int32)), .val (.ref w_BYTE), .unset, .unset]) rfl ?_
    show Steps p.tables e below (T1.setTop (mkF m 22 #[.val (.int (8 : Int32)), .val (.int p1), .val (.int (8 : Int32)), .val (.ref w_BYTE), .unset, .unset] [])) _
    refine XS.iloadN X1.here hx rfl (hb hby at_22) rfl ?_
    show Steps p.tables e below (T1.setTop (mkF m 23 #[.val (.int (8 : Int32)), .val (.int p1), .val (.int (8 : Int32)), .val (.ref w_BYTE), .unset, .unset] [(.int (8 : Int32))])) _
    refine XS.iconst X1.here hx rfl (hb hby at_23) ?_
    show Steps p.tables e below (T1.setTop (mkF m 24 #[.val (.int (8 : Int32)), .val (.int p1), .val (.int (8 : Int32)), .val (.ref w_BYTE), .unset, .unset] [(.int (2 : Int32)), (.int (8 : Int32))])) _
    refine XS.icmpNo X1.here hx rfl (hb hby at_24) rfl (feq (by decide : ¬ ((8 : Int32) = (2 : Int32)))).1 ?_
    show Steps p.tables e below (T1.setTop (mkF m 27 #[.val (.int (8 : Int32)), .val (.int p1), .val (.int (8 : Int32)), .val (.ref w_BYTE), .unset, .unset] [])) _
    refine XS.iloadN X1.here hx rfl (hb hby at_27) rfl ?_
    show Steps p.tables e below (T1.setTop (mkF m 28 #[.val (.int (8 : Int32)), .val (.int p1), .val (.int (8 : Int32)), .val (.ref w_BYTE), .unset, .unset] [(.int (8 : Int32))])) _
    refine XS.iconst X1.here hx rfl (hb hby at_28) ?_
    show Steps p.tables e below (T1.setTop (mkF m 29 #[.val (.int (8 : Int32)), .val (.int p1), .val (.int (8 : Int32)), .val (.ref w_BYTE), .unset, .unset] [(.int (4 : Int32)), (.int (8 : Int32))])) _
    refine XS.icmpNo X1.here hx rfl (hb hby at_29) rfl (flt (by decide : ¬ ((8 : Int32) < (4 : Int32)))).1 ?_
    show Steps p.tables e below (T1.setTop (mkF m 32 #[.val (.int (8 : Int32)), .val (.int p1), .val (.int (8 : Int32)), .val (.ref w_BYTE), .unset, .unset] [])) _
    refine XS.iloadN X1.here hx rfl (hb hby at_32) rfl ?_
    show Steps p.tables e below (T1.setTop (mkF m 33 #[.val (.int (8 : Int32)), .val (.int p1), .val (.int (8 : Int32)), .val (.ref w_BYTE), .unset, .unset] [(.int (8 : Int32))])) _
    refine XS.bipush X1.here hx rfl (hb hby at_33) ?_
    show Steps p.tables e below (T1.setTop (mkF m 35 #[.val (.int (8 : Int32)), .val (.int p1), .val (.int (8 : Int32)), .val (.ref w_BYTE), .unset, .unset] [(.int (11 : Int32)), (.int (8 : Int32))])) _
    refine XS.icmpNo X1.here hx rfl (hb hby at_35) rfl (flt (by decide : ¬ ((11 : Int32) < (8 : Int32)))).2.2.1 ?_
    show Steps p.tables e below (T1.setTop (mkF m 38 #[.val (.int (8 : Int32)), .val (.int p1), .val (.int (8 : Int32)), .val (.ref w_BYTE), .unset, .unset] [])) _
    refine XS.iconst X1.here hx rfl (hb hby at_38) ?_
    show Steps p.tables e below (T1.setTop (mkF m 39 #[.val (.int (8 : Int32)), .val (.int p1), .val (.int (8 : Int32)), .val (.ref w_BYTE), .unset, .unset] [(.int (1 : Int32))])) _
    refine XS.goto X1.here hx rfl (pc0 := 39) (pc' := 43) rfl (hb hby at_39) (by decide) (by decide) ?_
    show Steps p.tables e below (T1.setTop (mkF m 43 #[.val (.int (8 : Int32)), .val (.int p1), .val (.int (8 : Int32)), .val (.ref w_BYTE), .unset, .unset] [(.int (1 : Int32))])) _
    refine XS.istore X1.here hx rfl (hb hby at_43) rfl (l' := #[.val (.int (8 : Int32)), .val (.int p1), .val (.int (8 : Int32)), .val (.ref w_BYTE), .val (.int (1 : Int32)), .unset]) rfl ?_
    show Steps p.tables e below (T1.setTop (mkF m 45 #[.val (.int (8 : Int32)), .val (.int p1), .val (.int (8 : Int32)), .val (.ref w_BYTE), .val (.int (1 : Int32)), .unset] [])) _
    refine XS.iload X1.here hx rfl (hb hby at_45) rfl ?_
    show Steps p.tables e below (T1.setTop (mkF m 47 #[.val (.int (8 : Int32)), .val (.int p1), .val (.int (8 : Int32)), .val (.ref w_BYTE), .val (.int (1 : Int32)), .unset] [(.int (1 : Int32))])) _
    refine XS.ifYes X1.here hx rfl (pc0 := 47) (pc' := 60) rfl (hb hby at_47) rfl ((if0 _ _).trans (feq (by decide : ¬ ((1 : Int32) = (0 : Int32)))).2) (by decide) (by decide) ?_
    show Steps p.tables e below (T1.setTop (mkF m 60 #[.val (.int (8 : Int32)), .val (.int p1), .val (.int (8 : Int32)), .val (.ref w_BYTE), .val (.int (1 : Int32)), .unset] [])) _
    refine XS.aloadN X1.here hx rfl (hb hby at_60) rfl rfl ?_
    show Steps p.tables e below (T1.setTop (mkF m 61 #[.val (.int (8 : Int32)), .val (.int p1), .val (.int (8 : Int32)), .val (.ref w_BYTE), .val (.int (1 : Int32)), .unset] [(.ref w_BYTE)])) _
    refine XS.ifnonnullYes X1.here hx rfl (pc0 := 61) (pc' := 66) rfl (hb hby at_61) rfl (by decide) (by decide) ?_
    show Steps p.tables e below (T1.setTop (mkF m 66 #[.val (.int (8 : Int32)), .val (.int p1), .val (.int (8 : Int32)), .val (.ref w_BYTE), .val (.int (1 : Int32)), .unset] [])) _
    refine XS.iloadN X1.here hx rfl (hb hby at_66) rfl ?_
    show Steps p.tables e below (T1.setTop (mkF m 67 #[.val (.int (8 : Int32)), .val (.int p1), .val (.int (8 : Int32)), .val (.ref w_BYTE), .val (.int (1 : Int32)), .unset] [(.int (8 : Int32))])) _
    refine XS.iconst X1.here hx rfl (hb hby at_67) ?_
    show Steps p.tables e below (T1.setTop (mkF m 68 #[.val (.int (8 : Int32)), .val (.int p1), .val (.int (8 : Int32)), .val (.ref w_BYTE), .val (.int (1 : Int32)), .unset] [(.int (2 : Int32)), (.int (8 : Int32))])) _
    refine XS.icmpYes X1.here hx rfl (pc0 := 68) (pc' := 75) rfl (hb hby at_68) rfl (feq (by decide : ¬ ((8 : Int32) = (2 : Int32)))).2 (by decide) (by decide) ?_
    show Steps p.tables e below (T1.setTop (mkF m 75 #[.val (.int (8 : Int32)), .val (.int p1), .val (.int (8 : Int32)), .val (.ref w_BYTE), .val (.int (1 : Int32)), .unset] [])) _
    refine XS.iloadN X1.here hx rfl (hb hby at_75) rfl ?_
    show Steps p.tables e below (T1.setTop (mkF m 76 #[.val (.int (8 : Int32)), .val (.int p1), .val (.int (8 : Int32)), .val (.ref w_BYTE), .val (.int (1 : Int32)), .unset] [(.int (8 : Int32))])) _
    refine XS.iconst X1.here hx rfl (hb hby at_76) ?_
    show Steps p.tables e below (T1.setTop (mkF m 77 #[.val (.int (8 : Int32)), .val (.int p1), .val (.int (8 : Int32)), .val (.ref w_BYTE), .val (.int (1 : Int32)), .unset] [(.int (3 : Int32)), (.int (8 : Int32))])) _
    refine XS.isub X1.here hx rfl (hb hby at_77) rfl ?_
    show Steps p.tables e below (T1.setTop (mkF m 78 #[.val (.int (8 : Int32)), .val (.int p1), .val (.int (8 : Int32)), .val (.ref w_BYTE), .val (.int (1 : Int32)), .unset] [(.int ((8 : Int32) - (3 : Int32)))])) _
    rw [(show ((8 : Int32) - (3 : Int32)) = (5 : Int32) from by decide)]
    show Steps p.tables e below (T1.setTop (mkF m 78 #[.val (.int (8 : Int32)), .val (.int p1), .val (.int (8 : Int32)), .val (.ref w_BYTE), .val (.int (1 : Int32)), .unset] [(.int (5 : Int32))])) _
    refine XS.istore X1.here hx rfl (hb hby at_78) rfl (l' := #[.val (.int (8 : Int32)), .val (.int p1), .val (.int (8 : Int32)), .val (.ref w_BYTE), .val (.int (1 : Int32)), .val (.int (5 : Int32))]) rfl ?_
    show Steps p.tables e below (T1.setTop (mkF m 80 #[.val (.int (8 : Int32)), .val (.int p1), .val (.int (8 : Int32)), .val (.ref w_BYTE), .val (.int (1 : Int32)), .val (.int (5 : Int32))] [])) _
    refine XS.aloadN X1.here hx rfl (hb hby at_80) rfl rfl ?_
    show Steps p.tables e below (T1.setTop (mkF m 81 #[.val (.int (8 : Int32)), .val (.int p1), .val (.int (8 : Int32)), .val (.ref w_BYTE), .val (.int (1 : Int32)), .val (.int (5 : Int32))] [(.ref w_BYTE)])) _
    refine st2.trans ?_
    show Steps p.tables e below (T2.setTop (mkF m 84 #[.val (.int (8 : Int32)), .val (.int p1), .val (.int (8 : Int32)), .val (.ref w_BYTE), .val (.int (1 : Int32)), .val (.int (5 : Int32))] [(.int (5 : Int32))])) _
    refine XS.iload X2.here hx rfl (hb hby at_84) rfl ?_
    show Steps p.tables e below (T2.setTop (mkF m 86 #[.val (.int (8 : Int32)), .val (.int p1), .val (.int (8 : Int32)), .val (.ref w_BYTE), .val (.int (1 : Int32)), .val (.int (5 : Int32))] [(.int (5 : Int32)), (.int (5 : Int32))])) _
    refine XS.icmpNo X2.here hx rfl (hb hby at_86) rfl (teq (by decide : (5 : Int32) = (5 : Int32))).2 ?_
    show Steps p.tables e below (T2.setTop (mkF m 89 #[.val (.int (8 : Int32)), .val (.int p1), .val (.int (8 : Int32)), .val (.ref w_BYTE), .val (.int (1 : Int32)), .val (.int (5 : Int32))] [])) _
    refine XS.iconst X2.here hx rfl (hb hby at_89) ?_
    show Steps p.tables e below (T2.setTop (mkF m 90 #[.val (.int (8 : Int32)), .val (.int p1), .val (.int (8 : Int32)), .val (.ref w_BYTE), .val (.int (1 : Int32)), .val (.int (5 : Int32))] [(.int (1 : Int32))])) _
    refine XS.goto X2.here hx rfl (pc0 := 90) (pc' := 94) rfl (hb hby at_90) (by decide) (by decide) ?_
    show Steps p.tables e below (T2.setTop (mkF m 94 #[.val (.int (8 : Int32)), .val (.int p1), .val (.int (8 : Int32)), .val (.ref w_BYTE), .val (.int (1 : Int32)), .val (.int (5 : Int32))] [(.int (1 : Int32))])) _
    exact retOut X2 hx Bd.returns rfl (Or.inl ⟨rfl, Or.inr (Or.inl rfl), _, rfl⟩) (hb hby at_94) hr
  · exact ⟨rfl, N2⟩
theorem d1_92 : decode prog_56_method_4_code 92 = .ok (.getstatic 22, 3) := by decide +kernel
theorem d1_95 : decode prog_56_method_4_code 95 = .ok (.goto 16, 3) := by decide +kernel
set_option maxRecDepth 65536 in
set_option maxHeartbeats 40000000 in
theorem c1_6 (l : Launch) (Z : State) (a0 : Array Value) (hw : ∀ d ∈ tables_1, d.before a0 Z = true) (ws : List Jvm.Cond) (w_INT : Addr) (w_BYTE : Addr) (w_CHAR : Addr) (w_OBJECT : Addr) (w_FLOAT : Addr) (w_DOUBLE : Addr) (w_LONG : Addr) (w_SHORT : Addr) (w_BOOLEAN : Addr) (h0 : Heap) (n0 : Nat) (Z0 : n0 ≤ h0.size) (G : Glob Z h0 w_INT w_BYTE w_CHAR w_OBJECT w_FLOAT w_DOUBLE w_LONG w_SHORT w_BOOLEAN)  :
    MetFree l (⟨"com/example/refleash/refleash/hprof/BasicType", "of", "(I)Lcom/example/refleash/refleash/hprof/BasicType;"⟩ : MethodName) (head1 (Jvm.Cond.code (⟨"com/example/refleash/refleash/hprof/BasicType", "of", "(I)Lcom/example/refleash/refleash/hprof/BasicType;"⟩ : MethodName) prog_56_method_4_code 1 (some (.object "com/example/refleash/refleash/hprof/BasicType")) :: ws) ({ frames := 0, cells := 0, slots := 0, locals := 0 } : Room)) (fun a U => a = #[(.int (9 : Int32))] ∧ Z.Warmed39 U.vm ∧ U.heap = h0) (fun _ _ _ _ _ => True) (fun _ U o U' => ∃ v L, o = .returned v ∧ QR (some (.ref w_SHORT)) h0 n0 v U'.heap L ∧ FrameEnd U o U' L ({ frames := 0, cells := 0, slots := 0, locals := 0 } : Room).cells ({ frames := 0, cells := 0, slots := 0, locals := 0 } : Room).slots) := by
  refine MetFree.of_bodySF (plainFor_of_name pn_com_example_refleash_refleash_hprof_BasicType) hisR ?_
  intro p e s m args below meth c s₁ Bd hml0 hP hK
  obtain ⟨rfl, hZ, hh⟩ := hP
  have hx := Bd.exec
  have hby := Bd.bytes
  have hml : c.maxLocals = 1 := hml0
  have hown : s.vm.findClass "com/example/refleash/refleash/hprof/BasicType" = some m.cls := findClass_of_methodNamed Bd.named
  have X0 : Stand p l e ({ frames := 0, cells := 0, slots := 0, locals := 0 } : Room) s m #[(.int (9 : Int32))] below meth c s₁ [] 0 0 := Stand.of_body Bd
  have e0 : s₁.heap = h0 := by rw [← hh, Bd.state]; rfl
  have N0 := Fr.nil n0
  have pre0 : ∀ t, Steps p.tables e below (s₁.setTop (mkF m 0 #[.val (.int (9 : Int32))] [])) t → Steps p.tables e below (s₁.setTop (entryFrame m #[(.int (9 : Int32))] 1)) t := fun t k => castTop (ef_1_I m (9 : Int32)) k
  have G' := G
  obtain ⟨S_w_INT, E_w_INT, F_ordinal_w_INT, S_w_BYTE, E_w_BYTE, F_ordinal_w_BYTE, S_w_CHAR, E_w_CHAR, F_ordinal_w_CHAR, S_w_OBJECT, E_w_OBJECT, F_ordinal_w_OBJECT, S_w_FLOAT, E_w_FLOAT, F_ordinal_w_FLOAT, S_w_DOUBLE, E_w_DOUBLE, F_ordinal_w_DOUBLE, S_w_LONG, E_w_LONG, F_ordinal_w_LONG, S_w_SHORT, E_w_SHORT, F_ordinal_w_SHORT, S_w_BOOLEAN, E_w_BOOLEAN, F_ordinal_w_BOOLEAN⟩ := G'
  obtain ⟨T1, X1, e1, st1⟩ := getS2 X0 hx hZ hown (host := "") (Or.inl (hw _ (List.mem_of_getElem? (i := 27) rfl))) Via.refl e0 S_w_SHORT (g := (mkF m 92 #[.val (.int (9 : Int32))] [])) rfl (hb hby d1_92)
  obtain ⟨fs, hr, hrun, hended, hW, hsame⟩ := X1.leave (v := some (.ref w_SHORT)) (fun h => by rw [Bd.returns] at h; cases h)
  refine ⟨_, _, pre0 _ ?_, hrun, hended, _, _, rfl, ?_, ⟨_, rfl⟩, hW, hsame.mono (by decide) (by decide)⟩
  · show Steps p.tables e below (s₁.setTop (mkF m 0 #[.val (.int (9 : Int32))] [])) _
    refine XS.iloadN X0.here hx rfl (hb hby d1_0) rfl ?_
    show Steps p.tables e below (s₁.setTop (mkF m 1 #[.val (.int (9 : Int32))] [(.int (9 : Int32))])) _
    refine XS.tswIn X0.here hx rfl (pc0 := 1) (pc' := 92) rfl (hb hby d1_1) rfl (by decide) (o := 91) (by decide) (by decide) (by decide) ?_
    show Steps p.tables e below (s₁.setTop (mkF m 92 #[.val (.int (9 : Int32))] [])) _
    refine st1 _ ?_
    show Steps p.tables e below (T1.setTop (mkF m 95 #[.val (.int (9 : Int32))] [(.ref w_SHORT)])) _
    refine XS.goto X1.here hx rfl (pc0 := 95) (pc' := 111) rfl (hb hby d1_95) (by decide) (by decide) ?_
    show Steps p.tables e below (T1.setTop (mkF m 111 #[.val (.int (9 : Int32))] [(.ref w_SHORT)])) _
    exact retOut X1 hx Bd.returns rfl (Or.inr (Or.inr (Or.inr (Or.inr ⟨rfl, rfl, rfl⟩)))) (hb hby d1_111) hr
  · show QR _ h0 n0 _ T1.heap _
    rw [e1]
    exact ⟨rfl, N0, rfl⟩
set_option maxRecDepth 65536 in
set_option maxHeartbeats 40000000 in
theorem c2_6 (l : Launch) (Z : State) (a0 : Array Value) (hw : ∀ d ∈ tables_1, d.before a0 Z = true) (ws : List Jvm.Cond) (w_INT : Addr) (w_BYTE : Addr) (w_CHAR : Addr) (w_OBJECT : Addr) (w_FLOAT : Addr) (w_DOUBLE : Addr) (w_LONG : Addr) (w_SHORT : Addr) (w_BOOLEAN : Addr) (h0 : Heap) (n0 : Nat) (Z0 : n0 ≤ h0.size) (G : Glob Z h0 w_INT w_BYTE w_CHAR w_OBJECT w_FLOAT w_DOUBLE w_LONG w_SHORT w_BOOLEAN)  :
    MetFree l (⟨"java/lang/Enum", "ordinal", "()I"⟩ : MethodName) (head1 (Jvm.Cond.code (⟨"java/lang/Enum", "ordinal", "()I"⟩ : MethodName) jdk_37_method_2_code 1 (some .int) :: ws) ({ frames := 0, cells := 0, slots := 0, locals := 0 } : Room)) (fun a U => a = #[(.ref w_SHORT)] ∧ Z.Warmed39 U.vm ∧ U.heap = h0) (fun _ _ _ _ _ => True) (fun _ U o U' => ∃ v L, o = .returned v ∧ QR (some (.int (6 : Int32))) h0 n0 v U'.heap L ∧ FrameEnd U o U' L ({ frames := 0, cells := 0, slots := 0, locals := 0 } : Room).cells ({ frames := 0, cells := 0, slots := 0, locals := 0 } : Room).slots) := by
  refine MetFree.of_bodySF (plainFor_of_name pn_java_lang_Enum) hisR ?_
  intro p e s m args below meth c s₁ Bd hml0 hP hK
  obtain ⟨rfl, hZ, hh⟩ := hP
  have hx := Bd.exec
  have hby := Bd.bytes
  have hml : c.maxLocals = 1 := hml0
  have hown : s.vm.findClass "java/lang/Enum" = some m.cls := findClass_of_methodNamed Bd.named
  have X0 : Stand p l e ({ frames := 0, cells := 0, slots := 0, locals := 0 } : Room) s m #[(.ref w_SHORT)] below meth c s₁ [] 0 0 := Stand.of_body Bd
  have e0 : s₁.heap = h0 := by rw [← hh, Bd.state]; rfl
  have N0 := Fr.nil n0
  have pre0 : ∀ t, Steps p.tables e below (s₁.setTop (mkF m 0 #[.val (.ref w_SHORT)] [])) t → Steps p.tables e below (s₁.setTop (entryFrame m #[(.ref w_SHORT)] 1)) t := fun t k => castTop (ef_2_R m w_SHORT) k
  have G' := G
  obtain ⟨S_w_INT, E_w_INT, F_ordinal_w_INT, S_w_BYTE, E_w_BYTE, F_ordinal_w_BYTE, S_w_CHAR, E_w_CHAR, F_ordinal_w_CHAR, S_w_OBJECT, E_w_OBJECT, F_ordinal_w_OBJECT, S_w_FLOAT, E_w_FLOAT, F_ordinal_w_FLOAT, S_w_DOUBLE, E_w_DOUBLE, F_ordinal_w_DOUBLE, S_w_LONG, E_w_LONG, F_ordinal_w_LONG, S_w_SHORT, E_w_SHORT, F_ordinal_w_SHORT, S_w_BOOLEAN, E_w_BOOLEAN, F_ordinal_w_BOOLEAN⟩ := G'
  obtain ⟨T1, X1, e1, st1⟩ := getF X0 hx hZ hown (host := "") (Or.inl (hw _ (List.mem_of_getElem? (i := 13) rfl))) Via.refl e0 F_ordinal_w_SHORT (g := (mkF m 1 #[.val (.ref w_SHORT)] [(.ref w_SHORT)])) rfl rfl (hb hby d2_1)
  obtain ⟨fs, hr, hrun, hended, hW, hsame⟩ := X1.leave (v := some (.int (6 : Int32))) (fun h => by rw [Bd.returns] at h; cases h)
  refine ⟨_, _, pre0 _ ?_, hrun, hended, _, _, rfl, ?_, ⟨_, rfl⟩, hW, hsame.mono (by decide) (by decide)⟩
  · show Steps p.tables e below (s₁.setTop (mkF m 0 #[.val (.ref w_SHORT)] [])) _
    refine XS.aloadN X0.here hx rfl (hb hby d2_0) rfl rfl ?_
    show Steps p.tables e below (s₁.setTop (mkF m 1 #[.val (.ref w_SHORT)] [(.ref w_SHORT)])) _
    refine st1 _ ?_
    show Steps p.tables e below (T1.setTop (mkF m 4 #[.val (.ref w_SHORT)] [(.int (6 : Int32))])) _
    exact retOut X1 hx Bd.returns rfl (Or.inl ⟨rfl, Or.inl rfl, _, rfl⟩) (hb hby d2_4) hr
  · show QR _ h0 n0 _ T1.heap _
    rw [e1]
    exact ⟨rfl, N0, rfl⟩
set_option maxRecDepth 65536 in
set_option maxHeartbeats 40000000 in
theorem raw_9 (l : Launch) (Z : State) (a0 : Array Value) (hw : ∀ d ∈ tables_1, d.before a0 Z = true) (ws : List Jvm.Cond) (w_INT : Addr) (w_BYTE : Addr) (w_CHAR : Addr) (w_OBJECT : Addr) (w_FLOAT : Addr) (w_DOUBLE : Addr) (w_LONG : Addr) (w_SHORT : Addr) (w_BOOLEAN : Addr) (h0 : Heap) (n0 : Nat) (Z0 : n0 ≤ h0.size) (G : Glob Z h0 w_INT w_BYTE w_CHAR w_OBJECT w_FLOAT w_DOUBLE w_LONG w_SHORT w_BOOLEAN) (p1 : Int32) (hs : ¬ ((p1 &&& (1 : Int32)) = (0 : Int32))) :
    MetFree l x (head1 (Jvm.Cond.code x code maxLocals ret :: ws) room_1) (fun a U => a = #[(.int (9 : Int32)), (.int p1)] ∧ Z.Warmed39 U.vm ∧ U.heap = h0) (fun _ _ _ _ _ => True) (fun _ U o U' => ∃ v L, o = .returned v ∧ QL (some (.int (1 : Int32))) h0 n0 v U'.heap L ∧ FrameEnd U o U' L room_1.cells room_1.slots) := by
  refine MetFree.of_bodySF (plainFor_of_name pn_com_example_refleash_refleash_hprof_BasicTypeOfPinLaw) hisR ?_
  intro p e s m args below meth c s₁ Bd hml0 hP hK
  obtain ⟨rfl, hZ, hh⟩ := hP
  have hx := Bd.exec
  have hby := Bd.bytes
  have hml : c.maxLocals = 6 := hml0
  have hown : s.vm.findClass "com/example/refleash/refleash/hprof/BasicTypeOfPinLaw" = some m.cls := findClass_of_methodNamed Bd.named
  have X0 : Stand p l e room_1 s m #[(.int (9 : Int32)), (.int p1)] below meth c s₁ [] 0 0 := Stand.of_body Bd
  have e0 : s₁.heap = h0 := by rw [← hh, Bd.state]; rfl
  have N0 := Fr.nil n0
  have pre0 : ∀ t, Steps p.tables e below (s₁.setTop (mkF m 0 #[.val (.int (9 : Int32)), .val (.int p1), .unset, .unset, .unset, .unset] [])) t → Steps p.tables e below (s₁.setTop (entryFrame m #[(.int (9 : Int32)), (.int p1)] maxLocals)) t := fun t k => castTop (ef_0_II m (9 : Int32) p1) k
  have G' := G
  obtain ⟨S_w_INT, E_w_INT, F_ordinal_w_INT, S_w_BYTE, E_w_BYTE, F_ordinal_w_BYTE, S_w_CHAR, E_w_CHAR, F_ordinal_w_CHAR, S_w_OBJECT, E_w_OBJECT, F_ordinal_w_OBJECT, S_w_FLOAT, E_w_FLOAT, F_ordinal_w_FLOAT, S_w_DOUBLE, E_w_DOUBLE, F_ordinal_w_DOUBLE, S_w_LONG, E_w_LONG, F_ordinal_w_LONG, S_w_SHORT, E_w_SHORT, F_ordinal_w_SHORT, S_w_BOOLEAN, E_w_BOOLEAN, F_ordinal_w_BOOLEAN⟩ := G'
  obtain ⟨_, _, ⟨T1, L1, k1, n1⟩, -, X1, ⟨Lc1, hQ1, l1, y1, z1⟩, st1⟩ := Jvm.LawKit.callS X0 hx (y := (⟨"com/example/refleash/refleash/hprof/BasicType", "of", "(I)Lcom/example/refleash/refleash/hprof/BasicType;"⟩ : MethodName)) hown (mvT hZ (hw _ (List.mem_of_getElem? (i := 0) rfl))) (mvT hZ (hw _ (List.mem_of_getElem? (i := 1) rfl))) (mvT hZ (hw _ (List.mem_of_getElem? (i := 2) rfl))) (mvT hZ (hw _ (List.mem_of_getElem? (i := 3) rfl))) (by decide) (backOf (W := 0) (c1_6 l Z a0 hw [] w_INT w_BYTE w_CHAR w_OBJECT w_FLOAT w_DOUBLE w_LONG w_SHORT w_BOOLEAN h0 n0 Z0 G) hZ (hw _ (List.mem_of_getElem? (i := 3) rfl)) (hw _ (List.mem_of_getElem? (i := 2) rfl)) (by decide) (by decide)) (g := (mkF m 18 #[.val (.int (9 : Int32)), .val (.int p1), .val (.int (9 : Int32)), .unset, .unset, .unset] [(.int (9 : Int32))])) rfl (by rw [hml]; rfl) (argsL := [(.int (9 : Int32))]) (rest := []) (lenOf pd__I_Lcom_example_refleash_refleash_hprof_BasicType_ rfl) rfl (by show 2 * 0 + _ ≤ _; exact Nat.le_of_eq rfl) (hb hby at_18) (fun _ _ => ⟨rfl, e0, (by decide : 0 + 0 ≤ _), (by decide : 0 + 0 ≤ _)⟩)
  dsimp only [Pt.U, Pt.locs, Pt.cells, Pt.slots] at X1 l1 y1 z1 st1 hQ1
  subst l1 y1 z1
  obtain ⟨rfl, N1q, e1⟩ := hQ1
  have N1 := Fr.app N0 N1q
  obtain ⟨cq2, kq2, q2a, q2b, q2c⟩ := isOf hZ e1 E_w_SHORT
  obtain ⟨_, _, ⟨T2, L2, k2, n2⟩, -, X2, ⟨Lc2, hQ2, l2, y2, z2⟩, st2⟩ := X1.virtualBackUp hx (x := (⟨"com/example/refleash/refleash/hprof/BasicType", "ordinal", "()I"⟩ : MethodName)) (y := (⟨"java/lang/Enum", "ordinal", "()I"⟩ : MethodName)) hown (mvT hZ (hw _ (List.mem_of_getElem? (i := 6) rfl))) (mvT hZ (hw _ (List.mem_of_getElem? (i := 7) rfl))) (mvT hZ (hw _ (List.mem_of_getElem? (i := 8) rfl))) (by decide) (mvT hZ (hw _ (List.mem_of_getElem? (i := 10) rfl))) (mvT hZ (hw _ (List.mem_of_getElem? (i := 9) rfl))) (backOf (W := 0) (c2_6 l Z a0 hw [] w_INT w_BYTE w_CHAR w_OBJECT w_FLOAT w_DOUBLE w_LONG w_SHORT w_BOOLEAN h0 n0 Z0 G) hZ (hw _ (List.mem_of_getElem? (i := 12) rfl)) (hw _ (List.mem_of_getElem? (i := 11) rfl)) (by decide) (by decide)) q2a q2c (g := (mkF m 81 #[.val (.int (9 : Int32)), .val (.int p1), .val (.int (9 : Int32)), .val (.ref w_SHORT), .val (.int (1 : Int32)), .val (.int (6 : Int32))] [(.ref w_SHORT)])) rfl (by rw [hml]; rfl) (Steps.refl _) (argsL := []) (rest := []) (lenOf pd___I rfl) rfl (by show 2 * 0 + _ ≤ _; exact Nat.le_of_eq rfl) (hb hby at_81) (fun _ _ => ⟨rfl, e1, (by decide : 0 + 0 ≤ _), (by decide : 0 + 0 ≤ _)⟩)
  dsimp only [Pt.U, Pt.locs, Pt.cells, Pt.slots] at X2 l2 y2 z2 st2 hQ2
  subst l2 y2 z2
  obtain ⟨rfl, N2q, e2⟩ := hQ2
  have N2 := Fr.app N1 N2q
  obtain ⟨fs, hr, hrun, hended, hW, hsame⟩ := X2.leave (v := some (.int (1 : Int32))) (fun h => by rw [Bd.returns] at h; cases h)
  refine ⟨_, _, pre0 _ ?_, hrun, hended, _, _, rfl, ?_, ⟨_, rfl⟩, hW, hsame.mono (by decide) (by decide)⟩
  · show Steps p.tables e below (s₁.setTop (mkF m 0 #[.val (.int (9 : Int32)), .val (.int p1), .unset, .unset, .unset, .unset] [])) _
    refine XS.iloadN X0.here hx rfl (hb hby at_0) rfl ?_
    show Steps p.tables e below (s₁.setTop (mkF m 1 #[.val (.int (9 : Int32)), .val (.int p1), .unset, .unset, .unset, .unset] [(.int p1)])) _
    refine XS.iconst X0.here hx rfl (hb hby at_1) ?_
    show Steps p.tables e below (s₁.setTop (mkF m 2 #[.val (.int (9 : Int32)), .val (.int p1), .unset, .unset, .unset, .unset] [(.int (1 : Int32)), (.int p1)])) _
    refine XS.iand X0.here hx rfl (hb hby at_2) rfl ?_
    show Steps p.tables e below (s₁.setTop (mkF m 3 #[.val (.int (9 : Int32)), .val (.int p1), .unset, .unset, .unset, .unset] [(.int (p1 &&& (1 : Int32)))])) _
    refine XS.ifNo X0.here hx rfl (hb hby at_3) rfl ((if0 _ _).trans (feq (hs : ¬ ((p1 &&& (1 : Int32)) = (0 : Int32)))).1) ?_
    show Steps p.tables e below (s₁.setTop (mkF m 6 #[.val (.int (9 : Int32)), .val (.int p1), .unset, .unset, .unset, .unset] [])) _
    refine XS.iloadN X0.here hx rfl (hb hby at_6) rfl ?_
    show Steps p.tables e below (s₁.setTop (mkF m 7 #[.val (.int (9 : Int32)), .val (.int p1), .unset, .unset, .unset, .unset] [(.int (9 : Int32))])) _
    refine XS.goto X0.here hx rfl (pc0 := 7) (pc' := 16) rfl (hb hby at_7) (by decide) (by decide) ?_
    show Steps p.tables e below (s₁.setTop (mkF m 16 #[.val (.int (9 : Int32)), .val (.int p1), .unset, .unset, .unset, .unset] [(.int (9 : Int32))])) _
    refine XS.istoreN X0.here hx rfl (hb hby at_16) rfl (l' := #[.val (.int (9 : Int32)), .val (.int p1), .val (.int (9 : Int32)), .unset, .unset, .unset]) rfl ?_
    show Steps p.tables e below (s₁.setTop (mkF m 17 #[.val (.int (9 : Int32)), .val (.int p1), .val (.int (9 : Int32)), .unset, .unset, .unset] [])) _
    refine XS.iloadN X0.here hx rfl (hb hby at_17) rfl ?_
    show Steps p.tables e below (s₁.setTop (mkF m 18 #[.val (.int (9 : Int32)), .val (.int p1), .val (.int (9 : Int32)), .unset, .unset, .unset] [(.int (9 : Int32))])) _
    refine st1 _ ?_
    show Steps p.tables e below (T1.setTop (mkF m 21 #[.val (.int (9 : Int32)), .val (.int p1), .val (.int (9 : Int32)), .unset, .unset, .unset] [(.ref w_SHORT)])) _
    refine XS.astoreN X1.here hx rfl (hb hby at_21) rfl rfl (l' := #[.val (.int (9 : Int32)), .val (.int p1), .val (.int (9 : Int32)), .val (.ref w_SHORT), .unset, .unset]) rfl ?_
    show Steps p.tables e below (T1.setTop (mkF m 22 #[.val (.int (9 : Int32)), .val (.int p1), .val (.int (9 : Int32)), .val (.ref w_SHORT), .unset, .unset] [])) _
    refine XS.iloadN X1.here hx rfl (hb hby at_22) rfl ?_
    show Steps p.tables e below (T1.setTop (mkF m 23 #[.val (.int (9 : Int32)), .val (.int p1), .val (.int (9 : Int32)), .val (.ref w_SHORT), .unset, .unset] [(.int (9 : Int32))])) _
    refine XS.iconst X1.here hx rfl (hb hby at_23) ?_
    show Steps p.tables e below (T1.setTop (mkF m 24 #[.val (.int (9 : Int32)), .val (.int p1), .val (.int (9 : Int32)), .val (.ref w_SHORT), .unset, .unset] [(.int (2 : Int32)), (.int (9 : Int32))])) _
    refine XS.icmpNo X1.here hx rfl (hb hby at_24) rfl (feq (by decide : ¬ ((9 : Int32) = (2 : Int32)))).1 ?_
    show Steps p.tables e below (T1.setTop (mkF m 27 #[.val (.int (9 : Int32)), .val (.int p1), .val (.int (9 : Int32)), .val (.ref w_SHORT), .unset, .unset] [])) _
    refine XS.iloadN X1.here hx rfl (hb hby at_27) rfl ?_
    show Steps p.tables e below (T1.setTop (mkF m 28 #[.val (.int (9 : Int32)), .val (.int p1), .val (.int (9 : Int32)), .val (.ref w_SHORT), .unset, .unset] [(.int (9 : Int32))])) _
    refine XS.iconst X1.here hx rfl (hb hby at_28) ?_
    show Steps p.tables e below (T1.setTop (mkF m 29 #[.val (.int (9 : Int32)), .val (.int p1), .val (.int (9 : Int32)), .val (.ref w_SHORT), .unset, .unset] [(.int (4 : Int32)), (.int (9 : Int32))])) _
    refine XS.icmpNo X1.here hx rfl (hb hby at_29) rfl (flt (by decide : ¬ ((9 : Int32) < (4 : Int32)))).1 ?_
    show Steps p.tables e below (T1.setTop (mkF m 32 #[.val (.int (9 : Int32)), .val (.int p1), .val (.int (9 : Int32)), .val (.ref w_SHORT), .unset, .unset] [])) _
    refine XS.iloadN X1.here hx rfl (hb hby at_32) rfl ?_
    show Steps p.tables e below (T1.setTop (mkF m 33 #[.val (.int (9 : Int32)), .val (.int p1), .val (.int (9 : Int32)), .val (.ref w_SHORT), .unset, .unset] [(.int (9 : Int32))])) _
    refine XS.bipush X1.here hx rfl (hb hby at_33) ?_
    show Steps p.tables e below (T1.setTop (mkF m 35 #[.val (.int (9 : Int32)), .val (.int p1), .val (.int (9 : Int32)), .val (.ref w_SHORT), .unset, .unset] [(.int (11 : Int32)), (.int (9 : Int32))])) _
    refine XS.icmpNo X1.here hx rfl (hb hby at_35) rfl (flt (by decide : ¬ ((11 : Int32) < (9 : Int32)))).2.2.1 ?_
    show Steps p.tables e below (T1.setTop (mkF m 38 #[.val (.int (9 : Int32)), .val (.int p1), .val (.int (9 : Int32)), .val (.ref w_SHORT), .unset, .unset] [])) _
    refine XS.iconst X1.here hx rfl (hb hby at_38) ?_
    show Steps p.tables e below (T1.setTop (mkF m 39 #[.val (.int (9 : Int32)), .val (.int p1), .val (.int (9 : Int32)), .val (.ref w_SHORT), .unset, .unset] [(.int (1 : Int32))])) _
    refine XS.goto X1.here hx rfl (pc0 := 39) (pc' := 43) rfl (hb hby at_39) (by decide) (by decide) ?_
    show Steps p.tables e below (T1.setTop (mkF m 43 #[.val (.int (9 : Int32)), .val (.int p1), .val (.int (9 : Int32)), .val (.ref w_SHORT), .unset, .unset] [(.int (1 : Int32))])) _
    refine XS.istore X1.here hx rfl (hb hby at_43) rfl (l' := #[.val (.int (9 : Int32)), .val (.int p1), .val (.int (9 : Int32)), .val (.ref w_SHORT), .val (.int (1 : Int32)), .unset]) rfl ?_
    show Steps p.tables e below (T1.setTop (mkF m 45 #[.val (.int (9 : Int32)), .val (.int p1), .val (.int (9 : Int32)), .val (.ref w_SHORT), .val (.int (1 : Int32)), .unset] [])) _
    refine XS.iload X1.here hx rfl (hb hby at_45) rfl ?_
    show Steps p.tables e below (T1.setTop (mkF m 47 #[.val (.int (9 : Int32)), .val (.int p1), .val (.int (9 : Int32)), .val (.ref w_SHORT), .val (.int (1 : Int32)), .unset] [(.int (1 : Int32))])) _
    refine XS.ifYes X1.here hx rfl (pc0 := 47) (pc' := 60) rfl (hb hby at_47) rfl ((if0 _ _).trans (feq (by decide : ¬ ((1 : Int32) = (0 : Int32)))).2) (by decide) (by decide) ?_
    show Steps p.tables e below (T1.setTop (mkF m 60 #[.val (.int (9 : Int32)), .val (.int p1), .val (.int (9 : Int32)), .val (.ref w_SHORT), .val (.int (1 : Int32)), .unset] [])) _
    refine XS.aloadN X1.here hx rfl (hb hby at_60) rfl rfl ?_
    show Steps p.tables e below (T1.setTop (mkF m 61 #[.val (.int (9 : Int32)), .val (.int p1), .val (.int (9 : Int32)), .val (.ref w_SHORT), .val (.int (1 : Int32)), .unset] [(.ref w_SHORT)])) _
    refine XS.ifnonnullYes X1.here hx rfl (pc0 := 61) (pc' := 66) rfl (hb hby at_61) rfl (by decide) (by decide) ?_
    show Steps p.tables e below (T1.setTop (mkF m 66 #[.val (.int (9 : Int32)), .val (.int p1), .val (.int (9 : Int32)), .val (.ref w_SHORT), .val (.int (1 : Int32)), .unset] [])) _
    refine XS.iloadN X1.here hx rfl (hb hby at_66) rfl ?_
    show Steps p.tables e below (T1.setTop (mkF m 67 #[.val (.int (9 : Int32)), .val (.int p1), .val (.int (9 : Int32)), .val (.ref w_SHORT), .val (.int (1 : Int32)), .unset] [(.int (9 : Int32))])) _
    refine XS.iconst X1.here hx rfl (hb hby at_67) ?_
    show Steps p.tables e below (T1.setTop (mkF m 68 #[.val (.int (9 : Int32)), .val (.int p1), .val (.int (9 : Int32)), .val (.ref w_SHORT), .val (.int (1 : Int32)), .unset] [(.int (2 : Int32)), (.int (9 : Int32))])) _
    refine XS.icmpYes X1.here hx rfl (pc0 := 68) (pc' := 75) rfl (hb hby at_68) rfl (feq (by decide : ¬ ((9 : Int32) = (2 : Int32)))).2 (by decide) (by decide) ?_
    show Steps p.tables e below (T1.setTop (mkF m 75 #[.val (.int (9 : Int32)), .val (.int p1), .val (.int (9 : Int32)), .val (.ref w_SHORT), .val (.int (1 : Int32)), .unset] [])) _
    refine XS.iloadN X1.here hx rfl (hb hby at_75) rfl ?_
    show Steps p.tables e below (T1.setTop (mkF m 76 #[.val (.int (9 : Int32)), .val (.int p1), .val (.int (9 : Int32)), .val (.ref w_SHORT), .val (.int (1 : Int32)), .unset] [(.int (9 : Int32))])) _
    refine XS.iconst X1.here hx rfl (hb hby at_76) ?_
    show Steps p.tables e below (T1.setTop (mkF m 77 #[.val (.int (9 : Int32)), .val (.int p1), .val (.int (9 : Int32)), .val (.ref w_SHORT), .val (.int (1 : Int32)), .unset] [(.int (3 : Int32)), (.int (9 : Int32))])) _
    refine XS.isub X1.here hx rfl (hb hby at_77) rfl ?_
    show Steps p.tables e below (T1.setTop (mkF m 78 #[.val (.int (9 : Int32)), .val (.int p1), .val (.int (9 : Int32)), .val (.ref w_SHORT), .val (.int (1 : Int32)), .unset] [(.int ((9 : Int32) - (3 : Int32)))])) _
    rw [(show ((9 : Int32) - (3 : Int32)) = (6 : Int32) from by decide)]
    show Steps p.tables e below (T1.setTop (mkF m 78 #[.val (.int (9 : Int32)), .val (.int p1), .val (.int (9 : Int32)), .val (.ref w_SHORT), .val (.int (1 : Int32)), .unset] [(.int (6 : Int32))])) _
    refine XS.istore X1.here hx rfl (hb hby at_78) rfl (l' := #[.val (.int (9 : Int32)), .val (.int p1), .val (.int (9 : Int32)), .val (.ref w_SHORT), .val (.int (1 : Int32)), .val (.int (6 : Int32))]) rfl ?_
    show Steps p.tables e below (T1.setTop (mkF m 80 #[.val (.int (9 : Int32)), .val (.int p1), .val (.int (9 : Int32)), .val (.ref w_SHORT), .val (.int (1 : Int32)), .val (.int (6 : Int32))] [])) _
    refine XS.aloadN X1.here hx rfl (hb hby at_80) rfl rfl ?_
    show Steps p.tables e below (T1.setTop (mkF m 81 #[.val (.int (9 : Int32)), .val (.int p1), .val (.int (9 : Int32)), .val (.ref w_SHORT), .val (.int (1 : Int32)), .val (.int (6 : Int32))] [(.ref w_SHORT)])) _
    refine st2.trans ?_
    show Steps p.tables e below (T2.setTop (mkF m 84 #[.val (.int (9 : Int32)), .val (.int p1), .val (.int (9 : Int32)), .val (.ref w_SHORT), .val (.int (1 : Int32)), .val (.int (6 : Int32))] [(.int (6 : Int32))])) _
    refine XS.iload X2.here hx rfl (hb hby at_84) rfl ?_
    show Steps p.tables e below (T2.setTop (mkF m 86 #[.val (.int (9 : Int32)), .val (.int p1), .val (.int (9 : Int32)), .val (.ref w_SHORT), .val (.int (1 : Int32)), .val (.int (6 : Int32))] [(.int (6 : Int32)), (.int (6 : Int32))])) _
    refine XS.icmpNo X2.here hx rfl (hb hby at_86) rfl (teq (by decide : (6 : Int32) = (6 : Int32))).2 ?_
    show Steps p.tables e below (T2.setTop (mkF m 89 #[.val (.int (9 : Int32)), .val (.int p1), .val (.int (9 : Int32)), .val (.ref w_SHORT), .val (.int (1 : Int32)), .val (.int (6 : Int32))] [])) _
    refine XS.iconst X2.here hx rfl (hb hby at_89) ?_
    show Steps p.tables e below (T2.setTop (mkF m 90 #[.val (.int (9 : Int32)), .val (.int p1), .val (.int (9 : Int32)), .val (.ref w_SHORT), .val (.int (1 : Int32)), .val (.int (6 : Int32))] [(.int (1 : Int32))])) _
    refine XS.goto X2.here hx rfl (pc0 := 90) (pc' := 94) rfl (hb hby at_90) (by decide) (by decide) ?_
    show Steps p.tables e below (T2.setTop (mkF m 94 #[.val (.int (9 : Int32)), .val (.int p1), .val (.int (9 : Int32)), .val (.ref w_SHORT), .val (.int (1 : Int32)), .val (.int (6 : Int32))] [(.int (1 : Int32))])) _
    exact retOut X2 hx Bd.returns rfl (Or.inl ⟨rfl, Or.inr (Or.inl rfl), _, rfl⟩) (hb hby at_94) hr
  · exact ⟨rfl, N2⟩
theorem d1_98 : decode prog_56_method_4_code 98 = .ok (.getstatic 25, 3) := by decide +kernel
theorem d1_101 : decode prog_56_method_4_code 101 = .ok (.goto 10, 3) := by decide +kernel
set_option maxRecDepth 65536 in
set_option maxHeartbeats 40000000 in
theorem c1_7 (l : Launch) (Z : State) (a0 : Array Value) (hw : ∀ d ∈ tables_1, d.before a0 Z = true) (ws : List Jvm.Cond) (w_INT : Addr) (w_BYTE : Addr) (w_CHAR : Addr) (w_OBJECT : Addr) (w_FLOAT : Addr) (w_DOUBLE : Addr) (w_LONG : Addr) (w_SHORT : Addr) (w_BOOLEAN : Addr) (h0 : Heap) (n0 : Nat) (Z0 : n0 ≤ h0.size) (G : Glob Z h0 w_INT w_BYTE w_CHAR w_OBJECT w_FLOAT w_DOUBLE w_LONG w_SHORT w_BOOLEAN)  :
    MetFree l (⟨"com/example/refleash/refleash/hprof/BasicType", "of", "(I)Lcom/example/refleash/refleash/hprof/BasicType;"⟩ : MethodName) (head1 (Jvm.Cond.code (⟨"com/example/refleash/refleash/hprof/BasicType", "of", "(I)Lcom/example/refleash/refleash/hprof/BasicType;"⟩ : MethodName) prog_56_method_4_code 1 (some (.object "com/example/refleash/refleash/hprof/BasicType")) :: ws) ({ frames := 0, cells := 0, slots := 0, locals := 0 } : Room)) (fun a U => a = #[(.int (10 : Int32))] ∧ Z.Warmed39 U.vm ∧ U.heap = h0) (fun _ _ _ _ _ => True) (fun _ U o U' => ∃ v L, o = .returned v ∧ QR (some (.ref w_INT)) h0 n0 v U'.heap L ∧ FrameEnd U o U' L ({ frames := 0, cells := 0, slots := 0, locals := 0 } : Room).cells ({ frames := 0, cells := 0, slots := 0, locals := 0 } : Room).slots) := by
  refine MetFree.of_bodySF (plainFor_of_name pn_com_example_refleash_refleash_hprof_BasicType) hisR ?_
  intro p e s m args below meth c s₁ Bd hml0 hP hK
  obtain ⟨rfl, hZ, hh⟩ := hP
  have hx := Bd.exec
  have hby := Bd.bytes
  have hml : c.maxLocals = 1 := hml0
  have hown : s.vm.findClass "com/example/refleash/refleash/hprof/BasicType" = some m.cls := findClass_of_methodNamed Bd.named
  have X0 : Stand p l e ({ frames := 0, cells := 0, slots := 0, locals := 0 } : Room) s m #[(.int (10 : Int32))] below meth c s₁ [] 0 0 := Stand.of_body Bd
  have e0 : s₁.heap = h0 := by rw [← hh, Bd.state]; rfl
  have N0 := Fr.nil n0
  have pre0 : ∀ t, Steps p.tables e below (s₁.setTop (mkF m 0 #[.val (.int (10 : Int32))] [])) t → Steps p.tables e below (s₁.setTop (entryFrame m #[(.int (10 : Int32))] 1)) t := fun t k => castTop (ef_1_I m (10 : Int32)) k
  have G' := G
  obtain ⟨S_w_INT, E_w_INT, F_ordinal_w_INT, S_w_BYTE, E_w_BYTE, F_ordinal_w_BYTE, S_w_CHAR, E_w_CHAR, F_ordinal_w_CHAR, S_w_OBJECT, E_w_OBJECT, F_ordinal_w_OBJECT, S_w_FLOAT, E_w_FLOAT, F_ordinal_w_FLOAT, S_w_DOUBLE, E_w_DOUBLE, F_ordinal_w_DOUBLE, S_w_LONG, E_w_LONG, F_ordinal_w_LONG, S_w_SHORT, E_w_SHORT, F_ordinal_w_SHORT, S_w_BOOLEAN, E_w_BOOLEAN, F_ordinal_w_BOOLEAN⟩ := G'
  obtain ⟨T1, X1, e1, st1⟩ := getS2 X0 hx hZ hown (host := "") (Or.inl (hw _ (List.mem_of_getElem? (i := 4) rfl))) Via.refl e0 S_w_INT (g := (mkF m 98 #[.val (.int (10 : Int32))] [])) rfl (hb hby d1_98)
  obtain ⟨fs, hr, hrun, hended, hW, hsame⟩ := X1.leave (v := some (.ref w_INT)) (fun h => by rw [Bd.returns] at h; cases h)
  refine ⟨_, _, pre0 _ ?_, hrun, hended, _, _, rfl, ?_, ⟨_, rfl⟩, hW, hsame.mono (by decide) (by decide)⟩
  · show Steps p.tables e below (s₁.setTop (mkF m 0 #[.val (.int (10 : Int32))] [])) _
    refine XS.iloadN X0.here hx rfl (hb hby d1_0) rfl ?_
    show Steps p.tables e below (s₁.setTop (mkF m 1 #[.val (.int (10 : Int32))] [(.int (10 : Int32))])) _
    refine XS.tswIn X0.here hx rfl (pc0 := 1) (pc' := 98) rfl (hb hby d1_1) rfl (by decide) (o := 97) (by decide) (by decide) (by decide) ?_
    show Steps p.tables e below (s₁.setTop (mkF m 98 #[.val (.int (10 : Int32))] [])) _
    refine st1 _ ?_
    show Steps p.tables e below (T1.setTop (mkF m 101 #[.val (.int (10 : Int32))] [(.ref w_INT)])) _
    refine XS.goto X1.here hx rfl (pc0 := 101) (pc' := 111) rfl (hb hby d1_101) (by decide) (by decide) ?_
    show Steps p.tables e below (T1.setTop (mkF m 111 #[.val (.int (10 : Int32))] [(.ref w_INT)])) _
    exact retOut X1 hx Bd.returns rfl (Or.inr (Or.inr (Or.inr (Or.inr ⟨rfl, rfl, rfl⟩)))) (hb hby d1_111) hr
  · show QR _ h0 n0 _ T1.heap _
    rw [e1]
    exact ⟨rfl, N0, rfl⟩
set_option maxRecDepth 65536 in
set_option maxHeartbeats 40000000 in
theorem c2_7 (l : Launch) (Z : State) (a0 : Array Value) (hw : ∀ d ∈ tables_1, d.before a0 Z = true) (ws : List Jvm.Cond) (w_INT : Addr) (w_BYTE : Addr) (w_CHAR : Addr) (w_OBJECT : Addr) (w_FLOAT : Addr) (w_DOUBLE : Addr) (w_LONG : Addr) (w_SHORT : Addr) (w_BOOLEAN : Addr) (h0 : Heap) (n0 : Nat) (Z0 : n0 ≤ h0.size) (G : Glob Z h0 w_INT w_BYTE w_CHAR w_OBJECT w_FLOAT w_DOUBLE w_LONG w_SHORT w_BOOLEAN)  :
    MetFree l (⟨"java/lang/Enum", "ordinal", "()I"⟩ : MethodName) (head1 (Jvm.Cond.code (⟨"java/lang/Enum", "ordinal", "()I"⟩ : MethodName) jdk_37_method_2_code 1 (some .int) :: ws) ({ frames := 0, cells := 0, slots := 0, locals := 0 } : Room)) (fun a U => a = #[(.ref w_INT)] ∧ Z.Warmed39 U.vm ∧ U.heap = h0) (fun _ _ _ _ _ => True) (fun _ U o U' => ∃ v L, o = .returned v ∧ QR (some (.int (7 : Int32))) h0 n0 v U'.heap L ∧ FrameEnd U o U' L ({ frames := 0, cells := 0, slots := 0, locals := 0 } : Room).cells ({ frames := 0, cells := 0, slots := 0, locals := 0 } : Room).slots) := by
  refine MetFree.of_bodySF (plainFor_of_name pn_java_lang_Enum) hisR ?_
  intro p e s m args below meth c s₁ Bd hml0 hP hK
  obtain ⟨rfl, hZ, hh⟩ := hP
  have hx := Bd.exec
  have hby := Bd.bytes
  have hml : c.maxLocals = 1 := hml0
  have hown : s.vm.findClass "java/lang/Enum" = some m.cls := findClass_of_methodNamed Bd.named
  have X0 : Stand p l e ({ frames := 0, cells := 0, slots := 0, locals := 0 } : Room) s m #[(.ref w_INT)] below meth c s₁ [] 0 0 := Stand.of_body Bd
  have e0 : s₁.heap = h0 := by rw [← hh, Bd.state]; rfl
  have N0 := Fr.nil n0
  have pre0 : ∀ t, Steps p.tables e below (s₁.setTop (mkF m 0 #[.val (.ref w_INT)] [])) t → Steps p.tables e below (s₁.setTop (entryFrame m #[(.ref w_INT)] 1)) t := fun t k => castTop (ef_2_R m w_INT) k
  have G' := G
  obtain ⟨S_w_INT, E_w_INT, F_ordinal_w_INT, S_w_BYTE, E_w_BYTE, F_ordinal_w_BYTE, S_w_CHAR, E_w_CHAR, F_ordinal_w_CHAR, S_w_OBJECT, E_w_OBJECT, F_ordinal_w_OBJECT, S_w_FLOAT, E_w_FLOAT, F_ordinal_w_FLOAT, S_w_DOUBLE, E_w_DOUBLE, F_ordinal_w_DOUBLE, S_w_LONG, E_w_LONG, F_ordinal_w_LONG, S_w_SHORT, E_w_SHORT, F_ordinal_w_SHORT, S_w_BOOLEAN, E_w_BOOLEAN, F_ordinal_w_BOOLEAN⟩ := G'
  obtain ⟨T1, X1, e1, st1⟩ := getF X0 hx hZ hown (host := "") (Or.inl (hw _ (List.mem_of_getElem? (i := 13) rfl))) Via.refl e0 F_ordinal_w_INT (g := (mkF m 1 #[.val (.ref w_INT)] [(.ref w_INT)])) rfl rfl (hb hby d2_1)
  obtain ⟨fs, hr, hrun, hended, hW, hsame⟩ := X1.leave (v := some (.int (7 : Int32))) (fun h => by rw [Bd.returns] at h; cases h)
  refine ⟨_, _, pre0 _ ?_, hrun, hended, _, _, rfl, ?_, ⟨_, rfl⟩, hW, hsame.mono (by decide) (by decide)⟩
  · show Steps p.tables e below (s₁.setTop (mkF m 0 #[.val (.ref w_INT)] [])) _
    refine XS.aloadN X0.here hx rfl (hb hby d2_0) rfl rfl ?_
    show Steps p.tables e below (s₁.setTop (mkF m 1 #[.val (.ref w_INT)] [(.ref w_INT)])) _
    refine st1 _ ?_
    show Steps p.tables e below (T1.setTop (mkF m 4 #[.val (.ref w_INT)] [(.int (7 : Int32))])) _
    exact retOut X1 hx Bd.returns rfl (Or.inl ⟨rfl, Or.inl rfl, _, rfl⟩) (hb hby d2_4) hr
  · show QR _ h0 n0 _ T1.heap _
    rw [e1]
    exact ⟨rfl, N0, rfl⟩
set_option maxRecDepth 65536 in
set_option maxHeartbeats 40000000 in
theorem raw_10 (l : Launch) (Z : State) (a0 : Array Value) (hw : ∀ d ∈ tables_1, d.before a0 Z = true) (ws : List Jvm.Cond) (w_INT : Addr) (w_BYTE : Addr) (w_CHAR : Addr) (w_OBJECT : Addr) (w_FLOAT : Addr) (w_DOUBLE : Addr) (w_LONG : Addr) (w_SHORT : Addr) (w_BOOLEAN : Addr) (h0 : Heap) (n0 : Nat) (Z0 : n0 ≤ h0.size) (G : Glob Z h0 w_INT w_BYTE w_CHAR w_OBJECT w_FLOAT w_DOUBLE w_LONG w_SHORT w_BOOLEAN) (p1 : Int32) (hs : ¬ ((p1 &&& (1 : Int32)) = (0 : Int32))) :
    MetFree l x (head1 (Jvm.Cond.code x code maxLocals ret :: ws) room_1) (fun a U => a = #[(.int (10 : Int32)), (.int p1)] ∧ Z.Warmed39 U.vm ∧ U.heap = h0) (fun _ _ _ _ _ => True) (fun _ U o U' => ∃ v L, o = .returned v ∧ QL (some (.int (1 : Int32))) h0 n0 v U'.heap L ∧ FrameEnd U o U' L room_1.cells room_1.slots) := by
  refine MetFree.of_bodySF (plainFor_of_name pn_com_example_refleash_refleash_hprof_BasicTypeOfPinLaw) hisR ?_
  intro p e s m args below meth c s₁ Bd hml0 hP hK
  obtain ⟨rfl, hZ, hh⟩ := hP
  have hx := Bd.exec
  have hby := Bd.bytes
  have hml : c.maxLocals = 6 := hml0
  have hown : s.vm.findClass "com/example/refleash/refleash/hprof/BasicTypeOfPinLaw" = some m.cls := findClass_of_methodNamed Bd.named
  have X0 : Stand p l e room_1 s m #[(.int (10 : Int32)), (.int p1)] below meth c s₁ [] 0 0 := Stand.of_body Bd
  have e0 : s₁.heap = h0 := by rw [← hh, Bd.state]; rfl
  have N0 := Fr.nil n0
  have pre0 : ∀ t, Steps p.tables e below (s₁.setTop (mkF m 0 #[.val (.int (10 : Int32)), .val (.int p1), .unset, .unset, .unset, .unset] [])) t → Steps p.tables e below (s₁.setTop (entryFrame m #[(.int (10 : Int32)), (.int p1)] maxLocals)) t := fun t k => castTop (ef_0_II m (10 : Int32) p1) k
  have G' := G
  obtain ⟨S_w_INT, E_w_INT, F_ordinal_w_INT, S_w_BYTE, E_w_BYTE, F_ordinal_w_BYTE, S_w_CHAR, E_w_CHAR, F_ordinal_w_CHAR, S_w_OBJECT, E_w_OBJECT, F_ordinal_w_OBJECT, S_w_FLOAT, E_w_FLOAT, F_ordinal_w_FLOAT, S_w_DOUBLE, E_w_DOUBLE, F_ordinal_w_DOUBLE, S_w_LONG, E_w_LONG, F_ordinal_w_LONG, S_w_SHORT, E_w_SHORT, F_ordinal_w_SHORT, S_w_BOOLEAN, E_w_BOOLEAN, F_ordinal_w_BOOLEAN⟩ := G'
  obtain ⟨_, _, ⟨T1, L1, k1, n1⟩, -, X1, ⟨Lc1, hQ1, l1, y1, z1⟩, st1⟩ := Jvm.LawKit.callS X0 hx (y := (⟨"com/example/refleash/refleash/hprof/BasicType", "of", "(I)Lcom/example/refleash/refleash/hprof/BasicType;"⟩ : MethodName)) hown (mvT hZ (hw _ (List.mem_of_getElem? (i := 0) rfl))) (mvT hZ (hw _ (List.mem_of_getElem? (i := 1) rfl))) (mvT hZ (hw _ (List.mem_of_getElem? (i := 2) rfl))) (mvT hZ (hw _ (List.mem_of_getElem? (i := 3) rfl))) (by decide) (backOf (W := 0) (c1_7 l Z a0 hw [] w_INT w_BYTE w_CHAR w_OBJECT w_FLOAT w_DOUBLE w_LONG w_SHORT w_BOOLEAN h0 n0 Z0 G) hZ (hw _ (List.mem_of_getElem? (i := 3) rfl)) (hw _ (List.mem_of_getElem? (i := 2) rfl)) (by decide) (by decide)) (g := (mkF m 18 #[.val (.int (10 : Int32)), .val (.int p1), .val (.int (10 : Int32)), .unset, .unset, .unset] [(.int (10 : Int32))])) rfl (by rw [hml]; rfl) (argsL := [(.int (10 : Int32))]) (rest := []) (lenOf pd__I_Lcom_example_refleash_refleash_hprof_BasicType_ rfl) rfl (by show 2 * 0 + _ ≤ _; exact Nat.le_of_eq rfl) (hb hby at_18) (fun _ _ => ⟨rfl, e0, (by decide : 0 + 0 ≤ _), (by decide : 0 + 0 ≤ _)⟩)
  dsimp only [Pt.U, Pt.locs, Pt.cells, Pt.slots] at X1 l1 y1 z1 st1 hQ1
  subst l1 y1 z1
  obtain ⟨rfl, N1q, e1⟩ := hQ1
  have N1 := Fr.app N0 N1q
  obtain ⟨cq2, kq2, q2a, q2b, q2c⟩ := isOf hZ e1 E_w_INT
  obtain ⟨_, _, ⟨T2, L2, k2, n2⟩, -, X2, ⟨Lc2, hQ2, l2, y2, z2⟩, st2⟩ := X1.virtualBackUp hx (x := (⟨"com/example/refleash/refleash/hprof/BasicType", "ordinal", "()I"⟩ : MethodName)) (y := (⟨"java/lang/Enum", "ordinal", "()I"⟩ : MethodName)) hown (mvT hZ (hw _ (List.mem_of_getElem? (i := 6) rfl))) (mvT hZ (hw _ (List.mem_of_getElem? (i := 7) rfl))) (mvT hZ (hw _ (List.mem_of_getElem? (i := 8) rfl))) (by decide) (mvT hZ (hw _ (List.mem_of_getElem? (i := 10) rfl))) (mvT hZ (hw _ (List.mem_of_getElem? (i := 9) rfl))) (backOf (W := 0) (c2_7 l Z a0 hw [] w_INT w_BYTE w_CHAR w_OBJECT w_FLOAT w_DOUBLE w_LONG w_SHORT w_BOOLEAN h0 n0 Z0 G) hZ (hw _ (List.mem_of_getElem? (i := 12) rfl)) (hw _ (List.mem_of_getElem? (i := 11) rfl)) (by decide) (by decide)) q2a q2c (g := (mkF m 81 #[.val (.int (10 : Int32)), .val (.int p1), .val (.int (10 : Int32)), .val (.ref w_INT), .val (.int (1 : Int32)), .val (.int (7 : Int32))] [(.ref w_INT)])) rfl (by rw [hml]; rfl) (Steps.refl _) (argsL := []) (rest := []) (lenOf pd___I rfl) rfl (by show 2 * 0 + _ ≤ _; exact Nat.le_of_eq rfl) (hb hby at_81) (fun _ _ => ⟨rfl, e1, (by decide : 0 + 0 ≤ _), (by decide : 0 + 0 ≤ _)⟩)
  dsimp only [Pt.U, Pt.locs, Pt.cells, Pt.slots] at X2 l2 y2 z2 st2 hQ2
  subst l2 y2 z2
  obtain ⟨rfl, N2q, e2⟩ := hQ2
  have N2 := Fr.app N1 N2q
  obtain ⟨fs, hr, hrun, hended, hW, hsame⟩ := X2.leave (v := some (.int (1 : Int32))) (fun h => by rw [Bd.returns] at h; cases h)
  refine ⟨_, _, pre0 _ ?_, hrun, hended, _, _, rfl, ?_, ⟨_, rfl⟩, hW, hsame.mono (by decide) (by decide)⟩
  · show Steps p.tables e below (s₁.setTop (mkF m 0 #[.val (.int (10 : Int32)), .val (.int p1), .unset, .unset, .unset, .unset] [])) _
    refine XS.iloadN X0.here hx rfl (hb hby at_0) rfl ?_
    show Steps p.tables e below (s₁.setTop (mkF m 1 #[.val (.int (10 : Int32)), .val (.int p1), .unset, .unset, .unset, .unset] [(.int p1)])) _
    refine XS.iconst X0.here hx rfl (hb hby at_1) ?_
    show Steps p.tables e below (s₁.setTop (mkF m 2 #[.val (.int (10 : Int32)), .val (.int p1), .unset, .unset, .unset, .unset] [(.int (1 : Int32)), (.int p1)])) _
    refine XS.iand X0.here hx rfl (hb hby at_2) rfl ?_
    show Steps p.tables e below (s₁.setTop (mkF m 3 #[.val (.int (10 : Int32)), .val (.int p1), .unset, .unset, .unset, .unset] [(.int (p1 &&& (1 : Int32)))])) _
    refine XS.ifNo X0.here hx rfl (hb hby at_3) rfl ((if0 _ _).trans (feq (hs : ¬ ((p1 &&& (1 : Int32)) = (0 : Int32)))).1) ?_
    show Steps p.tables e below (s₁.setTop (mkF m 6 #[.val (.int (10 : Int32)), .val (.int p1), .unset, .unset, .unset, .unset] [])) _
    refine XS.iloadN X0.here hx rfl (hb hby at_6) rfl ?_
    show Steps p.tables e below (s₁.setTop (mkF m 7 #[.val (.int (10 : Int32)), .val (.int p1), .unset, .unset, .unset, .unset] [(.int (10 : Int32))])) _
    refine XS.goto X0.here hx rfl (pc0 := 7) (pc' := 16) rfl (hb hby at_7) (by decide) (by decide) ?_
    show Steps p.tables e below (s₁.setTop (mkF m 16 #[.val (.int (10 : Int32)), .val (.int p1), .unset, .unset, .unset, .unset] [(.int (10 : Int32))])) _
    refine XS.istoreN X0.here hx rfl (hb hby at_16) rfl (l' := #[.val (.int (10 : Int32)), .val (.int p1), .val (.int (10 : Int32)), .unset, .unset, .unset]) rfl ?_
    show Steps p.tables e below (s₁.setTop (mkF m 17 #[.val (.int (10 : Int32)), .val (.int p1), .val (.int (10 : Int32)), .unset, .unset, .unset] [])) _
    refine XS.iloadN X0.here hx rfl (hb hby at_17) rfl ?_
    show Steps p.tables e below (s₁.setTop (mkF m 18 #[.val (.int (10 : Int32)), .val (.int p1), .val (.int (10 : Int32)), .unset, .unset, .unset] [(.int (10 : Int32))])) _
    refine st1 _ ?_
    show Steps p.tables e below (T1.setTop (mkF m 21 #[.val (.int (10 : Int32)), .val (.int p1), .val (.int (10 : Int32)), .unset, .unset, .unset] [(.ref w_INT)])) _
    refine XS.astoreN X1.here hx rfl (hb hby at_21) rfl rfl (l' := #[.val (.int (10 : Int32)), .val (.int p1), .val (.int (10 : Int32)), .val (.ref w_INT), .unset, .unset]) rfl ?_
    show Steps p.tables e below (T1.setTop (mkF m 22 #[.val (.int (10 : Int32)), .val (.int p1), .val (.int (10 : Int32)), .val (.ref w_INT), .unset, .unset] [])) _
    refine XS.iloadN X1.here hx rfl (hb hby at_22) rfl ?_
    show Steps p.tables e below (T1.setTop (mkF m 23 #[.val (.int (10 : Int32)), .val (.int p1), .val (.int (10 : Int32)), .val (.ref w_INT), .unset, .unset] [(.int (10 : Int32))])) _
    refine XS.iconst X1.here hx rfl (hb hby at_23) ?_
    show Steps p.tables e below (T1.setTop (mkF m 24 #[.val (.int (10 : Int32)), .val (.int p1), .val (.int (10 : Int32)), .val (.ref w_INT), .unset, .unset] [(.int (2 : Int32)), (.int (10 : Int32))])) _
    refine XS.icmpNo X1.here hx rfl (hb hby at_24) rfl (feq (by decide : ¬ ((10 : Int32) = (2 : Int32)))).1 ?_
    show Steps p.tables e below (T1.setTop (mkF m 27 #[.val (.int (10 : Int32)), .val (.int p1), .val (.int (10 : Int32)), .val (.ref w_INT), .unset, .unset] [])) _
    refine XS.iloadN X1.here hx rfl (hb hby at_27) rfl ?_
    show Steps p.tables e below (T1.setTop (mkF m 28 #[.val (.int (10 : Int32)), .val (.int p1), .val (.int (10 : Int32)), .val (.ref w_INT), .unset, .unset] [(.int (10 : Int32))])) _
    refine XS.iconst X1.here hx rfl (hb hby at_28) ?_
    show Steps p.tables e below (T1.setTop (mkF m 29 #[.val (.int (10 : Int32)), .val (.int p1), .val (.int (10 : Int32)), .val (.ref w_INT), .unset, .unset] [(.int (4 : Int32)), (.int (10 : Int32))])) _
    refine XS.icmpNo X1.here hx rfl (hb hby at_29) rfl (flt (by decide : ¬ ((10 : Int32) < (4 : Int32)))).1 ?_
    show Steps p.tables e below (T1.setTop (mkF m 32 #[.val (.int (10 : Int32)), .val (.int p1), .val (.int (10 : Int32)), .val (.ref w_INT), .unset, .unset] [])) _
    refine XS.iloadN X1.here hx rfl (hb hby at_32) rfl ?_
    show Steps p.tables e below (T1.setTop (mkF m 33 #[.val (.int (10 : Int32)), .val (.int p1), .val (.int (10 : Int32)), .val (.ref w_INT), .unset, .unset] [(.int (10 : Int32))])) _
    refine XS.bipush X1.here hx rfl (hb hby at_33) ?_
    show Steps p.tables e below (T1.setTop (mkF m 35 #[.val (.int (10 : Int32)), .val (.int p1), .val (.int (10 : Int32)), .val (.ref w_INT), .unset, .unset] [(.int (11 : Int32)), (.int (10 : Int32))])) _
    refine XS.icmpNo X1.here hx rfl (hb hby at_35) rfl (flt (by decide : ¬ ((11 : Int32) < (10 : Int32)))).2.2.1 ?_
    show Steps p.tables e below (T1.setTop (mkF m 38 #[.val (.int (10 : Int32)), .val (.int p1), .val (.int (10 : Int32)), .val (.ref w_INT), .unset, .unset] [])) _
    refine XS.iconst X1.here hx rfl (hb hby at_38) ?_
    show Steps p.tables e below (T1.setTop (mkF m 39 #[.val (.int (10 : Int32)), .val (.int p1), .val (.int (10 : Int32)), .val (.ref w_INT), .unset, .unset] [(.int (1 : Int32))])) _
    refine XS.goto X1.here hx rfl (pc0 := 39) (pc' := 43) rfl (hb hby at_39) (by decide) (by decide) ?_
    show Steps p.tables e below (T1.setTop (mkF m 43 #[.val (.int (10 : Int32)), .val (.int p1), .val (.int (10 : Int32)), .val (.ref w_INT), .unset, .unset] [(.int (1 : Int32))])) _
    refine XS.istore X1.here hx rfl (hb hby at_43) rfl (l' := #[.val (.int (10 : Int32)), .val (.int p1), .val (.int (10 : Int32)), .val (.ref w_INT), .val (.int (1 : Int32)), .unset]) rfl ?_
    show Steps p.tables e below (T1.setTop (mkF m 45 #[.val (.int (10 : Int32)), .val (.int p1), .val (.int (10 : Int32)), .val (.ref w_INT), .val (.int (1 : Int32)), .unset] [])) _
    refine XS.iload X1.here hx rfl (hb hby at_45) rfl ?_
    show Steps p.tables e below (T1.setTop (mkF m 47 #[.val (.int (10 : Int32)), .val (.int p1), .val (.int (10 : Int32)), .val (.ref w_INT), .val (.int (1 : Int32)), .unset] [(.int (1 : Int32))])) _
    refine XS.ifYes X1.here hx rfl (pc0 := 47) (pc' := 60) rfl (hb hby at_47) rfl ((if0 _ _).trans (feq (by decide : ¬ ((1 : Int32) = (0 : Int32)))).2) (by decide) (by decide) ?_
    show Steps p.tables e below (T1.setTop (mkF m 60 #[.val (.int (10 : Int32)), .val (.int p1), .val (.int (10 : Int32)), .val (.ref w_INT), .val (.int (1 : Int32)), .unset] [])) _
    refine XS.aloadN X1.here hx rfl (hb hby at_60) rfl rfl ?_
    show Steps p.tables e below (T1.setTop (mkF m 61 #[.val (.int (10 : Int32)), .val (.int p1), .val (.int (10 : Int32)), .val (.ref w_INT), .val (.int (1 : Int32)), .unset] [(.ref w_INT)])) _
    refine XS.ifnonnullYes X1.here hx rfl (pc0 := 61) (pc' := 66) rfl (hb hby at_61) rfl (by decide) (by decide) ?_
    show Steps p.tables e below (T1.setTop (mkF m 66 #[.val (.int (10 : Int32)), .val (.int p1), .val (.int (10 : Int32)), .val (.ref w_INT), .val (.int (1 : Int32)), .unset] [])) _
    refine XS.iloadN X1.here hx rfl (hb hby at_66) rfl ?_
    show Steps p.tables e below (T1.setTop (mkF m 67 #[.val (.int (10 : Int32)), .val (.int p1), .val (.int (10 : Int32)), .val (.ref w_INT), .val (.int (1 : Int32)), .unset] [(.int (10 : Int32))])) _
    refine XS.iconst X1.here hx rfl (hb hby at_67) ?_
    show Steps p.tables e below (T1.setTop (mkF m 68 #[.val (.int (10 : Int32)), .val (.int p1), .val (.int (10 : Int32)), .val (.ref w_INT), .val (.int (1 : Int32)), .unset] [(.int (2 : Int32)), (.int (10 : Int32))])) _
    refine XS.icmpYes X1.here hx rfl (pc0 := 68) (pc' := 75) rfl (hb hby at_68) rfl (feq (by decide : ¬ ((10 : Int32) = (2 : Int32)))).2 (by decide) (by decide) ?_
    show Steps p.tables e below (T1.setTop (mkF m 75 #[.val (.int (10 : Int32)), .val (.int p1), .val (.int (10 : Int32)), .val (.ref w_INT), .val (.int (1 : Int32)), .unset] [])) _
    refine XS.iloadN X1.here hx rfl (hb hby at_75) rfl ?_
    show Steps p.tables e below (T1.setTop (mkF m 76 #[.val (.int (10 : Int32)), .val (.int p1), .val (.int (10 : Int32)), .val (.ref w_INT), .val (.int (1 : Int32)), .unset] [(.int (10 : Int32))])) _
    refine XS.iconst X1.here hx rfl (hb hby at_76) ?_
    show Steps p.tables e below (T1.setTop (mkF m 77 #[.val (.int (10 : Int32)), .val (.int p1), .val (.int (10 : Int32)), .val (.ref w_INT), .val (.int (1 : Int32)), .unset] [(.int (3 : Int32)), (.int (10 : Int32))])) _
    refine XS.isub X1.here hx rfl (hb hby at_77) rfl ?_
    show Steps p.tables e below (T1.setTop (mkF m 78 #[.val (.int (10 : Int32)), .val (.int p1), .val (.int (10 : Int32)), .val (.ref w_INT), .val (.int (1 : Int32)), .unset] [(.int ((10 : Int32) - (3 : Int32)))])) _
    rw [(show ((10 : Int32) - (3 : Int32)) = (7 : Int32) from by decide)]
    show Steps p.tables e below (T1.setTop (mkF m 78 #[.val (.int (10 : Int32)), .val (.int p1), .val (.int (10 : Int32)), .val (.ref w_INT), .val (.int (1 : Int32)), .unset] [(.int (7 : Int32))])) _
    refine XS.istore X1.here hx rfl (hb hby at_78) rfl (l' := #[.val (.int (10 : Int32)), .val (.int p1), .val (.int (10 : Int32)), .val (.ref w_INT), .val (.int (1 : Int32)), .val (.int (7 : Int32))]) rfl ?_
    show Steps p.tables e below (T1.setTop (mkF m 80 #[.val (.int (10 : Int32)), .val (.int p1), .val (.int (10 : Int32)), .val (.ref w_INT), .val (.int (1 : Int32)), .val (.int (7 : Int32))] [])) _
    refine XS.aloadN X1.here hx rfl (hb hby at_80) rfl rfl ?_
    show Steps p.tables e below (T1.setTop (mkF m 81 #[.val (.int (10 : Int32)), .val (.int p1), .val (.int (10 : Int32)), .val (.ref w_INT), .val (.int (1 : Int32)), .val (.int (7 : Int32))] [(.ref w_INT)])) _
    refine st2.trans ?_
    show Steps p.tables e below (T2.setTop (mkF m 84 #[.val (.int (10 : Int32)), .val (.int p1), .val (.int (10 : Int32)), .val (.ref w_INT), .val (.int (1 : Int32)), .val (.int (7 : Int32))] [(.int (7 : Int32))])) _
    refine XS.iload X2.here hx rfl (hb hby at_84) rfl ?_
    show Steps p.tables e below (T2.setTop (mkF m 86 #[.val (.int (10 : Int32)), .val (.int p1), .val (.int (10 : Int32)), .val (.ref w_INT), .val (.int (1 : Int32)), .val (.int (7 : Int32))] [(.int (7 : Int32)), (.int (7 : Int32))])) _
    refine XS.icmpNo X2.here hx rfl (hb hby at_86) rfl (teq (by decide : (7 : Int32) = (7 : Int32))).2 ?_
    show Steps p.tables e below (T2.setTop (mkF m 89 #[.val (.int (10 : Int32)), .val (.int p1), .val (.int (10 : Int32)), .val (.ref w_INT), .val (.int (1 : Int32)), .val (.int (7 : Int32))] [])) _
    refine XS.iconst X2.here hx rfl (hb hby at_89) ?_
    show Steps p.tables e below (T2.setTop (mkF m 90 #[.val (.int (10 : Int32)), .val (.int p1), .val (.int (10 : Int32)), .val (.ref w_INT), .val (.int (1 : Int32)), .val (.int (7 : Int32))] [(.int (1 : Int32))])) _
    refine XS.goto X2.here hx rfl (pc0 := 90) (pc' := 94) rfl (hb hby at_90) (by decide) (by decide) ?_
    show Steps p.tables e below (T2.setTop (mkF m 94 #[.val (.int (10 : Int32)), .val (.int p1), .val (.int (10 : Int32)), .val (.ref w_INT), .val (.int (1 : Int32)), .val (.int (7 : Int32))] [(.int (1 : Int32))])) _
    exact retOut X2 hx Bd.returns rfl (Or.inl ⟨rfl, Or.inr (Or.inl rfl), _, rfl⟩) (hb hby at_94) hr
  · exact ⟨rfl, N2⟩
theorem d1_104 : decode prog_56_method_4_code 104 = .ok (.getstatic 28, 3) := by decide +kernel
theorem d1_107 : decode prog_56_method_4_code 107 = .ok (.goto 4, 3) := by decide +kernel
set_option maxRecDepth 65536 in
set_option maxHeartbeats 40000000 in
theorem c1_8 (l : Launch) (Z : State) (a0 : Array Value) (hw : ∀ d ∈ tables_1, d.before a0 Z = true) (ws : List Jvm.Cond) (w_INT : Addr) (w_BYTE : Addr) (w_CHAR : Addr) (w_OBJECT : Addr) (w_FLOAT : Addr) (w_DOUBLE : Addr) (w_LONG : Addr) (w_SHORT : Addr) (w_BOOLEAN : Addr) (h0 : Heap) (n0 : Nat) (Z0 : n0 ≤ h0.size) (G : Glob Z h0 w_INT w_BYTE w_CHAR w_OBJECT w_FLOAT w_DOUBLE w_LONG w_SHORT w_BOOLEAN)  :
    MetFree l (⟨"com/example/refleash/refleash/hprof/BasicType", "of", "(I)Lcom/example/refleash/refleash/hprof/BasicType;"⟩ : MethodName) (head1 (Jvm.Cond.code (⟨"com/example/refleash/refleash/hprof/BasicType", "of", "(I)Lcom/example/refleash/refleash/hprof/BasicType;"⟩ : MethodName) prog_56_method_4_code 1 (some (.object "com/example/refleash/refleash/hprof/BasicType")) :: ws) ({ frames := 0, cells := 0, slots := 0, locals := 0 } : Room)) (fun a U => a = #[(.int (11 : Int32))] ∧ Z.Warmed39 U.vm ∧ U.heap = h0) (fun _ _ _ _ _ => True) (fun _ U o U' => ∃ v L, o = .returned v ∧ QR (some (.ref w_LONG)) h0 n0 v U'.heap L ∧ FrameEnd U o U' L ({ frames := 0, cells := 0, slots := 0, locals := 0 } : Room).cells ({ frames := 0, cells := 0, slots := 0, locals := 0 } : Room).slots) := by
  refine MetFree.of_bodySF (plainFor_of_name pn_com_example_refleash_refleash_hprof_BasicType) hisR ?_
  intro p e s m args below meth c s₁ Bd hml0 hP hK
  obtain ⟨rfl, hZ, hh⟩ := hP
  have hx := Bd.exec
  have hby := Bd.bytes
  have hml : c.maxLocals = 1 := hml0
  have hown : s.vm.findClass "com/example/refleash/refleash/hprof/BasicType" = some m.cls := findClass_of_methodNamed Bd.named
  have X0 : Stand p l e ({ frames := 0, cells := 0, slots := 0, locals := 0 } : Room) s m #[(.int (11 : Int32))] below meth c s₁ [] 0 0 := Stand.of_body Bd
  have e0 : s₁.heap = h0 := by rw [← hh, Bd.state]; rfl
  have N0 := Fr.nil n0
  have pre0 : ∀ t, Steps p.tables e below (s₁.setTop (mkF m 0 #[.val (.int (11 : Int32))] [])) t → Steps p.tables e below (s₁.setTop (entryFrame m #[(.int (11 : Int32))] 1)) t := fun t k => castTop (ef_1_I m (11 : Int32)) k
  have G' := G
  obtain ⟨S_w_INT, E_w_INT, F_ordinal_w_INT, S_w_BYTE, E_w_BYTE, F_ordinal_w_BYTE, S_w_CHAR, E_w_CHAR, F_ordinal_w_CHAR, S_w_OBJECT, E_w_OBJECT, F_ordinal_w_OBJECT, S_w_FLOAT, E_w_FLOAT, F_ordinal_w_FLOAT, S_w_DOUBLE, E_w_DOUBLE, F_ordinal_w_DOUBLE, S_w_LONG, E_w_LONG, F_ordinal_w_LONG, S_w_SHORT, E_w_SHORT, F_ordinal_w_SHORT, S_w_BOOLEAN, E_w_BOOLEAN, F_ordinal_w_BOOLEAN⟩ := G'
  obtain ⟨T1, X1, e1, st1⟩ := getS2 X0 hx hZ hown (host := "") (Or.inl (hw _ (List.mem_of_getElem? (i := 25) rfl))) Via.refl e0 S_w_LONG (g := (mkF m 104 #[.val (.int (11 : Int32))] [])) rfl (hb hby d1_104)
  obtain ⟨fs, hr, hrun, hended, hW, hsame⟩ := X1.leave (v := some (.ref w_LONG)) (fun h => by rw [Bd.returns] at h; cases h)
  refine ⟨_, _, pre0 _ ?_, hrun, hended, _, _, rfl, ?_, ⟨_, rfl⟩, hW, hsame.mono (by decide) (by decide)⟩
  · show Steps p.tables e below (s₁.setTop (mkF m 0 #[.val (.int (11 : Int32))] [])) _
    refine XS.iloadN X0.here hx rfl (hb hby d1_0) rfl ?_
    show Steps p.tables e below (s₁.setTop (mkF m 1 #[.val (.int (11 : Int32))] [(.int (11 : Int32))])) _
    refine XS.tswIn X0.here hx rfl (pc0 := 1) (pc' := 104) rfl (hb hby d1_1) rfl (by decide) (o := 103) (by decide) (by decide) (by decide) ?_
    show Steps p.tables e below (s₁.setTop (mkF m 104 #[.val (.int (11 : Int32))] [])) _
    refine st1 _ ?_
    show Steps p.tables e below (T1.setTop (mkF m 107 #[.val (.int (11 : Int32))] [(.ref w_LONG)])) _
    refine XS.goto X1.here hx rfl (pc0 := 107) (pc' := 111) rfl (hb hby d1_107) (by decide) (by decide) ?_
    show Steps p.tables e below (T1.setTop (mkF m 111 #[.val (.int (11 : Int32))] [(.ref w_LONG)])) _
    exact retOut X1 hx Bd.returns rfl (Or.inr (Or.inr (Or.inr (Or.inr ⟨rfl, rfl, rfl⟩)))) (hb hby d1_111) hr
  · show QR _ h0 n0 _ T1.heap _
    rw [e1]
    exact ⟨rfl, N0, rfl⟩
set_option maxRecDepth 65536 in
set_option maxHeartbeats 40000000 in
theorem c2_8 (l : Launch) (Z : State) (a0 : Array Value) (hw : ∀ d ∈ tables_1, d.before a0 Z = true) (ws : List Jvm.Cond) (w_INT : Addr) (w_BYTE : Addr) (w_CHAR : Addr) (w_OBJECT : Addr) (w_FLOAT : Addr) (w_DOUBLE : Addr) (w_LONG : Addr) (w_SHORT : Addr) (w_BOOLEAN : Addr) (h0 : Heap) (n0 : Nat) (Z0 : n0 ≤ h0.size) (G : Glob Z h0 w_INT w_BYTE w_CHAR w_OBJECT w_FLOAT w_DOUBLE w_LONG w_SHORT w_BOOLEAN)  :
    MetFree l (⟨"java/lang/Enum", "ordinal", "()I"⟩ : MethodName) (head1 (Jvm.Cond.code (⟨"java/lang/Enum", "ordinal", "()I"⟩ : MethodName) jdk_37_method_2_code 1 (some .int) :: ws) ({ frames := 0, cells := 0, slots := 0, locals := 0 } : Room)) (fun a U => a = #[(.ref w_LONG)] ∧ Z.Warmed39 U.vm ∧ U.heap = h0) (fun _ _ _ _ _ => True) (fun _ U o U' => ∃ v L, o = .returned v ∧ QR (some (.int (8 : Int32))) h0 n0 v U'.heap L ∧ FrameEnd U o U' L ({ frames := 0, cells := 0, slots := 0, locals := 0 } : Room).cells ({ frames := 0, cells := 0, slots := 0, locals := 0 } : Room).slots) := by
  refine MetFree.of_bodySF (plainFor_of_name pn_java_lang_Enum) hisR ?_
  intro p e s m args below meth c s₁ Bd hml0 hP hK
  obtain ⟨rfl, hZ, hh⟩ := hP
  have hx := Bd.exec
  have hby := Bd.bytes
  have hml : c.maxLocals = 1 := hml0
  have hown : s.vm.findClass "java/lang/Enum" = some m.cls := findClass_of_methodNamed Bd.named
  have X0 : Stand p l e ({ frames := 0, cells := 0, slots := 0, locals := 0 } : Room) s m #[(.ref w_LONG)] below meth c s₁ [] 0 0 := Stand.of_body Bd
  have e0 : s₁.heap = h0 := by rw [← hh, Bd.state]; rfl
  have N0 := Fr.nil n0
  have pre0 : ∀ t, Steps p.tables e below (s₁.setTop (mkF m 0 #[.val (.ref w_LONG)] [])) t → Steps p.tables e below (s₁.setTop (entryFrame m #[(.ref w_LONG)] 1)) t := fun t k => castTop (ef_2_R m w_LONG) k
  have G' := G
  obtain ⟨S_w_INT, E_w_INT, F_ordinal_w_INT, S_w_BYTE, E_w_BYTE, F_ordinal_w_BYTE, S_w_CHAR, E_w_CHAR, F_ordinal_w_CHAR, S_w_OBJECT, E_w_OBJECT, F_ordinal_w_OBJECT, S_w_FLOAT, E_w_FLOAT, F_ordinal_w_FLOAT, S_w_DOUBLE, E_w_DOUBLE, F_ordinal_w_DOUBLE, S_w_LONG, E_w_LONG, F_ordinal_w_LONG, S_w_SHORT, E_w_SHORT, F_ordinal_w_SHORT, S_w_BOOLEAN, E_w_BOOLEAN, F_ordinal_w_BOOLEAN⟩ := G'
  obtain ⟨T1, X1, e1, st1⟩ := getF X0 hx hZ hown (host := "") (Or.inl (hw _ (List.mem_of_getElem? (i := 13) rfl))) Via.refl e0 F_ordinal_w_LONG (g := (mkF m 1 #[.val (.ref w_LONG)] [(.ref w_LONG)])) rfl rfl (hb hby d2_1)
  obtain ⟨fs, hr, hrun, hended, hW, hsame⟩ := X1.leave (v := some (.int (8 : Int32))) (fun h => by rw [Bd.returns] at h; cases h)
  refine ⟨_, _, pre0 _ ?_, hrun, hended, _, _, rfl, ?_, ⟨_, rfl⟩, hW, hsame.mono (by decide) (by decide)⟩
  · show Steps p.tables e below (s₁.setTop (mkF m 0 #[.val (.ref w_LONG)] [])) _
    refine XS.aloadN X0.here hx rfl (hb hby d2_0) rfl rfl ?_
    show Steps p.tables e below (s₁.setTop (mkF m 1 #[.val (.ref w_LONG)] [(.ref w_LONG)])) _
    refine st1 _ ?_
    show Steps p.tables e below (T1.setTop (mkF m 4 #[.val (.ref w_LONG)] [(.int (8 : Int32))])) _
    exact retOut X1 hx Bd.returns rfl (Or.inl ⟨rfl, Or.inl rfl, _, rfl⟩) (hb hby d2_4) hr
  · show QR _ h0 n0 _ T1.heap _
    rw [e1]
    exact ⟨rfl, N0, rfl⟩
set_option maxRecDepth 65536 in
set_option maxHeartbeats 40000000 in
theorem raw_11 (l : Launch) (Z : State) (a0 : Array Value) (hw : ∀ d ∈ tables_1, d.before a0 Z = true) (ws : List Jvm.Cond) (w_INT : Addr) (w_BYTE : Addr) (w_CHAR : Addr) (w_OBJECT : Addr) (w_FLOAT : Addr) (w_DOUBLE : Addr) (w_LONG : Addr) (w_SHORT : Addr) (w_BOOLEAN : Addr) (h0 : Heap) (n0 : Nat) (Z0 : n0 ≤ h0.size) (G : Glob Z h0 w_INT w_BYTE w_CHAR w_OBJECT w_FLOAT w_DOUBLE w_LONG w_SHORT w_BOOLEAN) (p1 : Int32) (hs : ¬ ((p1 &&& (1 : Int32)) = (0 : Int32))) :
    MetFree l x (head1 (Jvm.Cond.code x code maxLocals ret :: ws) room_1) (fun a U => a = #[(.int (11 : Int32)), (.int p1)] ∧ Z.Warmed39 U.vm ∧ U.heap = h0) (fun _ _ _ _ _ => True) (fun _ U o U' => ∃ v L, o = .returned v ∧ QL (some (.int (1 : Int32))) h0 n0 v U'.heap L ∧ FrameEnd U o U' L room_1.cells room_1.slots) := by
  refine MetFree.of_bodySF (plainFor_of_name pn_com_example_refleash_refleash_hprof_BasicTypeOfPinLaw) hisR ?_
  intro p e s m args below meth c s₁ Bd hml0 hP hK
  obtain ⟨rfl, hZ, hh⟩ := hP
  have hx := Bd.exec
  have hby := Bd.bytes
  have hml : c.maxLocals = 6 := hml0
  have hown : s.vm.findClass "com/example/refleash/refleash/hprof/BasicTypeOfPinLaw" = some m.cls := findClass_of_methodNamed Bd.named
  have X0 : Stand p l e room_1 s m #[(.int (11 : Int32)), (.int p1)] below meth c s₁ [] 0 0 := Stand.of_body Bd
  have e0 : s₁.heap = h0 := by rw [← hh, Bd.state]; rfl
  have N0 := Fr.nil n0
  have pre0 : ∀ t, Steps p.tables e below (s₁.setTop (mkF m 0 #[.val (.int (11 : Int32)), .val (.int p1), .unset, .unset, .unset, .unset] [])) t → Steps p.tables e below (s₁.setTop (entryFrame m #[(.int (11 : Int32)), (.int p1)] maxLocals)) t := fun t k => castTop (ef_0_II m (11 : Int32) p1) k
  have G' := G
  obtain ⟨S_w_INT, E_w_INT, F_ordinal_w_INT, S_w_BYTE, E_w_BYTE, F_ordinal_w_BYTE, S_w_CHAR, E_w_CHAR, F_ordinal_w_CHAR, S_w_OBJECT, E_w_OBJECT, F_ordinal_w_OBJECT, S_w_FLOAT, E_w_FLOAT, F_ordinal_w_FLOAT, S_w_DOUBLE, E_w_DOUBLE, F_ordinal_w_DOUBLE, S_w_LONG, E_w_LONG, F_ordinal_w_LONG, S_w_SHORT, E_w_SHORT, F_ordinal_w_SHORT, S_w_BOOLEAN, E_w_BOOLEAN, F_ordinal_w_BOOLEAN⟩ := G'
  obtain ⟨_, _, ⟨T1, L1, k1, n1⟩, -, X1, ⟨Lc1, hQ1, l1, y1, z1⟩, st1⟩ := Jvm.LawKit.callS X0 hx (y := (⟨"com/example/refleash/refleash/hprof/BasicType", "of", "(I)Lcom/example/refleash/refleash/hprof/BasicType;"⟩ : MethodName)) hown (mvT hZ (hw _ (List.mem_of_getElem? (i := 0) rfl))) (mvT hZ (hw _ (List.mem_of_getElem? (i := 1) rfl))) (mvT hZ (hw _ (List.mem_of_getElem? (i := 2) rfl))) (mvT hZ (hw _ (List.mem_of_getElem? (i := 3) rfl))) (by decide) (backOf (W := 0) (c1_8 l Z a0 hw [] w_INT w_BYTE w_CHAR w_OBJECT w_FLOAT w_DOUBLE w_LONG w_SHORT w_BOOLEAN h0 n0 Z0 G) hZ (hw _ (List.mem_of_getElem? (i := 3) rfl)) (hw _ (List.mem_of_getElem? (i := 2) rfl)) (by decide) (by decide)) (g := (mkF m 18 #[.val (.int (11 : Int32)), .val (.int p1), .val (.int (11 : Int32)), .unset, .unset, .unset] [(.int (11 : Int32))])) rfl (by rw [hml]; rfl) (argsL := [(.int (11 : Int32))]) (rest := []) (lenOf pd__I_Lcom_example_refleash_refleash_hprof_BasicType_ rfl) rfl (by show 2 * 0 + _ ≤ _; exact Nat.le_of_eq rfl) (hb hby at_18) (fun _ _ => ⟨rfl, e0, (by decide : 0 + 0 ≤ _), (by decide : 0 + 0 ≤ _)⟩)
  dsimp only [Pt.U, Pt.locs, Pt.cells, Pt.slots] at X1 l1 y1 z1 st1 hQ1
  subst l1 y1 z1
  obtain ⟨rfl, N1q, e1⟩ := hQ1
  have N1 := Fr.app N0 N1q
  obtain ⟨cq2, kq2, q2a, q2b, q2c⟩ := isOf hZ e1 E_w_LONG
  obtain ⟨_, _, ⟨T2, L2, k2, n2⟩, -, X2, ⟨Lc2, hQ2, l2, y2, z2⟩, st2⟩ := X1.virtualBackUp hx (x := (⟨"com/example/refleash/refleash/hprof/BasicType", "ordinal", "()I"⟩ : MethodName)) (y := (⟨"java/lang/Enum", "ordinal", "()I"⟩ : MethodName)) hown (mvT hZ (hw _ (List.mem_of_getElem? (i := 6) rfl))) (mvT hZ (hw _ (List.mem_of_getElem? (i := 7) rfl))) (mvT hZ (hw _ (List.mem_of_getElem? (i := 8) rfl))) (by decide) (mvT hZ (hw _ (List.mem_of_getElem? (i := 10) rfl))) (mvT hZ (hw _ (List.mem_of_getElem? (i := 9) rfl))) (backOf (W := 0) (c2_8 l Z a0 hw [] w_INT w_BYTE w_CHAR w_OBJECT w_FLOAT w_DOUBLE w_LONG w_SHORT w_BOOLEAN h0 n0 Z0 G) hZ (hw _ (List.mem_of_getElem? (i := 12) rfl)) (hw _ (List.mem_of_getElem? (i := 11) rfl)) (by decide) (by decide)) q2a q2c (g := (mkF m 81 #[.val (.int (11 : Int32)), .val (.int p1), .val (.int (11 : Int32)), .val (.ref w_LONG), .val (.int (1 : Int32)), .val (.int (8 : Int32))] [(.ref w_LONG)])) rfl (by rw [hml]; rfl) (Steps.refl _) (argsL := []) (rest := []) (lenOf pd___I rfl) rfl (by show 2 * 0 + _ ≤ _; exact Nat.le_of_eq rfl) (hb hby at_81) (fun _ _ => ⟨rfl, e1, (by decide : 0 + 0 ≤ _), (by decide : 0 + 0 ≤ _)⟩)
  dsimp only [Pt.U, Pt.locs, Pt.cells, Pt.slots] at X2 l2 y2 z2 st2 hQ2
  subst l2 y2 z2
  obtain ⟨rfl, N2q, e2⟩ := hQ2
  have N2 := Fr.app N1 N2q
  obtain ⟨fs, hr, hrun, hended, hW, hsame⟩ := X2.leave (v := some (.int (1 : Int32))) (fun h => by rw [Bd.returns] at h; cases h)
  refine ⟨_, _, pre0 _ ?_, hrun, hended, _, _, rfl, ?_, ⟨_, rfl⟩, hW, hsame.mono (by decide) (by decide)⟩
  · show Steps p.tables e below (s₁.setTop (mkF m 0 #[.val (.int (11 : Int32)), .val (.int p1), .unset, .unset, .unset, .unset] [])) _
    refine XS.iloadN X0.here hx rfl (hb hby at_0) rfl ?_
    show Steps p.tables e below (s₁.setTop (mkF m 1 #[.val (.int (11 : Int32)), .val (.int p1), .unset, .unset, .unset, .unset] [(.int p1)])) _
    refine XS.iconst X0.here hx rfl (hb hby at_1) ?_
    show Steps p.tables e below (s₁.setTop (mkF m 2 #[.val (.int (11 : Int32)), .val (.int p1), .unset, .unset, .unset, .unset] [(.int (1 : Int32)), (.int p1)])) _
    refine XS.iand X0.here hx rfl (hb hby at_2) rfl ?_
    show Steps p.tables e below (s₁.setTop (mkF m 3 #[.val (.int (11 : Int32)), .val (.int p1), .unset, .unset, .unset, .unset] [(.int (p1 &&& (1 : Int32)))])) _
    refine XS.ifNo X0.here hx rfl (hb hby at_3) rfl ((if0 _ _).trans (feq (hs : ¬ ((p1 &&& (1 : Int32)) = (0 : Int32)))).1) ?_
    show Steps p.tables e below (s₁.setTop (mkF m 6 #[.val (.int (11 : Int32)), .val (.int p1), .unset, .unset, .unset, .unset] [])) _
    refine XS.iloadN X0.here hx rfl (hb hby at_6) rfl ?_
    show Steps p.tables e below (s₁.setTop (mkF m 7 #[.val (.int (11 : Int32)), .val (.int p1), .unset, .unset, .unset, .unset] [(.int (11 : Int32))])) _
    refine XS.goto X0.here hx rfl (pc0 := 7) (pc' := 16) rfl (hb hby at_7) (by decide) (by decide) ?_
    show Steps p.tables e below (s₁.setTop (mkF m 16 #[.val (.int (11 : Int32)), .val (.int p1), .unset, .unset, .unset, .unset] [(.int (11 : Int32))])) _
    refine XS.istoreN X0.here hx rfl (hb hby at_16) rfl (l' := #[.val (.int (11 : Int32)), .val (.int p1), .val (.int (11 : Int32)), .unset, .unset, .unset]) rfl ?_
    show Steps p.tables e below (s₁.setTop (mkF m 17 #[.val (.int (11 : Int32)), .val (.int p1), .val (.int (11 : Int32)), .unset, .unset, .unset] [])) _
    refine XS.iloadN X0.here hx rfl (hb hby at_17) rfl ?_
    show Steps p.tables e below (s₁.setTop (mkF m 18 #[.val (.int (11 : Int32)), .val (.int p1), .val (.int (11 : Int32)), .unset, .unset, .unset] [(.int (11 : Int32))])) _
    refine st1 _ ?_
    show Steps p.tables e below (T1.setTop (mkF m 21 #[.val (.int (11 : Int32)), .val (.int p1), .val (.int (11 : Int32)), .unset, .unset, .unset] [(.ref w_LONG)])) _
    refine XS.astoreN X1.here hx rfl (hb hby at_21) rfl rfl (l' := #[.val (.int (11 : Int32)), .val (.int p1), .val (.int (11 : Int32)), .val (.ref w_LONG), .unset, .unset]) rfl ?_
    show Steps p.tables e below (T1.setTop (mkF m 22 #[.val (.int (11 : Int32)), .val (.int p1), .val (.int (11 : Int32)), .val (.ref w_LONG), .unset, .unset] [])) _
    refine XS.iloadN X1.here hx rfl (hb hby at_22) rfl ?_
    show Steps p.tables e below (T1.setTop (mkF m 23 #[.val (.int (11 : Int32)), .val (.int p1), .val (.int (11 : Int32)), .val (.ref w_LONG), .unset, .unset] [(.int (11 : Int32))])) _
    refine XS.iconst X1.here hx rfl (hb hby at_23) ?_
    show Steps p.tables e below (T1.setTop (mkF m 24 #[.val (.int (11 : Int32)), .val (.int p1), .val (.int (11 : Int32)), .val (.ref w_LONG), .unset, .unset] [(.int (2 : Int32)), (.int (11 : Int32))])) _
    refine XS.icmpNo X1.here hx rfl (hb hby at_24) rfl (feq (by decide : ¬ ((11 : Int32) = (2 : Int32)))).1 ?_
    show Steps p.tables e below (T1.setTop (mkF m 27 #[.val (.int (11 : Int32)), .val (.int p1), .val (.int (11 : Int32)), .val (.ref w_LONG), .unset, .unset] [])) _
    refine XS.iloadN X1.here hx rfl (hb hby at_27) rfl ?_
    show Steps p.tables e below (T1.setTop (mkF m 28 #[.val (.int (11 : Int32)), .val (.int p1), .val (.int (11 : Int32)), .val (.ref w_LONG), .unset, .unset] [(.int (11 : Int32))])) _
    refine XS.iconst X1.here hx rfl (hb hby at_28) ?_
    show Steps p.tables e below (T1.setTop (mkF m 29 #[.val (.int (11 : Int32)), .val (.int p1), .val (.int (11 : Int32)), .val (.ref w_LONG), .unset, .unset] [(.int (4 : Int32)), (.int (11 : Int32))])) _
    refine XS.icmpNo X1.here hx rfl (hb hby at_29) rfl (flt (by decide : ¬ ((11 : Int32) < (4 : Int32)))).1 ?_
    show Steps p.tables e below (T1.setTop (mkF m 32 #[.val (.int (11 : Int32)), .val (.int p1), .val (.int (11 : Int32)), .val (.ref w_LONG), .unset, .unset] [])) _
    refine XS.iloadN X1.here hx rfl (hb hby at_32) rfl ?_
    show Steps p.tables e below (T1.setTop (mkF m 33 #[.val (.int (11 : Int32)), .val (.int p1), .val (.int (11 : Int32)), .val (.ref w_LONG), .unset, .unset] [(.int (11 : Int32))])) _
    refine XS.bipush X1.here hx rfl (hb hby at_33) ?_
    show Steps p.tables e below (T1.setTop (mkF m 35 #[.val (.int (11 : Int32)), .val (.int p1), .val (.int (11 : Int32)), .val (.ref w_LONG), .unset, .unset] [(.int (11 : Int32)), (.int (11 : Int32))])) _
    refine XS.icmpNo X1.here hx rfl (hb hby at_35) rfl (flt (by decide : ¬ ((11 : Int32) < (11 : Int32)))).2.2.1 ?_
    show Steps p.tables e below (T1.setTop (mkF m 38 #[.val (.int (11 : Int32)), .val (.int p1), .val (.int (11 : Int32)), .val (.ref w_LONG), .unset, .unset] [])) _
    refine XS.iconst X1.here hx rfl (hb hby at_38) ?_
    show Steps p.tables e below (T1.setTop (mkF m 39 #[.val (.int (11 : Int32)), .val (.int p1), .val (.int (11 : Int32)), .val (.ref w_LONG), .unset, .unset] [(.int (1 : Int32))])) _
    refine XS.goto X1.here hx rfl (pc0 := 39) (pc' := 43) rfl (hb hby at_39) (by decide) (by decide) ?_
    show Steps p.tables e below (T1.setTop (mkF m 43 #[.val (.int (11 : Int32)), .val (.int p1), .val (.int (11 : Int32)), .val (.ref w_LONG), .unset, .unset] [(.int (1 : Int32))])) _
    refine XS.istore X1.here hx rfl (hb hby at_43) rfl (l' := #[.val (.int (11 : Int32)), .val (.int p1), .val (.int (11 : Int32)), .val (.ref w_LONG), .val (.int (1 : Int32)), .unset]) rfl ?_
    show Steps p.tables e below (T1.setTop (mkF m 45 #[.val (.int (11 : Int32)), .val (.int p1), .val (.int (11 : Int32)), .val (.ref w_LONG), .val (.int (1 : Int32)), .unset] [])) _
    refine XS.iload X1.here hx rfl (hb hby at_45) rfl ?_
    show Steps p.tables e below (T1.setTop (mkF m 47 #[.val (.int (11 : Int32)), .val (.int p1), .val (.int (11 : Int32)), .val (.ref w_LONG), .val (.int (1 : Int32)), .unset] [(.int (1 : Int32))])) _
    refine XS.ifYes X1.here hx rfl (pc0 := 47) (pc' := 60) rfl (hb hby at_47) rfl ((if0 _ _).trans (feq (by decide : ¬ ((1 : Int32) = (0 : Int32)))).2) (by decide) (by decide) ?_
    show Steps p.tables e below (T1.setTop (mkF m 60 #[.val (.int (11 : Int32)), .val (.int p1), .val (.int (11 : Int32)), .val (.ref w_LONG), .val (.int (1 : Int32)), .unset] [])) _
    refine XS.aloadN X1.here hx rfl (hb hby at_60) rfl rfl ?_
    show Steps p.tables e below (T1.setTop (mkF m 61 #[.val (.int (11 : Int32)), .val (.int p1), .val (.int (11 : Int32)), .val (.ref w_LONG), .val (.int (1 : Int32)), .unset] [(.ref w_LONG)])) _
    refine XS.ifnonnullYes X1.here hx rfl (pc0 := 61) (pc' := 66) rfl (hb hby at_61) rfl (by decide) (by decide) ?_
    show Steps p.tables e below (T1.setTop (mkF m 66 #[.val (.int (11 : Int32)), .val (.int p1), .val (.int (11 : Int32)), .val (.ref w_LONG), .val (.int (1 : Int32)), .unset] [])) _
    refine XS.iloadN X1.here hx rfl (hb hby at_66) rfl ?_
    show Steps p.tables e below (T1.setTop (mkF m 67 #[.val (.int (11 : Int32)), .val (.int p1), .val (.int (11 : Int32)), .val (.ref w_LONG), .val (.int (1 : Int32)), .unset] [(.int (11 : Int32))])) _
    refine XS.iconst X1.here hx rfl (hb hby at_67) ?_
    show Steps p.tables e below (T1.setTop (mkF m 68 #[.val (.int (11 : Int32)), .val (.int p1), .val (.int (11 : Int32)), .val (.ref w_LONG), .val (.int (1 : Int32)), .unset] [(.int (2 : Int32)), (.int (11 : Int32))])) _
    refine XS.icmpYes X1.here hx rfl (pc0 := 68) (pc' := 75) rfl (hb hby at_68) rfl (feq (by decide : ¬ ((11 : Int32) = (2 : Int32)))).2 (by decide) (by decide) ?_
    show Steps p.tables e below (T1.setTop (mkF m 75 #[.val (.int (11 : Int32)), .val (.int p1), .val (.int (11 : Int32)), .val (.ref w_LONG), .val (.int (1 : Int32)), .unset] [])) _
    refine XS.iloadN X1.here hx rfl (hb hby at_75) rfl ?_
    show Steps p.tables e below (T1.setTop (mkF m 76 #[.val (.int (11 : Int32)), .val (.int p1), .val (.int (11 : Int32)), .val (.ref w_LONG), .val (.int (1 : Int32)), .unset] [(.int (11 : Int32))])) _
    refine XS.iconst X1.here hx rfl (hb hby at_76) ?_
    show Steps p.tables e below (T1.setTop (mkF m 77 #[.val (.int (11 : Int32)), .val (.int p1), .val (.int (11 : Int32)), .val (.ref w_LONG), .val (.int (1 : Int32)), .unset] [(.int (3 : Int32)), (.int (11 : Int32))])) _
    refine XS.isub X1.here hx rfl (hb hby at_77) rfl ?_
    show Steps p.tables e below (T1.setTop (mkF m 78 #[.val (.int (11 : Int32)), .val (.int p1), .val (.int (11 : Int32)), .val (.ref w_LONG), .val (.int (1 : Int32)), .unset] [(.int ((11 : Int32) - (3 : Int32)))])) _
    rw [(show ((11 : Int32) - (3 : Int32)) = (8 : Int32) from by decide)]
    show Steps p.tables e below (T1.setTop (mkF m 78 #[.val (.int (11 : Int32)), .val (.int p1), .val (.int (11 : Int32)), .val (.ref w_LONG), .val (.int (1 : Int32)), .unset] [(.int (8 : Int32))])) _
    refine XS.istore X1.here hx rfl (hb hby at_78) rfl (l' := #[.val (.int (11 : Int32)), .val (.int p1), .val (.int (11 : Int32)), .val (.ref w_LONG), .val (.int (1 : Int32)), .val (.int (8 : Int32))]) rfl ?_
    show Steps p.tables e below (T1.setTop (mkF m 80 #[.val (.int (11 : Int32)), .val (.int p1), .val (.int (11 : Int32)), .val (.ref w_LONG), .val (.int (1 : Int32)), .val (.int (8 : Int32))] [])) _
    refine XS.aloadN X1.here hx rfl (hb hby at_80) rfl rfl ?_
    show Steps p.tables e below (T1.setTop (mkF m 81 #[.val (.int (11 : Int32)), .val (.int p1), .val (.int (11 : Int32)), .val (.ref w_LONG), .val (.int (1 : Int32)), .val (.int (8 : Int32))] [(.ref w_LONG)])) _
    refine st2.trans ?_
    show Steps p.tables e below (T2.setTop (mkF m 84 #[.val (.int (11 : Int32)), .val (.int p1), .val (.int (11 : Int32)), .val (.ref w_LONG), .val (.int (1 : Int32)), .val (.int (8 : Int32))] [(.int (8 : Int32))])) _
    refine XS.iload X2.here hx rfl (hb hby at_84) rfl ?_
    show Steps p.tables e below (T2.setTop (mkF m 86 #[.val (.int (11 : Int32)), .val (.int p1), .val (.int (11 : Int32)), .val (.ref w_LONG), .val (.int (1 : Int32)), .val (.int (8 : Int32))] [(.int (8 : Int32)), (.int (8 : Int32))])) _
    refine XS.icmpNo X2.here hx rfl (hb hby at_86) rfl (teq (by decide : (8 : Int32) = (8 : Int32))).2 ?_
    show Steps p.tables e below (T2.setTop (mkF m 89 #[.val (.int (11 : Int32)), .val (.int p1), .val (.int (11 : Int32)), .val (.ref w_LONG), .val (.int (1 : Int32)), .val (.int (8 : Int32))] [])) _
    refine XS.iconst X2.here hx rfl (hb hby at_89) ?_
    show Steps p.tables e below (T2.setTop (mkF m 90 #[.val (.int (11 : Int32)), .val (.int p1), .val (.int (11 : Int32)), .val (.ref w_LONG), .val (.int (1 : Int32)), .val (.int (8 : Int32))] [(.int (1 : Int32))])) _
    refine XS.goto X2.here hx rfl (pc0 := 90) (pc' := 94) rfl (hb hby at_90) (by decide) (by decide) ?_
    show Steps p.tables e below (T2.setTop (mkF m 94 #[.val (.int (11 : Int32)), .val (.int p1), .val (.int (11 : Int32)), .val (.ref w_LONG), .val (.int (1 : Int32)), .val (.int (8 : Int32))] [(.int (1 : Int32))])) _
    exact retOut X2 hx Bd.returns rfl (Or.inl ⟨rfl, Or.inr (Or.inl rfl), _, rfl⟩) (hb hby at_94) hr
  · exact ⟨rfl, N2⟩
theorem d1_110 : decode prog_56_method_4_code 110 = .ok (.aconst_null, 1) := by decide +kernel
set_option maxRecDepth 65536 in
set_option maxHeartbeats 40000000 in
theorem c1_9 (l : Launch) (Z : State) (a0 : Array Value) (hw : ∀ d ∈ tables_1, d.before a0 Z = true) (ws : List Jvm.Cond) (w_INT : Addr) (w_BYTE : Addr) (w_CHAR : Addr) (w_OBJECT : Addr) (w_FLOAT : Addr) (w_DOUBLE : Addr) (w_LONG : Addr) (w_SHORT : Addr) (w_BOOLEAN : Addr) (h0 : Heap) (n0 : Nat) (Z0 : n0 ≤ h0.size) (G : Glob Z h0 w_INT w_BYTE w_CHAR w_OBJECT w_FLOAT w_DOUBLE w_LONG w_SHORT w_BOOLEAN)  :
    MetFree l (⟨"com/example/refleash/refleash/hprof/BasicType", "of", "(I)Lcom/example/refleash/refleash/hprof/BasicType;"⟩ : MethodName) (head1 (Jvm.Cond.code (⟨"com/example/refleash/refleash/hprof/BasicType", "of", "(I)Lcom/example/refleash/refleash/hprof/BasicType;"⟩ : MethodName) prog_56_method_4_code 1 (some (.object "com/example/refleash/refleash/hprof/BasicType")) :: ws) ({ frames := 0, cells := 0, slots := 0, locals := 0 } : Room)) (fun a U => a = #[(.int (3 : Int32))] ∧ Z.Warmed39 U.vm ∧ U.heap = h0) (fun _ _ _ _ _ => True) (fun _ U o U' => ∃ v L, o = .returned v ∧ QR (some .null) h0 n0 v U'.heap L ∧ FrameEnd U o U' L ({ frames := 0, cells := 0, slots := 0, locals := 0 } : Room).cells ({ frames := 0, cells := 0, slots := 0, locals := 0 } : Room).slots) := by
  refine MetFree.of_bodySF (plainFor_of_name pn_com_example_refleash_refleash_hprof_BasicType) hisR ?_
  intro p e s m args below meth c s₁ Bd hml0 hP hK
  obtain ⟨rfl, hZ, hh⟩ := hP
  have hx := Bd.exec
  have hby := Bd.bytes
  have hml : c.maxLocals = 1 := hml0
  have hown : s.vm.findClass "com/example/refleash/refleash/hprof/BasicType" = some m.cls := findClass_of_methodNamed Bd.named
  have X0 : Stand p l e ({ frames := 0, cells := 0, slots := 0, locals := 0 } : Room) s m #[(.int (3 : Int32))] below meth c s₁ [] 0 0 := Stand.of_body Bd
  have e0 : s₁.heap = h0 := by rw [← hh, Bd.state]; rfl
  have N0 := Fr.nil n0
  have pre0 : ∀ t, Steps p.tables e below (s₁.setTop (mkF m 0 #[.val (.int (3 : Int32))] [])) t → Steps p.tables e below (s₁.setTop (entryFrame m #[(.int (3 : Int32))] 1)) t := fun t k => castTop (ef_1_I m (3 : Int32)) k
  have G' := G
  obtain ⟨S_w_INT, E_w_INT, F_ordinal_w_INT, S_w_BYTE, E_w_BYTE, F_ordinal_w_BYTE, S_w_CHAR, E_w_CHAR, F_ordinal_w_CHAR, S_w_OBJECT, E_w_OBJECT, F_ordinal_w_OBJECT, S_w_FLOAT, E_w_FLOAT, F_ordinal_w_FLOAT, S_w_DOUBLE, E_w_DOUBLE, F_ordinal_w_DOUBLE, S_w_LONG, E_w_LONG, F_ordinal_w_LONG, S_w_SHORT, E_w_SHORT, F_ordinal_w_SHORT, S_w_BOOLEAN, E_w_BOOLEAN, F_ordinal_w_BOOLEAN⟩ := G'
  obtain ⟨fs, hr, hrun, hended, hW, hsame⟩ := X0.leave (v := some .null) (fun h => by rw [Bd.returns] at h; cases h)
  refine ⟨_, _, pre0 _ ?_, hrun, hended, _, _, rfl, ?_, ⟨_, rfl⟩, hW, hsame.mono (by decide) (by decide)⟩
  · show Steps p.tables e below (s₁.setTop (mkF m 0 #[.val (.int (3 : Int32))] [])) _
    refine XS.iloadN X0.here hx rfl (hb hby d1_0) rfl ?_
    show Steps p.tables e below (s₁.setTop (mkF m 1 #[.val (.int (3 : Int32))] [(.int (3 : Int32))])) _
    refine XS.tswIn X0.here hx rfl (pc0 := 1) (pc' := 110) rfl (hb hby d1_1) rfl (by decide) (o := 109) (by decide) (by decide) (by decide) ?_
    show Steps p.tables e below (s₁.setTop (mkF m 110 #[.val (.int (3 : Int32))] [])) _
    refine XS.aconstNull X0.here hx rfl (hb hby d1_110) ?_
    show Steps p.tables e below (s₁.setTop (mkF m 111 #[.val (.int (3 : Int32))] [.null])) _
    exact retOut X0 hx Bd.returns rfl (Or.inr (Or.inr (Or.inr (Or.inr ⟨rfl, rfl, rfl⟩)))) (hb hby d1_111) hr
  · show QR _ h0 n0 _ s₁.heap _
    rw [e0]
    exact ⟨rfl, N0, rfl⟩
set_option maxRecDepth 65536 in
set_option maxHeartbeats 40000000 in
theorem raw_3 (l : Launch) (Z : State) (a0 : Array Value) (hw : ∀ d ∈ tables_1, d.before a0 Z = true) (ws : List Jvm.Cond) (w_INT : Addr) (w_BYTE : Addr) (w_CHAR : Addr) (w_OBJECT : Addr) (w_FLOAT : Addr) (w_DOUBLE : Addr) (w_LONG : Addr) (w_SHORT : Addr) (w_BOOLEAN : Addr) (h0 : Heap) (n0 : Nat) (Z0 : n0 ≤ h0.size) (G : Glob Z h0 w_INT w_BYTE w_CHAR w_OBJECT w_FLOAT w_DOUBLE w_LONG w_SHORT w_BOOLEAN) (p1 : Int32) (hs : ¬ ((p1 &&& (1 : Int32)) = (0 : Int32))) :
    MetFree l x (head1 (Jvm.Cond.code x code maxLocals ret :: ws) room_1) (fun a U => a = #[(.int (3 : Int32)), (.int p1)] ∧ Z.Warmed39 U.vm ∧ U.heap = h0) (fun _ _ _ _ _ => True) (fun _ U o U' => ∃ v L, o = .returned v ∧ QL (some (.int (1 : Int32))) h0 n0 v U'.heap L ∧ FrameEnd U o U' L room_1.cells room_1.slots) := by
  refine MetFree.of_bodySF (plainFor_of_name pn_com_example_refleash_refleash_hprof_BasicTypeOfPinLaw) hisR ?_
  intro p e s m args below meth c s₁ Bd hml0 hP hK
  obtain ⟨rfl, hZ, hh⟩ := hP
  have hx := Bd.exec
  have hby := Bd.bytes
  have hml : c.maxLocals = 6 := hml0
  have hown : s.vm.findClass "com/example/refleash/refleash/hprof/BasicTypeOfPinLaw" = some m.cls := findClass_of_methodNamed Bd.named
  have X0 : Stand p l e room_1 s m #[(.int (3 : Int32)), (.int p1)] below meth c s₁ [] 0 0 := Stand.of_body Bd
  have e0 : s₁.heap = h0 := by rw [← hh, Bd.state]; rfl
  have N0 := Fr.nil n0
  have pre0 : ∀ t, Steps p.tables e below (s₁.setTop (mkF m 0 #[.val (.int (3 : Int32)), .val (.int p1), .unset, .unset, .unset, .unset] [])) t → Steps p.tables e below (s₁.setTop (entryFrame m #[(.int (3 : Int32)), (.int p1)] maxLocals)) t := fun t k => castTop (ef_0_II m (3 : Int32) p1) k
  have G' := G
  obtain ⟨S_w_INT, E_w_INT, F_ordinal_w_INT, S_w_BYTE, E_w_BYTE, F_ordinal_w_BYTE, S_w_CHAR, E_w_CHAR, F_ordinal_w_CHAR, S_w_OBJECT, E_w_OBJECT, F_ordinal_w_OBJECT, S_w_FLOAT, E_w_FLOAT, F_ordinal_w_FLOAT, S_w_DOUBLE, E_w_DOUBLE, F_ordinal_w_DOUBLE, S_w_LONG, E_w_LONG, F_ordinal_w_LONG, S_w_SHORT, E_w_SHORT, F_ordinal_w_SHORT, S_w_BOOLEAN, E_w_BOOLEAN, F_ordinal_w_BOOLEAN⟩ := G'
  obtain ⟨_, _, ⟨T1, L1, k1, n1⟩, -, X1, ⟨Lc1, hQ1, l1, y1, z1⟩, st1⟩ := Jvm.LawKit.callS X0 hx (y := (⟨"com/example/refleash/refleash/hprof/BasicType", "of", "(I)Lcom/example/refleash/refleash/hprof/BasicType;"⟩ : MethodName)) hown (mvT hZ (hw _ (List.mem_of_getElem? (i := 0) rfl))) (mvT hZ (hw _ (List.mem_of_getElem? (i := 1) rfl))) (mvT hZ (hw _ (List.mem_of_getElem? (i := 2) rfl))) (mvT hZ (hw _ (List.mem_of_getElem? (i := 3) rfl))) (by decide) (backOf (W := 0) (c1_9 l Z a0 hw [] w_INT w_BYTE w_CHAR w_OBJECT w_FLOAT w_DOUBLE w_LONG w_SHORT w_BOOLEAN h0 n0 Z0 G) hZ (hw _ (List.mem_of_getElem? (i := 3) rfl)) (hw _ (List.mem_of_getElem? (i := 2) rfl)) (by decide) (by decide)) (g := (mkF m 18 #[.val (.int (3 : Int32)), .val (.int p1), .val (.int (3 : Int32)), .unset, .unset, .unset] [(.int (3 : Int32))])) rfl (by rw [hml]; rfl) (argsL := [(.int (3 : Int32))]) (rest := []) (lenOf pd__I_Lcom_example_refleash_refleash_hprof_BasicType_ rfl) rfl (by show 2 * 0 + _ ≤ _; exact Nat.le_of_eq rfl) (hb hby at_18) (fun _ _ => ⟨rfl, e0, (by decide : 0 + 0 ≤ _), (by decide : 0 + 0 ≤ _)⟩)
  dsimp only [Pt.U, Pt.locs, Pt.cells, Pt.slots] at X1 l1 y1 z1 st1 hQ1
  subst l1 y1 z1
  obtain ⟨rfl, N1q, e1⟩ := hQ1
  have N1 := Fr.app N0 N1q
  obtain ⟨fs, hr, hrun, hended, hW, hsame⟩ := X1.leave (v := some (.int (1 : Int32))) (fun h => by rw [Bd.returns] at h; cases h)
  refine ⟨_, _, pre0 _ ?_, hrun, hended, _, _, rfl, ?_, ⟨_, rfl⟩, hW, hsame.mono (by decide) (by decide)⟩
  · show Steps p.tables e below (s₁.setTop (mkF m 0 #[.val (.int (3 : Int32)), .val (.int p1), .unset, .unset, .unset, .unset] [])) _
    refine XS.iloadN X0.here hx rfl (hb hby at_0) rfl ?_
    show Steps p.tables e below (s₁.setTop (mkF m 1 #[.val (.int (3 : Int32)), .val (.int p1), .unset, .unset, .unset, .unset] [(.int p1)])) _
    refine XS.iconst X0.here hx rfl (hb hby at_1) ?_
    show Steps p.tables e below (s₁.setTop (mkF m 2 #[.val (.int (3 : Int32)), .val (.int p1), .unset, .unset, .unset, .unset] [(.int (1 : Int32)), (.int p1)])) _
    refine XS.iand X0.here hx rfl (hb hby at_2) rfl ?_
    show Steps p.tables e below (s₁.setTop (mkF m 3 #[.val (.int (3 : Int32)), .val (.int p1), .unset, .unset, .unset, .unset] [(.int (p1 &&& (1 : Int32)))])) _
    refine XS.ifNo X0.here hx rfl (hb hby at_3) rfl ((if0 _ _).trans (feq (hs : ¬ ((p1 &&& (1 : Int32)) = (0 : Int32)))).1) ?_
    show Steps p.tables e below (s₁.setTop (mkF m 6 #[.val (.int (3 : Int32)), .val (.int p1), .unset, .unset, .unset, .unset] [])) _
    refine XS.iloadN X0.here hx rfl (hb hby at_6) rfl ?_
    show Steps p.tables e below (s₁.setTop (mkF m 7 #[.val (.int (3 : Int32)), .val (.int p1), .unset, .unset, .unset, .unset] [(.int (3 : Int32))])) _
    refine XS.goto X0.here hx rfl (pc0 := 7) (pc' := 16) rfl (hb hby at_7) (by decide) (by decide) ?_
    show Steps p.tables e below (s₁.setTop (mkF m 16 #[.val (.int (3 : Int32)), .val (.int p1), .unset, .unset, .unset, .unset] [(.int (3 : Int32))])) _
    refine XS.istoreN X0.here hx rfl (hb hby at_16) rfl (l' := #[.val (.int (3 : Int32)), .val (.int p1), .val (.int (3 : Int32)), .unset, .unset, .unset]) rfl ?_
    show Steps p.tables e below (s₁.setTop (mkF m 17 #[.val (.int (3 : Int32)), .val (.int p1), .val (.int (3 : Int32)), .unset, .unset, .unset] [])) _
    refine XS.iloadN X0.here hx rfl (hb hby at_17) rfl ?_
    show Steps p.tables e below (s₁.setTop (mkF m 18 #[.val (.int (3 : Int32)), .val (.int p1), .val (.int (3 : Int32)), .unset, .unset, .unset] [(.int (3 : Int32))])) _
    refine st1 _ ?_
    show Steps p.tables e below (T1.setTop (mkF m 21 #[.val (.int (3 : Int32)), .val (.int p1), .val (.int (3 : Int32)), .unset, .unset, .unset] [.null])) _
    refine XS.astoreN X1.here hx rfl (hb hby at_21) rfl rfl (l' := #[.val (.int (3 : Int32)), .val (.int p1), .val (.int (3 : Int32)), .val .null, .unset, .unset]) rfl ?_
    show Steps p.tables e below (T1.setTop (mkF m 22 #[.val (.int (3 : Int32)), .val (.int p1), .val (.int (3 : Int32)), .val .null, .unset, .unset] [])) _
    refine XS.iloadN X1.here hx rfl (hb hby at_22) rfl ?_
    show Steps p.tables e below (T1.setTop (mkF m 23 #[.val (.int (3 : Int32)), .val (.int p1), .val (.int (3 : Int32)), .val .null, .unset, .unset] [(.int (3 : Int32))])) _
    refine XS.iconst X1.here hx rfl (hb hby at_23) ?_
    show Steps p.tables e below (T1.setTop (mkF m 24 #[.val (.int (3 : Int32)), .val (.int p1), .val (.int (3 : Int32)), .val .null, .unset, .unset] [(.int (2 : Int32)), (.int (3 : Int32))])) _
    refine XS.icmpNo X1.here hx rfl (hb hby at_24) rfl (feq (by decide : ¬ ((3 : Int32) = (2 : Int32)))).1 ?_
    show Steps p.tables e below (T1.setTop (mkF m 27 #[.val (.int (3 : Int32)), .val (.int p1), .val (.int (3 : Int32)), .val .null, .unset, .unset] [])) _
    refine XS.iloadN X1.here hx rfl (hb hby at_27) rfl ?_
    show Steps p.tables e below (T1.setTop (mkF m 28 #[.val (.int (3 : Int32)), .val (.int p1), .val (.int (3 : Int32)), .val .null, .unset, .unset] [(.int (3 : Int32))])) _
    refine XS.iconst X1.here hx rfl (hb hby at_28) ?_
    show Steps p.tables e below (T1.setTop (mkF m 29 #[.val (.int (3 : Int32)), .val (.int p1), .val (.int (3 : Int32)), .val .null, .unset, .unset] [(.int (4 : Int32)), (.int (3 : Int32))])) _
    refine XS.icmpYes X1.here hx rfl (pc0 := 29) (pc' := 42) rfl (hb hby at_29) rfl (tlt (by decide : (3 : Int32) < (4 : Int32))).1 (by decide) (by decide) ?_
    show Steps p.tables e below (T1.setTop (mkF m 42 #[.val (.int (3 : Int32)), .val (.int p1), .val (.int (3 : Int32)), .val .null, .unset, .unset] [])) _
    refine XS.iconst X1.here hx rfl (hb hby at_42) ?_
    show Steps p.tables e below (T1.setTop (mkF m 43 #[.val (.int (3 : Int32)), .val (.int p1), .val (.int (3 : Int32)), .val .null, .unset, .unset] [(.int (0 : Int32))])) _
    refine XS.istore X1.here hx rfl (hb hby at_43) rfl (l' := #[.val (.int (3 : Int32)), .val (.int p1), .val (.int (3 : Int32)), .val .null, .val (.int (0 : Int32)), .unset]) rfl ?_
    show Steps p.tables e below (T1.setTop (mkF m 45 #[.val (.int (3 : Int32)), .val (.int p1), .val (.int (3 : Int32)), .val .null, .val (.int (0 : Int32)), .unset] [])) _
    refine XS.iload X1.here hx rfl (hb hby at_45) rfl ?_
    show Steps p.tables e below (T1.setTop (mkF m 47 #[.val (.int (3 : Int32)), .val (.int p1), .val (.int (3 : Int32)), .val .null, .val (.int (0 : Int32)), .unset] [(.int (0 : Int32))])) _
    refine XS.ifNo X1.here hx rfl (hb hby at_47) rfl ((if0 _ _).trans (teq (by decide : (0 : Int32) = (0 : Int32))).2) ?_
    show Steps p.tables e below (T1.setTop (mkF m 50 #[.val (.int (3 : Int32)), .val (.int p1), .val (.int (3 : Int32)), .val .null, .val (.int (0 : Int32)), .unset] [])) _
    refine XS.aloadN X1.here hx rfl (hb hby at_50) rfl rfl ?_
    show Steps p.tables e below (T1.setTop (mkF m 51 #[.val (.int (3 : Int32)), .val (.int p1), .val (.int (3 : Int32)), .val .null, .val (.int (0 : Int32)), .unset] [.null])) _
    refine XS.ifnonnullNo X1.here hx rfl (hb hby at_51) rfl ?_
    show Steps p.tables e below (T1.setTop (mkF m 54 #[.val (.int (3 : Int32)), .val (.int p1), .val (.int (3 : Int32)), .val .null, .val (.int (0 : Int32)), .unset] [])) _
    refine XS.iconst X1.here hx rfl (hb hby at_54) ?_
    show Steps p.tables e below (T1.setTop (mkF m 55 #[.val (.int (3 : Int32)), .val (.int p1), .val (.int (3 : Int32)), .val .null, .val (.int (0 : Int32)), .unset] [(.int (1 : Int32))])) _
    refine XS.goto X1.here hx rfl (pc0 := 55) (pc' := 59) rfl (hb hby at_55) (by decide) (by decide) ?_
    show Steps p.tables e below (T1.setTop (mkF m 59 #[.val (.int (3 : Int32)), .val (.int p1), .val (.int (3 : Int32)), .val .null, .val (.int (0 : Int32)), .unset] [(.int (1 : Int32))])) _
    exact retOut X1 hx Bd.returns rfl (Or.inl ⟨rfl, Or.inr (Or.inl rfl), _, rfl⟩) (hb hby at_59) hr
  · exact ⟨rfl, N1⟩
theorem own_lo_2 {p : Int32} (h : p < 2) : ¬ (p = 2) := by
  rintro rfl; exact absurd h (by decide)
theorem own_lo_4 {p : Int32} (h : p < 2) : p < 4 := by
  rw [Int32.lt_iff_toInt_lt] at *
  have a : (2 : Int32).toInt = 2 := by decide
  have b : (4 : Int32).toInt = 4 := by decide
  omega
theorem own_lo_sw {p : Int32} (h : p < 2) : p.toInt < 2 ∨ p.toInt > 11 := by
  rw [Int32.lt_iff_toInt_lt] at h
  have a : (2 : Int32).toInt = 2 := by decide
  omega
theorem own_hi_2 {p : Int32} (h : 11 < p) : ¬ (p = 2) := by
  rintro rfl; exact absurd h (by decide)
theorem own_hi_4 {p : Int32} (h : 11 < p) : ¬ (p < 4) := by
  rw [Int32.lt_iff_toInt_lt] at *
  have a : (11 : Int32).toInt = 11 := by decide
  have b : (4 : Int32).toInt = 4 := by decide
  omega
theorem own_hi_sw {p : Int32} (h : 11 < p) : p.toInt < 2 ∨ p.toInt > 11 := by
  rw [Int32.lt_iff_toInt_lt] at h
  have a : (11 : Int32).toInt = 11 := by decide
  omega
set_option maxRecDepth 65536 in
set_option maxHeartbeats 40000000 in
theorem c1_10 (l : Launch) (Z : State) (a0 : Array Value) (hw : ∀ d ∈ tables_1, d.before a0 Z = true) (ws : List Jvm.Cond) (w_INT : Addr) (w_BYTE : Addr) (w_CHAR : Addr) (w_OBJECT : Addr) (w_FLOAT : Addr) (w_DOUBLE : Addr) (w_LONG : Addr) (w_SHORT : Addr) (w_BOOLEAN : Addr) (h0 : Heap) (n0 : Nat) (Z0 : n0 ≤ h0.size) (G : Glob Z h0 w_INT w_BYTE w_CHAR w_OBJECT w_FLOAT w_DOUBLE w_LONG w_SHORT w_BOOLEAN) (p0 p1 : Int32) (hs : ¬ ((p1 &&& (1 : Int32)) = (0 : Int32))) (hraw : p0 < (2 : Int32)) :
    MetFree l (⟨"com/example/refleash/refleash/hprof/BasicType", "of", "(I)Lcom/example/refleash/refleash/hprof/BasicType;"⟩ : MethodName) (head1 (Jvm.Cond.code (⟨"com/example/refleash/refleash/hprof/BasicType", "of", "(I)Lcom/example/refleash/refleash/hprof/BasicType;"⟩ : MethodName) prog_56_method_4_code 1 (some (.object "com/example/refleash/refleash/hprof/BasicType")) :: ws) ({ frames := 0, cells := 0, slots := 0, locals := 0 } : Room)) (fun a U => a = #[(.int p0)] ∧ Z.Warmed39 U.vm ∧ U.heap = h0) (fun _ _ _ _ _ => True) (fun _ U o U' => ∃ v L, o = .returned v ∧ QR (some .null) h0 n0 v U'.heap L ∧ FrameEnd U o U' L ({ frames := 0, cells := 0, slots := 0, locals := 0 } : Room).cells ({ frames := 0, cells := 0, slots := 0, locals := 0 } : Room).slots) := by
  refine MetFree.of_bodySF (plainFor_of_name pn_com_example_refleash_refleash_hprof_BasicType) hisR ?_
  intro p e s m args below meth c s₁ Bd hml0 hP hK
  obtain ⟨rfl, hZ, hh⟩ := hP
  have hx := Bd.exec
  have hby := Bd.bytes
  have hml : c.maxLocals = 1 := hml0
  have hown : s.vm.findClass "com/example/refleash/refleash/hprof/BasicType" = some m.cls := findClass_of_methodNamed Bd.named
  have X0 : Stand p l e ({ frames := 0, cells := 0, slots := 0, locals := 0 } : Room) s m #[(.int p0)] below meth c s₁ [] 0 0 := Stand.of_body Bd
  have e0 : s₁.heap = h0 := by rw [← hh, Bd.state]; rfl
  have N0 := Fr.nil n0
  have pre0 : ∀ t, Steps p.tables e below (s₁.setTop (mkF m 0 #[.val (.int p0)] [])) t → Steps p.tables e below (s₁.setTop (entryFrame m #[(.int p0)] 1)) t := fun t k => castTop (ef_1_I m p0) k
  have G' := G
  obtain ⟨S_w_INT, E_w_INT, F_ordinal_w_INT, S_w_BYTE, E_w_BYTE, F_ordinal_w_BYTE, S_w_CHAR, E_w_CHAR, F_ordinal_w_CHAR, S_w_OBJECT, E_w_OBJECT, F_ordinal_w_OBJECT, S_w_FLOAT, E_w_FLOAT, F_ordinal_w_FLOAT, S_w_DOUBLE, E_w_DOUBLE, F_ordinal_w_DOUBLE, S_w_LONG, E_w_LONG, F_ordinal_w_LONG, S_w_SHORT, E_w_SHORT, F_ordinal_w_SHORT, S_w_BOOLEAN, E_w_BOOLEAN, F_ordinal_w_BOOLEAN⟩ := G'
  obtain ⟨fs, hr, hrun, hended, hW, hsame⟩ := X0.leave (v := some .null) (fun h => by rw [Bd.returns] at h; cases h)
  refine ⟨_, _, pre0 _ ?_, hrun, hended, _, _, rfl, ?_, ⟨_, rfl⟩, hW, hsame.mono (by decide) (by decide)⟩
  · show Steps p.tables e below (s₁.setTop (mkF m 0 #[.val (.int p0)] [])) _
    refine XS.iloadN X0.here hx rfl (hb hby d1_0) rfl ?_
    show Steps p.tables e below (s₁.setTop (mkF m 1 #[.val (.int p0)] [(.int p0)])) _
    refine XS.tswOut X0.here hx rfl (pc0 := 1) (pc' := 110) rfl (hb hby d1_1) rfl (own_lo_sw hraw) (by decide) (by decide) ?_
    show Steps p.tables e below (s₁.setTop (mkF m 110 #[.val (.int p0)] [])) _
    refine XS.aconstNull X0.here hx rfl (hb hby d1_110) ?_
    show Steps p.tables e below (s₁.setTop (mkF m 111 #[.val (.int p0)] [.null])) _
    exact retOut X0 hx Bd.returns rfl (Or.inr (Or.inr (Or.inr (Or.inr ⟨rfl, rfl, rfl⟩)))) (hb hby d1_111) hr
  · show QR _ h0 n0 _ s₁.heap _
    rw [e0]
    exact ⟨rfl, N0, rfl⟩
set_option maxRecDepth 65536 in
set_option maxHeartbeats 40000000 in
theorem raw_lo (l : Launch) (Z : State) (a0 : Array Value) (hw : ∀ d ∈ tables_1, d.before a0 Z = true) (ws : List Jvm.Cond) (w_INT : Addr) (w_BYTE : Addr) (w_CHAR : Addr) (w_OBJECT : Addr) (w_FLOAT : Addr) (w_DOUBLE : Addr) (w_LONG : Addr) (w_SHORT : Addr) (w_BOOLEAN : Addr) (h0 : Heap) (n0 : Nat) (Z0 : n0 ≤ h0.size) (G : Glob Z h0 w_INT w_BYTE w_CHAR w_OBJECT w_FLOAT w_DOUBLE w_LONG w_SHORT w_BOOLEAN) (p0 p1 : Int32) (hs : ¬ ((p1 &&& (1 : Int32)) = (0 : Int32))) (hraw : p0 < (2 : Int32)) :
    MetFree l x (head1 (Jvm.Cond.code x code maxLocals ret :: ws) room_1) (fun a U => a = #[(.int p0), (.int p1)] ∧ Z.Warmed39 U.vm ∧ U.heap = h0) (fun _ _ _ _ _ => True) (fun _ U o U' => ∃ v L, o = .returned v ∧ QL (some (.int (1 : Int32))) h0 n0 v U'.heap L ∧ FrameEnd U o U' L room_1.cells room_1.slots) := by
  refine MetFree.of_bodySF (plainFor_of_name pn_com_example_refleash_refleash_hprof_BasicTypeOfPinLaw) hisR ?_
  intro p e s m args below meth c s₁ Bd hml0 hP hK
  obtain ⟨rfl, hZ, hh⟩ := hP
  have hx := Bd.exec
  have hby := Bd.bytes
  have hml : c.maxLocals = 6 := hml0
  have hown : s.vm.findClass "com/example/refleash/refleash/hprof/BasicTypeOfPinLaw" = some m.cls := findClass_of_methodNamed Bd.named
  have X0 : Stand p l e room_1 s m #[(.int p0), (.int p1)] below meth c s₁ [] 0 0 := Stand.of_body Bd
  have e0 : s₁.heap = h0 := by rw [← hh, Bd.state]; rfl
  have N0 := Fr.nil n0
  have pre0 : ∀ t, Steps p.tables e below (s₁.setTop (mkF m 0 #[.val (.int p0), .val (.int p1), .unset, .unset, .unset, .unset] [])) t → Steps p.tables e below (s₁.setTop (entryFrame m #[(.int p0), (.int p1)] maxLocals)) t := fun t k => castTop (ef_0_II m p0 p1) k
  have G' := G
  obtain ⟨S_w_INT, E_w_INT, F_ordinal_w_INT, S_w_BYTE, E_w_BYTE, F_ordinal_w_BYTE, S_w_CHAR, E_w_CHAR, F_ordinal_w_CHAR, S_w_OBJECT, E_w_OBJECT, F_ordinal_w_OBJECT, S_w_FLOAT, E_w_FLOAT, F_ordinal_w_FLOAT, S_w_DOUBLE, E_w_DOUBLE, F_ordinal_w_DOUBLE, S_w_LONG, E_w_LONG, F_ordinal_w_LONG, S_w_SHORT, E_w_SHORT, F_ordinal_w_SHORT, S_w_BOOLEAN, E_w_BOOLEAN, F_ordinal_w_BOOLEAN⟩ := G'
  obtain ⟨_, _, ⟨T1, L1, k1, n1⟩, -, X1, ⟨Lc1, hQ1, l1, y1, z1⟩, st1⟩ := Jvm.LawKit.callS X0 hx (y := (⟨"com/example/refleash/refleash/hprof/BasicType", "of", "(I)Lcom/example/refleash/refleash/hprof/BasicType;"⟩ : MethodName)) hown (mvT hZ (hw _ (List.mem_of_getElem? (i := 0) rfl))) (mvT hZ (hw _ (List.mem_of_getElem? (i := 1) rfl))) (mvT hZ (hw _ (List.mem_of_getElem? (i := 2) rfl))) (mvT hZ (hw _ (List.mem_of_getElem? (i := 3) rfl))) (by decide) (backOf (W := 0) (c1_10 l Z a0 hw [] w_INT w_BYTE w_CHAR w_OBJECT w_FLOAT w_DOUBLE w_LONG w_SHORT w_BOOLEAN h0 n0 Z0 G p0 p1 hs hraw) hZ (hw _ (List.mem_of_getElem? (i := 3) rfl)) (hw _ (List.mem_of_getElem? (i := 2) rfl)) (by decide) (by decide)) (g := (mkF m 18 #[.val (.int p0), .val (.int p1), .val (.int p0), .unset, .unset, .unset] [(.int p0)])) rfl (by rw [hml]; rfl) (argsL := [(.int p0)]) (rest := []) (lenOf pd__I_Lcom_example_refleash_refleash_hprof_BasicType_ rfl) rfl (by show 2 * 0 + _ ≤ _; exact Nat.le_of_eq rfl) (hb hby at_18) (fun _ _ => ⟨rfl, e0, (by decide : 0 + 0 ≤ _), (by decide : 0 + 0 ≤ _)⟩)
  dsimp only [Pt.U, Pt.locs, Pt.cells, Pt.slots] at X1 l1 y1 z1 st1 hQ1
  subst l1 y1 z1
  obtain ⟨rfl, N1q, e1⟩ := hQ1
  have N1 := Fr.app N0 N1q
  obtain ⟨fs, hr, hrun, hended, hW, hsame⟩ := X1.leave (v := some (.int (1 : Int32))) (fun h => by rw [Bd.returns] at h; cases h)
  refine ⟨_, _, pre0 _ ?_, hrun, hended, _, _, rfl, ?_, ⟨_, rfl⟩, hW, hsame.mono (by decide) (by decide)⟩
  · show Steps p.tables e below (s₁.setTop (mkF m 0 #[.val (.int p0), .val (.int p1), .unset, .unset, .unset, .unset] [])) _
    refine XS.iloadN X0.here hx rfl (hb hby at_0) rfl ?_
    show Steps p.tables e below (s₁.setTop (mkF m 1 #[.val (.int p0), .val (.int p1), .unset, .unset, .unset, .unset] [(.int p1)])) _
    refine XS.iconst X0.here hx rfl (hb hby at_1) ?_
    show Steps p.tables e below (s₁.setTop (mkF m 2 #[.val (.int p0), .val (.int p1), .unset, .unset, .unset, .unset] [(.int (1 : Int32)), (.int p1)])) _
    refine XS.iand X0.here hx rfl (hb hby at_2) rfl ?_
    show Steps p.tables e below (s₁.setTop (mkF m 3 #[.val (.int p0), .val (.int p1), .unset, .unset, .unset, .unset] [(.int (p1 &&& (1 : Int32)))])) _
    refine XS.ifNo X0.here hx rfl (hb hby at_3) rfl ((if0 _ _).trans (feq (hs : ¬ ((p1 &&& (1 : Int32)) = (0 : Int32)))).1) ?_
    show Steps p.tables e below (s₁.setTop (mkF m 6 #[.val (.int p0), .val (.int p1), .unset, .unset, .unset, .unset] [])) _
    refine XS.iloadN X0.here hx rfl (hb hby at_6) rfl ?_
    show Steps p.tables e below (s₁.setTop (mkF m 7 #[.val (.int p0), .val (.int p1), .unset, .unset, .unset, .unset] [(.int p0)])) _
    refine XS.goto X0.here hx rfl (pc0 := 7) (pc' := 16) rfl (hb hby at_7) (by decide) (by decide) ?_
    show Steps p.tables e below (s₁.setTop (mkF m 16 #[.val (.int p0), .val (.int p1), .unset, .unset, .unset, .unset] [(.int p0)])) _
    refine XS.istoreN X0.here hx rfl (hb hby at_16) rfl (l' := #[.val (.int p0), .val (.int p1), .val (.int p0), .unset, .unset, .unset]) rfl ?_
    show Steps p.tables e below (s₁.setTop (mkF m 17 #[.val (.int p0), .val (.int p1), .val (.int p0), .unset, .unset, .unset] [])) _
    refine XS.iloadN X0.here hx rfl (hb hby at_17) rfl ?_
    show Steps p.tables e below (s₁.setTop (mkF m 18 #[.val (.int p0), .val (.int p1), .val (.int p0), .unset, .unset, .unset] [(.int p0)])) _
    refine st1 _ ?_
    show Steps p.tables e below (T1.setTop (mkF m 21 #[.val (.int p0), .val (.int p1), .val (.int p0), .unset, .unset, .unset] [.null])) _
    refine XS.astoreN X1.here hx rfl (hb hby at_21) rfl rfl (l' := #[.val (.int p0), .val (.int p1), .val (.int p0), .val .null, .unset, .unset]) rfl ?_
    show Steps p.tables e below (T1.setTop (mkF m 22 #[.val (.int p0), .val (.int p1), .val (.int p0), .val .null, .unset, .unset] [])) _
    refine XS.iloadN X1.here hx rfl (hb hby at_22) rfl ?_
    show Steps p.tables e below (T1.setTop (mkF m 23 #[.val (.int p0), .val (.int p1), .val (.int p0), .val .null, .unset, .unset] [(.int p0)])) _
    refine XS.iconst X1.here hx rfl (hb hby at_23) ?_
    show Steps p.tables e below (T1.setTop (mkF m 24 #[.val (.int p0), .val (.int p1), .val (.int p0), .val .null, .unset, .unset] [(.int (2 : Int32)), (.int p0)])) _
    refine XS.icmpNo X1.here hx rfl (hb hby at_24) rfl (feq (own_lo_2 hraw : ¬ (p0 = (2 : Int32)))).1 ?_
    show Steps p.tables e below (T1.setTop (mkF m 27 #[.val (.int p0), .val (.int p1), .val (.int p0), .val .null, .unset, .unset] [])) _
    refine XS.iloadN X1.here hx rfl (hb hby at_27) rfl ?_
    show Steps p.tables e below (T1.setTop (mkF m 28 #[.val (.int p0), .val (.int p1), .val (.int p0), .val .null, .unset, .unset] [(.int p0)])) _
    refine XS.iconst X1.here hx rfl (hb hby at_28) ?_
    show Steps p.tables e below (T1.setTop (mkF m 29 #[.val (.int p0), .val (.int p1), .val (.int p0), .val .null, .unset, .unset] [(.int (4 : Int32)), (.int p0)])) _
    refine XS.icmpYes X1.here hx rfl (pc0 := 29) (pc' := 42) rfl (hb hby at_29) rfl (tlt (own_lo_4 hraw : p0 < (4 : Int32))).1 (by decide) (by decide) ?_
    show Steps p.tables e below (T1.setTop (mkF m 42 #[.val (.int p0), .val (.int p1), .val (.int p0), .val .null, .unset, .unset] [])) _
    refine XS.iconst X1.here hx rfl (hb hby at_42) ?_
    show Steps p.tables e below (T1.setTop (mkF m 43 #[.val (.int p0), .val (.int p1), .val (.int p0), .val .null, .unset, .unset] [(.int (0 : Int32))])) _
    refine XS.istore X1.here hx rfl (hb hby at_43) rfl (l' := #[.val (.int p0), .val (.int p1), .val (.int p0), .val .null, .val (.int (0 : Int32)), .unset]) rfl ?_
    show Steps p.tables e below (T1.setTop (mkF m 45 #[.val (.int p0), .val (.int p1), .val (.int p0), .val .null, .val (.int (0 : Int32)), .unset] [])) _
    refine XS.iload X1.here hx rfl (hb hby at_45) rfl ?_
    show Steps p.tables e below (T1.setTop (mkF m 47 #[.val (.int p0), .val (.int p1), .val (.int p0), .val .null, .val (.int (0 : Int32)), .unset] [(.int (0 : Int32))])) _
    refine XS.ifNo X1.here hx rfl (hb hby at_47) rfl ((if0 _ _).trans (teq (by decide : (0 : Int32) = (0 : Int32))).2) ?_
    show Steps p.tables e below (T1.setTop (mkF m 50 #[.val (.int p0), .val (.int p1), .val (.int p0), .val .null, .val (.int (0 : Int32)), .unset] [])) _
    refine XS.aloadN X1.here hx rfl (hb hby at_50) rfl rfl ?_
    show Steps p.tables e below (T1.setTop (mkF m 51 #[.val (.int p0), .val (.int p1), .val (.int p0), .val .null, .val (.int (0 : Int32)), .unset] [.null])) _
    refine XS.ifnonnullNo X1.here hx rfl (hb hby at_51) rfl ?_
    show Steps p.tables e below (T1.setTop (mkF m 54 #[.val (.int p0), .val (.int p1), .val (.int p0), .val .null, .val (.int (0 : Int32)), .unset] [])) _
    refine XS.iconst X1.here hx rfl (hb hby at_54) ?_
    show Steps p.tables e below (T1.setTop (mkF m 55 #[.val (.int p0), .val (.int p1), .val (.int p0), .val .null, .val (.int (0 : Int32)), .unset] [(.int (1 : Int32))])) _
    refine XS.goto X1.here hx rfl (pc0 := 55) (pc' := 59) rfl (hb hby at_55) (by decide) (by decide) ?_
    show Steps p.tables e below (T1.setTop (mkF m 59 #[.val (.int p0), .val (.int p1), .val (.int p0), .val .null, .val (.int (0 : Int32)), .unset] [(.int (1 : Int32))])) _
    exact retOut X1 hx Bd.returns rfl (Or.inl ⟨rfl, Or.inr (Or.inl rfl), _, rfl⟩) (hb hby at_59) hr
  · exact ⟨rfl, N1⟩
set_option maxRecDepth 65536 in
set_option maxHeartbeats 40000000 in
theorem c1_11 (l : Launch) (Z : State) (a0 : Array Value) (hw : ∀ d ∈ tables_1, d.before a0 Z = true) (ws : List Jvm.Cond) (w_INT : Addr) (w_BYTE : Addr) (w_CHAR : Addr) (w_OBJECT : Addr) (w_FLOAT : Addr) (w_DOUBLE : Addr) (w_LONG : Addr) (w_SHORT : Addr) (w_BOOLEAN : Addr) (h0 : Heap) (n0 : Nat) (Z0 : n0 ≤ h0.size) (G : Glob Z h0 w_INT w_BYTE w_CHAR w_OBJECT w_FLOAT w_DOUBLE w_LONG w_SHORT w_BOOLEAN) (p0 p1 : Int32) (hs : ¬ ((p1 &&& (1 : Int32)) = (0 : Int32))) (hraw : (11 : Int32) < p0) :
    MetFree l (⟨"com/example/refleash/refleash/hprof/BasicType", "of", "(I)Lcom/example/refleash/refleash/hprof/BasicType;"⟩ : MethodName) (head1 (Jvm.Cond.code (⟨"com/example/refleash/refleash/hprof/BasicType", "of", "(I)Lcom/example/refleash/refleash/hprof/BasicType;"⟩ : MethodName) prog_56_method_4_code 1 (some (.object "com/example/refleash/refleash/hprof/BasicType")) :: ws) ({ frames := 0, cells := 0, slots := 0, locals := 0 } : Room)) (fun a U => a = #[(.int p0)] ∧ Z.Warmed39 U.vm ∧ U.heap = h0) (fun _ _ _ _ _ => True) (fun _ U o U' => ∃ v L, o = .returned v ∧ QR (some .null) h0 n0 v U'.heap L ∧ FrameEnd U o U' L ({ frames := 0, cells := 0, slots := 0, locals := 0 } : Room).cells ({ frames := 0, cells := 0, slots := 0, locals := 0 } : Room).slots) := by
  refine MetFree.of_bodySF (plainFor_of_name pn_com_example_refleash_refleash_hprof_BasicType) hisR ?_
  intro p e s m args below meth c s₁ Bd hml0 hP hK
  obtain ⟨rfl, hZ, hh⟩ := hP
  have hx := Bd.exec
  have hby := Bd.bytes
  have hml : c.maxLocals = 1 := hml0
  have hown : s.vm.findClass "com/example/refleash/refleash/hprof/BasicType" = some m.cls := findClass_of_methodNamed Bd.named
  have X0 : Stand p l e ({ frames := 0, cells := 0, slots := 0, locals := 0 } : Room) s m #[(.int p0)] below meth c s₁ [] 0 0 := Stand.of_body Bd
  have e0 : s₁.heap = h0 := by rw [← hh, Bd.state]; rfl
  have N0 := Fr.nil n0
  have pre0 : ∀ t, Steps p.tables e below (s₁.setTop (mkF m 0 #[.val (.int p0)] [])) t → Steps p.tables e below (s₁.setTop (entryFrame m #[(.int p0)] 1)) t := fun t k => castTop (ef_1_I m p0) k
  have G' := G
  obtain ⟨S_w_INT, E_w_INT, F_ordinal_w_INT, S_w_BYTE, E_w_BYTE, F_ordinal_w_BYTE, S_w_CHAR, E_w_CHAR, F_ordinal_w_CHAR, S_w_OBJECT, E_w_OBJECT, F_ordinal_w_OBJECT, S_w_FLOAT, E_w_FLOAT, F_ordinal_w_FLOAT, S_w_DOUBLE, E_w_DOUBLE, F_ordinal_w_DOUBLE, S_w_LONG, E_w_LONG, F_ordinal_w_LONG, S_w_SHORT, E_w_SHORT, F_ordinal_w_SHORT, S_w_BOOLEAN, E_w_BOOLEAN, F_ordinal_w_BOOLEAN⟩ := G'
  obtain ⟨fs, hr, hrun, hended, hW, hsame⟩ := X0.leave (v := some .null) (fun h => by rw [Bd.returns] at h; cases h)
  refine ⟨_, _, pre0 _ ?_, hrun, hended, _, _, rfl, ?_, ⟨_, rfl⟩, hW, hsame.mono (by decide) (by decide)⟩
  · show Steps p.tables e below (s₁.setTop (mkF m 0 #[.val (.int p0)] [])) _
    refine XS.iloadN X0.here hx rfl (hb hby d1_0) rfl ?_
    show Steps p.tables e below (s₁.setTop (mkF m 1 #[.val (.int p0)] [(.int p0)])) _
    refine XS.tswOut X0.here hx rfl (pc0 := 1) (pc' := 110) rfl (hb hby d1_1) rfl (own_hi_sw hraw) (by decide) (by decide) ?_
    show Steps p.tables e below (s₁.setTop (mkF m 110 #[.val (.int p0)] [])) _
    refine XS.aconstNull X0.here hx rfl (hb hby d1_110) ?_
    show Steps p.tables e below (s₁.setTop (mkF m 111 #[.val (.int p0)] [.null])) _
    exact retOut X0 hx Bd.returns rfl (Or.inr (Or.inr (Or.inr (Or.inr ⟨rfl, rfl, rfl⟩)))) (hb hby d1_111) hr
  · show QR _ h0 n0 _ s₁.heap _
    rw [e0]
    exact ⟨rfl, N0, rfl⟩
set_option maxRecDepth 65536 in
set_option maxHeartbeats 40000000 in
theorem raw_hi (l : Launch) (Z : State) (a0 : Array Value) (hw : ∀ d ∈ tables_1, d.before a0 Z = true) (ws : List Jvm.Cond) (w_INT : Addr) (w_BYTE : Addr) (w_CHAR : Addr) (w_OBJECT : Addr) (w_FLOAT : Addr) (w_DOUBLE : Addr) (w_LONG : Addr) (w_SHORT : Addr) (w_BOOLEAN : Addr) (h0 : Heap) (n0 : Nat) (Z0 : n0 ≤ h0.size) (G : Glob Z h0 w_INT w_BYTE w_CHAR w_OBJECT w_FLOAT w_DOUBLE w_LONG w_SHORT w_BOOLEAN) (p0 p1 : Int32) (hs : ¬ ((p1 &&& (1 : Int32)) = (0 : Int32))) (hraw : (11 : Int32) < p0) :
    MetFree l x (head1 (Jvm.Cond.code x code maxLocals ret :: ws) room_1) (fun a U => a = #[(.int p0), (.int p1)] ∧ Z.Warmed39 U.vm ∧ U.heap = h0) (fun _ _ _ _ _ => True) (fun _ U o U' => ∃ v L, o = .returned v ∧ QL (some (.int (1 : Int32))) h0 n0 v U'.heap L ∧ FrameEnd U o U' L room_1.cells room_1.slots) := by
  refine MetFree.of_bodySF (plainFor_of_name pn_com_example_refleash_refleash_hprof_BasicTypeOfPinLaw) hisR ?_
  intro p e s m args below meth c s₁ Bd hml0 hP hK
  obtain ⟨rfl, hZ, hh⟩ := hP
  have hx := Bd.exec
  have hby := Bd.bytes
  have hml : c.maxLocals = 6 := hml0
  have hown : s.vm.findClass "com/example/refleash/refleash/hprof/BasicTypeOfPinLaw" = some m.cls := findClass_of_methodNamed Bd.named
  have X0 : Stand p l e room_1 s m #[(.int p0), (.int p1)] below meth c s₁ [] 0 0 := Stand.of_body Bd
  have e0 : s₁.heap = h0 := by rw [← hh, Bd.state]; rfl
  have N0 := Fr.nil n0
  have pre0 : ∀ t, Steps p.tables e below (s₁.setTop (mkF m 0 #[.val (.int p0), .val (.int p1), .unset, .unset, .unset, .unset] [])) t → Steps p.tables e below (s₁.setTop (entryFrame m #[(.int p0), (.int p1)] maxLocals)) t := fun t k => castTop (ef_0_II m p0 p1) k
  have G' := G
  obtain ⟨S_w_INT, E_w_INT, F_ordinal_w_INT, S_w_BYTE, E_w_BYTE, F_ordinal_w_BYTE, S_w_CHAR, E_w_CHAR, F_ordinal_w_CHAR, S_w_OBJECT, E_w_OBJECT, F_ordinal_w_OBJECT, S_w_FLOAT, E_w_FLOAT, F_ordinal_w_FLOAT, S_w_DOUBLE, E_w_DOUBLE, F_ordinal_w_DOUBLE, S_w_LONG, E_w_LONG, F_ordinal_w_LONG, S_w_SHORT, E_w_SHORT, F_ordinal_w_SHORT, S_w_BOOLEAN, E_w_BOOLEAN, F_ordinal_w_BOOLEAN⟩ := G'
  obtain ⟨_, _, ⟨T1, L1, k1, n1⟩, -, X1, ⟨Lc1, hQ1, l1, y1, z1⟩, st1⟩ := Jvm.LawKit.callS X0 hx (y := (⟨"com/example/refleash/refleash/hprof/BasicType", "of", "(I)Lcom/example/refleash/refleash/hprof/BasicType;"⟩ : MethodName)) hown (mvT hZ (hw _ (List.mem_of_getElem? (i := 0) rfl))) (mvT hZ (hw _ (List.mem_of_getElem? (i := 1) rfl))) (mvT hZ (hw _ (List.mem_of_getElem? (i := 2) rfl))) (mvT hZ (hw _ (List.mem_of_getElem? (i := 3) rfl))) (by decide) (backOf (W := 0) (c1_11 l Z a0 hw [] w_INT w_BYTE w_CHAR w_OBJECT w_FLOAT w_DOUBLE w_LONG w_SHORT w_BOOLEAN h0 n0 Z0 G p0 p1 hs hraw) hZ (hw _ (List.mem_of_getElem? (i := 3) rfl)) (hw _ (List.mem_of_getElem? (i := 2) rfl)) (by decide) (by decide)) (g := (mkF m 18 #[.val (.int p0), .val (.int p1), .val (.int p0), .unset, .unset, .unset] [(.int p0)])) rfl (by rw [hml]; rfl) (argsL := [(.int p0)]) (rest := []) (lenOf pd__I_Lcom_example_refleash_refleash_hprof_BasicType_ rfl) rfl (by show 2 * 0 + _ ≤ _; exact Nat.le_of_eq rfl) (hb hby at_18) (fun _ _ => ⟨rfl, e0, (by decide : 0 + 0 ≤ _), (by decide : 0 + 0 ≤ _)⟩)
  dsimp only [Pt.U, Pt.locs, Pt.cells, Pt.slots] at X1 l1 y1 z1 st1 hQ1
  subst l1 y1 z1
  obtain ⟨rfl, N1q, e1⟩ := hQ1
  have N1 := Fr.app N0 N1q
  obtain ⟨fs, hr, hrun, hended, hW, hsame⟩ := X1.leave (v := some (.int (1 : Int32))) (fun h => by rw [Bd.returns] at h; cases h)
  refine ⟨_, _, pre0 _ ?_, hrun, hended, _, _, rfl, ?_, ⟨_, rfl⟩, hW, hsame.mono (by decide) (by decide)⟩
  · show Steps p.tables e below (s₁.setTop (mkF m 0 #[.val (.int p0), .val (.int p1), .unset, .unset, .unset, .unset] [])) _
    refine XS.iloadN X0.here hx rfl (hb hby at_0) rfl ?_
    show Steps p.tables e below (s₁.setTop (mkF m 1 #[.val (.int p0), .val (.int p1), .unset, .unset, .unset, .unset] [(.int p1)])) _
    refine XS.iconst X0.here hx rfl (hb hby at_1) ?_
    show Steps p.tables e below (s₁.setTop (mkF m 2 #[.val (.int p0), .val (.int p1), .unset, .unset, .unset, .unset] [(.int (1 : Int32)), (.int p1)])) _
    refine XS.iand X0.here hx rfl (hb hby at_2) rfl ?_
    show Steps p.tables e below (s₁.setTop (mkF m 3 #[.val (.int p0), .val (.int p1), .unset, .unset, .unset, .unset] [(.int (p1 &&& (1 : Int32)))])) _
    refine XS.ifNo X0.here hx rfl (hb hby at_3) rfl ((if0 _ _).trans (feq (hs : ¬ ((p1 &&& (1 : Int32)) = (0 : Int32)))).1) ?_
    show Steps p.tables e below (s₁.setTop (mkF m 6 #[.val (.int p0), .val (.int p1), .unset, .unset, .unset, .unset] [])) _
    refine XS.iloadN X0.here hx rfl (hb hby at_6) rfl ?_
    show Steps p.tables e below (s₁.setTop (mkF m 7 #[.val (.int p0), .val (.int p1), .unset, .unset, .unset, .unset] [(.int p0)])) _
    refine XS.goto X0.here hx rfl (pc0 := 7) (pc' := 16) rfl (hb hby at_7) (by decide) (by decide) ?_
    show Steps p.tables e below (s₁.setTop (mkF m 16 #[.val (.int p0), .val (.int p1), .unset, .unset, .unset, .unset] [(.int p0)])) _
    refine XS.istoreN X0.here hx rfl (hb hby at_16) rfl (l' := #[.val (.int p0), .val (.int p1), .val (.int p0), .unset, .unset, .unset]) rfl ?_
    show Steps p.tables e below (s₁.setTop (mkF m 17 #[.val (.int p0), .val (.int p1), .val (.int p0), .unset, .unset, .unset] [])) _
    refine XS.iloadN X0.here hx rfl (hb hby at_17) rfl ?_
    show Steps p.tables e below (s₁.setTop (mkF m 18 #[.val (.int p0), .val (.int p1), .val (.int p0), .unset, .unset, .unset] [(.int p0)])) _
    refine st1 _ ?_
    show Steps p.tables e below (T1.setTop (mkF m 21 #[.val (.int p0), .val (.int p1), .val (.int p0), .unset, .unset, .unset] [.null])) _
    refine XS.astoreN X1.here hx rfl (hb hby at_21) rfl rfl (l' := #[.val (.int p0), .val (.int p1), .val (.int p0), .val .null, .unset, .unset]) rfl ?_
    show Steps p.tables e below (T1.setTop (mkF m 22 #[.val (.int p0), .val (.int p1), .val (.int p0), .val .null, .unset, .unset] [])) _
    refine XS.iloadN X1.here hx rfl (hb hby at_22) rfl ?_
    show Steps p.tables e below (T1.setTop (mkF m 23 #[.val (.int p0), .val (.int p1), .val (.int p0), .val .null, .unset, .unset] [(.int p0)])) _
    refine XS.iconst X1.here hx rfl (hb hby at_23) ?_
    show Steps p.tables e below (T1.setTop (mkF m 24 #[.val (.int p0), .val (.int p1), .val (.int p0), .val .null, .unset, .unset] [(.int (2 : Int32)), (.int p0)])) _
    refine XS.icmpNo X1.here hx rfl (hb hby at_24) rfl (feq (own_hi_2 hraw : ¬ (p0 = (2 : Int32)))).1 ?_
    show Steps p.tables e below (T1.setTop (mkF m 27 #[.val (.int p0), .val (.int p1), .val (.int p0), .val .null, .unset, .unset] [])) _
    refine XS.iloadN X1.here hx rfl (hb hby at_27) rfl ?_
    show Steps p.tables e below (T1.setTop (mkF m 28 #[.val (.int p0), .val (.int p1), .val (.int p0), .val .null, .unset, .unset] [(.int p0)])) _
    refine XS.iconst X1.here hx rfl (hb hby at_28) ?_
    show Steps p.tables e below (T1.setTop (mkF m 29 #[.val (.int p0), .val (.int p1), .val (.int p0), .val .null, .unset, .unset] [(.int (4 : Int32)), (.int p0)])) _
    refine XS.icmpNo X1.here hx rfl (hb hby at_29) rfl (flt (own_hi_4 hraw : ¬ (p0 < (4 : Int32)))).1 ?_
    show Steps p.tables e below (T1.setTop (mkF m 32 #[.val (.int p0), .val (.int p1), .val (.int p0), .val .null, .unset, .unset] [])) _
    refine XS.iloadN X1.here hx rfl (hb hby at_32) rfl ?_
    show Steps p.tables e below (T1.setTop (mkF m 33 #[.val (.int p0), .val (.int p1), .val (.int p0), .val .null, .unset, .unset] [(.int p0)])) _
    refine XS.bipush X1.here hx rfl (hb hby at_33) ?_
    show Steps p.tables e below (T1.setTop (mkF m 35 #[.val (.int p0), .val (.int p1), .val (.int p0), .val .null, .unset, .unset] [(.int (11 : Int32)), (.int p0)])) _
    refine XS.icmpYes X1.here hx rfl (pc0 := 35) (pc' := 42) rfl (hb hby at_35) rfl (tlt (hraw : (11 : Int32) < p0)).2.2.1 (by decide) (by decide) ?_
    show Steps p.tables e below (T1.setTop (mkF m 42 #[.val (.int p0), .val (.int p1), .val (.int p0), .val .null, .unset, .unset] [])) _
    refine XS.iconst X1.here hx rfl (hb hby at_42) ?_
    show Steps p.tables e below (T1.setTop (mkF m 43 #[.val (.int p0), .val (.int p1), .val (.int p0), .val .null, .unset, .unset] [(.int (0 : Int32))])) _
    refine XS.istore X1.here hx rfl (hb hby at_43) rfl (l' := #[.val (.int p0), .val (.int p1), .val (.int p0), .val .null, .val (.int (0 : Int32)), .unset]) rfl ?_
    show Steps p.tables e below (T1.setTop (mkF m 45 #[.val (.int p0), .val (.int p1), .val (.int p0), .val .null, .val (.int (0 : Int32)), .unset] [])) _
    refine XS.iload X1.here hx rfl (hb hby at_45) rfl ?_
    show Steps p.tables e below (T1.setTop (mkF m 47 #[.val (.int p0), .val (.int p1), .val (.int p0), .val .null, .val (.int (0 : Int32)), .unset] [(.int (0 : Int32))])) _
    refine XS.ifNo X1.here hx rfl (hb hby at_47) rfl ((if0 _ _).trans (teq (by decide : (0 : Int32) = (0 : Int32))).2) ?_
    show Steps p.tables e below (T1.setTop (mkF m 50 #[.val (.int p0), .val (.int p1), .val (.int p0), .val .null, .val (.int (0 : Int32)), .unset] [])) _
    refine XS.aloadN X1.here hx rfl (hb hby at_50) rfl rfl ?_
    show Steps p.tables e below (T1.setTop (mkF m 51 #[.val (.int p0), .val (.int p1), .val (.int p0), .val .null, .val (.int (0 : Int32)), .unset] [.null])) _
    refine XS.ifnonnullNo X1.here hx rfl (hb hby at_51) rfl ?_
    show Steps p.tables e below (T1.setTop (mkF m 54 #[.val (.int p0), .val (.int p1), .val (.int p0), .val .null, .val (.int (0 : Int32)), .unset] [])) _
    refine XS.iconst X1.here hx rfl (hb hby at_54) ?_
    show Steps p.tables e below (T1.setTop (mkF m 55 #[.val (.int p0), .val (.int p1), .val (.int p0), .val .null, .val (.int (0 : Int32)), .unset] [(.int (1 : Int32))])) _
    refine XS.goto X1.here hx rfl (pc0 := 55) (pc' := 59) rfl (hb hby at_55) (by decide) (by decide) ?_
    show Steps p.tables e below (T1.setTop (mkF m 59 #[.val (.int p0), .val (.int p1), .val (.int p0), .val .null, .val (.int (0 : Int32)), .unset] [(.int (1 : Int32))])) _
    exact retOut X1 hx Bd.returns rfl (Or.inl ⟨rfl, Or.inr (Or.inl rfl), _, rfl⟩) (hb hby at_59) hr
  · exact ⟨rfl, N1⟩
set_option maxRecDepth 65536 in
set_option maxHeartbeats 40000000 in
theorem c1_12 (l : Launch) (Z : State) (a0 : Array Value) (hw : ∀ d ∈ tables_1, d.before a0 Z = true) (ws : List Jvm.Cond) (w_INT : Addr) (w_BYTE : Addr) (w_CHAR : Addr) (w_OBJECT : Addr) (w_FLOAT : Addr) (w_DOUBLE : Addr) (w_LONG : Addr) (w_SHORT : Addr) (w_BOOLEAN : Addr) (h0 : Heap) (n0 : Nat) (Z0 : n0 ≤ h0.size) (G : Glob Z h0 w_INT w_BYTE w_CHAR w_OBJECT w_FLOAT w_DOUBLE w_LONG w_SHORT w_BOOLEAN)  :
    MetFree l (⟨"com/example/refleash/refleash/hprof/BasicType", "of", "(I)Lcom/example/refleash/refleash/hprof/BasicType;"⟩ : MethodName) (head1 (Jvm.Cond.code (⟨"com/example/refleash/refleash/hprof/BasicType", "of", "(I)Lcom/example/refleash/refleash/hprof/BasicType;"⟩ : MethodName) prog_56_method_4_code 1 (some (.object "com/example/refleash/refleash/hprof/BasicType")) :: ws) ({ frames := 0, cells := 0, slots := 0, locals := 0 } : Room)) (fun a U => a = #[(.int (0 : Int32))] ∧ Z.Warmed39 U.vm ∧ U.heap = h0) (fun _ _ _ _ _ => True) (fun _ U o U' => ∃ v L, o = .returned v ∧ QR (some .null) h0 n0 v U'.heap L ∧ FrameEnd U o U' L ({ frames := 0, cells := 0, slots := 0, locals := 0 } : Room).cells ({ frames := 0, cells := 0, slots := 0, locals := 0 } : Room).slots) := by
  refine MetFree.of_bodySF (plainFor_of_name pn_com_example_refleash_refleash_hprof_BasicType) hisR ?_
  intro p e s m args below meth c s₁ Bd hml0 hP hK
  obtain ⟨rfl, hZ, hh⟩ := hP
  have hx := Bd.exec
  have hby := Bd.bytes
  have hml : c.maxLocals = 1 := hml0
  have hown : s.vm.findClass "com/example/refleash/refleash/hprof/BasicType" = some m.cls := findClass_of_methodNamed Bd.named
  have X0 : Stand p l e ({ frames := 0, cells := 0, slots := 0, locals := 0 } : Room) s m #[(.int (0 : Int32))] below meth c s₁ [] 0 0 := Stand.of_body Bd
  have e0 : s₁.heap = h0 := by rw [← hh, Bd.state]; rfl
  have N0 := Fr.nil n0
  have pre0 : ∀ t, Steps p.tables e below (s₁.setTop (mkF m 0 #[.val (.int (0 : Int32))] [])) t → Steps p.tables e below (s₁.setTop (entryFrame m #[(.int (0 : Int32))] 1)) t := fun t k => castTop (ef_1_I m (0 : Int32)) k
  have G' := G
  obtain ⟨S_w_INT, E_w_INT, F_ordinal_w_INT, S_w_BYTE, E_w_BYTE, F_ordinal_w_BYTE, S_w_CHAR, E_w_CHAR, F_ordinal_w_CHAR, S_w_OBJECT, E_w_OBJECT, F_ordinal_w_OBJECT, S_w_FLOAT, E_w_FLOAT, F_ordinal_w_FLOAT, S_w_DOUBLE, E_w_DOUBLE, F_ordinal_w_DOUBLE, S_w_LONG, E_w_LONG, F_ordinal_w_LONG, S_w_SHORT, E_w_SHORT, F_ordinal_w_SHORT, S_w_BOOLEAN, E_w_BOOLEAN, F_ordinal_w_BOOLEAN⟩ := G'
  obtain ⟨fs, hr, hrun, hended, hW, hsame⟩ := X0.leave (v := some .null) (fun h => by rw [Bd.returns] at h; cases h)
  refine ⟨_, _, pre0 _ ?_, hrun, hended, _, _, rfl, ?_, ⟨_, rfl⟩, hW, hsame.mono (by decide) (by decide)⟩
  · show Steps p.tables e below (s₁.setTop (mkF m 0 #[.val (.int (0 : Int32))] [])) _
    refine XS.iloadN X0.here hx rfl (hb hby d1_0) rfl ?_
    show Steps p.tables e below (s₁.setTop (mkF m 1 #[.val (.int (0 : Int32))] [(.int (0 : Int32))])) _
    refine XS.tswOut X0.here hx rfl (pc0 := 1) (pc' := 110) rfl (hb hby d1_1) rfl (by decide) (by decide) (by decide) ?_
    show Steps p.tables e below (s₁.setTop (mkF m 110 #[.val (.int (0 : Int32))] [])) _
    refine XS.aconstNull X0.here hx rfl (hb hby d1_110) ?_
    show Steps p.tables e below (s₁.setTop (mkF m 111 #[.val (.int (0 : Int32))] [.null])) _
    exact retOut X0 hx Bd.returns rfl (Or.inr (Or.inr (Or.inr (Or.inr ⟨rfl, rfl, rfl⟩)))) (hb hby d1_111) hr
  · show QR _ h0 n0 _ s₁.heap _
    rw [e0]
    exact ⟨rfl, N0, rfl⟩
set_option maxRecDepth 65536 in
set_option maxHeartbeats 40000000 in
theorem sel_0 (l : Launch) (Z : State) (a0 : Array Value) (hw : ∀ d ∈ tables_1, d.before a0 Z = true) (ws : List Jvm.Cond) (w_INT : Addr) (w_BYTE : Addr) (w_CHAR : Addr) (w_OBJECT : Addr) (w_FLOAT : Addr) (w_DOUBLE : Addr) (w_LONG : Addr) (w_SHORT : Addr) (w_BOOLEAN : Addr) (h0 : Heap) (n0 : Nat) (Z0 : n0 ≤ h0.size) (G : Glob Z h0 w_INT w_BYTE w_CHAR w_OBJECT w_FLOAT w_DOUBLE w_LONG w_SHORT w_BOOLEAN) (p0 p1 : Int32) (hs : (p1 &&& (1 : Int32)) = (0 : Int32)) (hi0 : (((p1.toUInt32 >>> ((1 : Int32) &&& 31).toUInt32).toInt32) &&& (15 : Int32)) = (0 : Int32)) :
    MetFree l x (head1 (Jvm.Cond.code x code maxLocals ret :: ws) room_1) (fun a U => a = #[(.int p0), (.int p1)] ∧ Z.Warmed39 U.vm ∧ U.heap = h0) (fun _ _ _ _ _ => True) (fun _ U o U' => ∃ v L, o = .returned v ∧ QL (some (.int (1 : Int32))) h0 n0 v U'.heap L ∧ FrameEnd U o U' L room_1.cells room_1.slots) := by
  refine MetFree.of_bodySF (plainFor_of_name pn_com_example_refleash_refleash_hprof_BasicTypeOfPinLaw) hisR ?_
  intro p e s m args below meth c s₁ Bd hml0 hP hK
  obtain ⟨rfl, hZ, hh⟩ := hP
  have hx := Bd.exec
  have hby := Bd.bytes
  have hml : c.maxLocals = 6 := hml0
  have hown : s.vm.findClass "com/example/refleash/refleash/hprof/BasicTypeOfPinLaw" = some m.cls := findClass_of_methodNamed Bd.named
  have X0 : Stand p l e room_1 s m #[(.int p0), (.int p1)] below meth c s₁ [] 0 0 := Stand.of_body Bd
  have e0 : s₁.heap = h0 := by rw [← hh, Bd.state]; rfl
  have N0 := Fr.nil n0
  have pre0 : ∀ t, Steps p.tables e below (s₁.setTop (mkF m 0 #[.val (.int p0), .val (.int p1), .unset, .unset, .unset, .unset] [])) t → Steps p.tables e below (s₁.setTop (entryFrame m #[(.int p0), (.int p1)] maxLocals)) t := fun t k => castTop (ef_0_II m p0 p1) k
  have G' := G
  obtain ⟨S_w_INT, E_w_INT, F_ordinal_w_INT, S_w_BYTE, E_w_BYTE, F_ordinal_w_BYTE, S_w_CHAR, E_w_CHAR, F_ordinal_w_CHAR, S_w_OBJECT, E_w_OBJECT, F_ordinal_w_OBJECT, S_w_FLOAT, E_w_FLOAT, F_ordinal_w_FLOAT, S_w_DOUBLE, E_w_DOUBLE, F_ordinal_w_DOUBLE, S_w_LONG, E_w_LONG, F_ordinal_w_LONG, S_w_SHORT, E_w_SHORT, F_ordinal_w_SHORT, S_w_BOOLEAN, E_w_BOOLEAN, F_ordinal_w_BOOLEAN⟩ := G'
  obtain ⟨_, _, ⟨T1, L1, k1, n1⟩, -, X1, ⟨Lc1, hQ1, l1, y1, z1⟩, st1⟩ := Jvm.LawKit.callS X0 hx (y := (⟨"com/example/refleash/refleash/hprof/BasicType", "of", "(I)Lcom/example/refleash/refleash/hprof/BasicType;"⟩ : MethodName)) hown (mvT hZ (hw _ (List.mem_of_getElem? (i := 0) rfl))) (mvT hZ (hw _ (List.mem_of_getElem? (i := 1) rfl))) (mvT hZ (hw _ (List.mem_of_getElem? (i := 2) rfl))) (mvT hZ (hw _ (List.mem_of_getElem? (i := 3) rfl))) (by decide) (backOf (W := 0) (c1_12 l Z a0 hw [] w_INT w_BYTE w_CHAR w_OBJECT w_FLOAT w_DOUBLE w_LONG w_SHORT w_BOOLEAN h0 n0 Z0 G) hZ (hw _ (List.mem_of_getElem? (i := 3) rfl)) (hw _ (List.mem_of_getElem? (i := 2) rfl)) (by decide) (by decide)) (g := (mkF m 18 #[.val (.int p0), .val (.int p1), .val (.int (0 : Int32)), .unset, .unset, .unset] [(.int (0 : Int32))])) rfl (by rw [hml]; rfl) (argsL := [(.int (0 : Int32))]) (rest := []) (lenOf pd__I_Lcom_example_refleash_refleash_hprof_BasicType_ rfl) rfl (by show 2 * 0 + _ ≤ _; exact Nat.le_of_eq rfl) (hb hby at_18) (fun _ _ => ⟨rfl, e0, (by decide : 0 + 0 ≤ _), (by decide : 0 + 0 ≤ _)⟩)
  dsimp only [Pt.U, Pt.locs, Pt.cells, Pt.slots] at X1 l1 y1 z1 st1 hQ1
  subst l1 y1 z1
  obtain ⟨rfl, N1q, e1⟩ := hQ1
  have N1 := Fr.app N0 N1q
  obtain ⟨fs, hr, hrun, hended, hW, hsame⟩ := X1.leave (v := some (.int (1 : Int32))) (fun h => by rw [Bd.returns] at h; cases h)
  refine ⟨_, _, pre0 _ ?_, hrun, hended, _, _, rfl, ?_, ⟨_, rfl⟩, hW, hsame.mono (by decide) (by decide)⟩
  · show Steps p.tables e below (s₁.setTop (mkF m 0 #[.val (.int p0), .val (.int p1), .unset, .unset, .unset, .unset] [])) _
    refine XS.iloadN X0.here hx rfl (hb hby at_0) rfl ?_
    show Steps p.tables e below (s₁.setTop (mkF m 1 #[.val (.int p0), .val (.int p1), .unset, .unset, .unset, .unset] [(.int p1)])) _
    refine XS.iconst X0.here hx rfl (hb hby at_1) ?_
    show Steps p.tables e below (s₁.setTop (mkF m 2 #[.val (.int p0), .val (.int p1), .unset, .unset, .unset, .unset] [(.int (1 : Int32)), (.int p1)])) _
    refine XS.iand X0.here hx rfl (hb hby at_2) rfl ?_
    show Steps p.tables e below (s₁.setTop (mkF m 3 #[.val (.int p0), .val (.int p1), .unset, .unset, .unset, .unset] [(.int (p1 &&& (1 : Int32)))])) _
    refine XS.ifYes X0.here hx rfl (pc0 := 3) (pc' := 10) rfl (hb hby at_3) rfl ((if0 _ _).trans (teq (hs : (p1 &&& (1 : Int32)) = (0 : Int32))).1) (by decide) (by decide) ?_
    show Steps p.tables e below (s₁.setTop (mkF m 10 #[.val (.int p0), .val (.int p1), .unset, .unset, .unset, .unset] [])) _
    refine XS.iloadN X0.here hx rfl (hb hby at_10) rfl ?_
    show Steps p.tables e below (s₁.setTop (mkF m 11 #[.val (.int p0), .val (.int p1), .unset, .unset, .unset, .unset] [(.int p1)])) _
    refine XS.iconst X0.here hx rfl (hb hby at_11) ?_
    show Steps p.tables e below (s₁.setTop (mkF m 12 #[.val (.int p0), .val (.int p1), .unset, .unset, .unset, .unset] [(.int (1 : Int32)), (.int p1)])) _
    refine XS.iushr X0.here hx rfl (hb hby at_12) rfl ?_
    show Steps p.tables e below (s₁.setTop (mkF m 13 #[.val (.int p0), .val (.int p1), .unset, .unset, .unset, .unset] [(.int ((p1.toUInt32 >>> ((1 : Int32) &&& 31).toUInt32).toInt32))])) _
    refine XS.bipush X0.here hx rfl (hb hby at_13) ?_
    show Steps p.tables e below (s₁.setTop (mkF m 15 #[.val (.int p0), .val (.int p1), .unset, .unset, .unset, .unset] [(.int (15 : Int32)), (.int ((p1.toUInt32 >>> ((1 : Int32) &&& 31).toUInt32).toInt32))])) _
    refine XS.iand X0.here hx rfl (hb hby at_15) rfl ?_
    show Steps p.tables e below (s₁.setTop (mkF m 16 #[.val (.int p0), .val (.int p1), .unset, .unset, .unset, .unset] [(.int (((p1.toUInt32 >>> ((1 : Int32) &&& 31).toUInt32).toInt32) &&& (15 : Int32)))])) _
    rw [hi0]
    show Steps p.tables e below (s₁.setTop (mkF m 16 #[.val (.int p0), .val (.int p1), .unset, .unset, .unset, .unset] [(.int (0 : Int32))])) _
    refine XS.istoreN X0.here hx rfl (hb hby at_16) rfl (l' := #[.val (.int p0), .val (.int p1), .val (.int (0 : Int32)), .unset, .unset, .unset]) rfl ?_
    show Steps p.tables e below (s₁.setTop (mkF m 17 #[.val (.int p0), .val (.int p1), .val (.int (0 : Int32)), .unset, .unset, .unset] [])) _
    refine XS.iloadN X0.here hx rfl (hb hby at_17) rfl ?_
    show Steps p.tables e below (s₁.setTop (mkF m 18 #[.val (.int p0), .val (.int p1), .val (.int (0 : Int32)), .unset, .unset, .unset] [(.int (0 : Int32))])) _
    refine st1 _ ?_
    show Steps p.tables e below (T1.setTop (mkF m 21 #[.val (.int p0), .val (.int p1), .val (.int (0 : Int32)), .unset, .unset, .unset] [.null])) _
    refine XS.astoreN X1.here hx rfl (hb hby at_21) rfl rfl (l' := #[.val (.int p0), .val (.int p1), .val (.int (0 : Int32)), .val .null, .unset, .unset]) rfl ?_
    show Steps p.tables e below (T1.setTop (mkF m 22 #[.val (.int p0), .val (.int p1), .val (.int (0 : Int32)), .val .null, .unset, .unset] [])) _
    refine XS.iloadN X1.here hx rfl (hb hby at_22) rfl ?_
    show Steps p.tables e below (T1.setTop (mkF m 23 #[.val (.int p0), .val (.int p1), .val (.int (0 : Int32)), .val .null, .unset, .unset] [(.int (0 : Int32))])) _
    refine XS.iconst X1.here hx rfl (hb hby at_23) ?_
    show Steps p.tables e below (T1.setTop (mkF m 24 #[.val (.int p0), .val (.int p1), .val (.int (0 : Int32)), .val .null, .unset, .unset] [(.int (2 : Int32)), (.int (0 : Int32))])) _
    refine XS.icmpNo X1.here hx rfl (hb hby at_24) rfl (feq (by decide : ¬ ((0 : Int32) = (2 : Int32)))).1 ?_
    show Steps p.tables e below (T1.setTop (mkF m 27 #[.val (.int p0), .val (.int p1), .val (.int (0 : Int32)), .val .null, .unset, .unset] [])) _
    refine XS.iloadN X1.here hx rfl (hb hby at_27) rfl ?_
    show Steps p.tables e below (T1.setTop (mkF m 28 #[.val (.int p0), .val (.int p1), .val (.int (0 : Int32)), .val .null, .unset, .unset] [(.int (0 : Int32))])) _
    refine XS.iconst X1.here hx rfl (hb hby at_28) ?_
    show Steps p.tables e below (T1.setTop (mkF m 29 #[.val (.int p0), .val (.int p1), .val (.int (0 : Int32)), .val .null, .unset, .unset] [(.int (4 : Int32)), (.int (0 : Int32))])) _
    refine XS.icmpYes X1.here hx rfl (pc0 := 29) (pc' := 42) rfl (hb hby at_29) rfl (tlt (by decide : (0 : Int32) < (4 : Int32))).1 (by decide) (by decide) ?_
    show Steps p.tables e below (T1.setTop (mkF m 42 #[.val (.int p0), .val (.int p1), .val (.int (0 : Int32)), .val .null, .unset, .unset] [])) _
    refine XS.iconst X1.here hx rfl (hb hby at_42) ?_
    show Steps p.tables e below (T1.setTop (mkF m 43 #[.val (.int p0), .val (.int p1), .val (.int (0 : Int32)), .val .null, .unset, .unset] [(.int (0 : Int32))])) _
    refine XS.istore X1.here hx rfl (hb hby at_43) rfl (l' := #[.val (.int p0), .val (.int p1), .val (.int (0 : Int32)), .val .null, .val (.int (0 : Int32)), .unset]) rfl ?_
    show Steps p.tables e below (T1.setTop (mkF m 45 #[.val (.int p0), .val (.int p1), .val (.int (0 : Int32)), .val .null, .val (.int (0 : Int32)), .unset] [])) _
    refine XS.iload X1.here hx rfl (hb hby at_45) rfl ?_
    show Steps p.tables e below (T1.setTop (mkF m 47 #[.val (.int p0), .val (.int p1), .val (.int (0 : Int32)), .val .null, .val (.int (0 : Int32)), .unset] [(.int (0 : Int32))])) _
    refine XS.ifNo X1.here hx rfl (hb hby at_47) rfl ((if0 _ _).trans (teq (by decide : (0 : Int32) = (0 : Int32))).2) ?_
    show Steps p.tables e below (T1.setTop (mkF m 50 #[.val (.int p0), .val (.int p1), .val (.int (0 : Int32)), .val .null, .val (.int (0 : Int32)), .unset] [])) _
    refine XS.aloadN X1.here hx rfl (hb hby at_50) rfl rfl ?_
    show Steps p.tables e below (T1.setTop (mkF m 51 #[.val (.int p0), .val (.int p1), .val (.int (0 : Int32)), .val .null, .val (.int (0 : Int32)), .unset] [.null])) _
    refine XS.ifnonnullNo X1.here hx rfl (hb hby at_51) rfl ?_
    show Steps p.tables e below (T1.setTop (mkF m 54 #[.val (.int p0), .val (.int p1), .val (.int (0 : Int32)), .val .null, .val (.int (0 : Int32)), .unset] [])) _
    refine XS.iconst X1.here hx rfl (hb hby at_54) ?_
    show Steps p.tables e below (T1.setTop (mkF m 55 #[.val (.int p0), .val (.int p1), .val (.int (0 : Int32)), .val .null, .val (.int (0 : Int32)), .unset] [(.int (1 : Int32))])) _
    refine XS.goto X1.here hx rfl (pc0 := 55) (pc' := 59) rfl (hb hby at_55) (by decide) (by decide) ?_
    show Steps p.tables e below (T1.setTop (mkF m 59 #[.val (.int p0), .val (.int p1), .val (.int (0 : Int32)), .val .null, .val (.int (0 : Int32)), .unset] [(.int (1 : Int32))])) _
    exact retOut X1 hx Bd.returns rfl (Or.inl ⟨rfl, Or.inr (Or.inl rfl), _, rfl⟩) (hb hby at_59) hr
  · exact ⟨rfl, N1⟩
set_option maxRecDepth 65536 in
set_option maxHeartbeats 40000000 in
theorem c1_13 (l : Launch) (Z : State) (a0 : Array Value) (hw : ∀ d ∈ tables_1, d.before a0 Z = true) (ws : List Jvm.Cond) (w_INT : Addr) (w_BYTE : Addr) (w_CHAR : Addr) (w_OBJECT : Addr) (w_FLOAT : Addr) (w_DOUBLE : Addr) (w_LONG : Addr) (w_SHORT : Addr) (w_BOOLEAN : Addr) (h0 : Heap) (n0 : Nat) (Z0 : n0 ≤ h0.size) (G : Glob Z h0 w_INT w_BYTE w_CHAR w_OBJECT w_FLOAT w_DOUBLE w_LONG w_SHORT w_BOOLEAN)  :
    MetFree l (⟨"com/example/refleash/refleash/hprof/BasicType", "of", "(I)Lcom/example/refleash/refleash/hprof/BasicType;"⟩ : MethodName) (head1 (Jvm.Cond.code (⟨"com/example/refleash/refleash/hprof/BasicType", "of", "(I)Lcom/example/refleash/refleash/hprof/BasicType;"⟩ : MethodName) prog_56_method_4_code 1 (some (.object "com/example/refleash/refleash/hprof/BasicType")) :: ws) ({ frames := 0, cells := 0, slots := 0, locals := 0 } : Room)) (fun a U => a = #[(.int (1 : Int32))] ∧ Z.Warmed39 U.vm ∧ U.heap = h0) (fun _ _ _ _ _ => True) (fun _ U o U' => ∃ v L, o = .returned v ∧ QR (some .null) h0 n0 v U'.heap L ∧ FrameEnd U o U' L ({ frames := 0, cells := 0, slots := 0, locals := 0 } : Room).cells ({ frames := 0, cells := 0, slots := 0, locals := 0 } : Room).slots) := by
  refine MetFree.of_bodySF (plainFor_of_name pn_com_example_refleash_refleash_hprof_BasicType) hisR ?_
  intro p e s m args below meth c s₁ Bd hml0 hP hK
  obtain ⟨rfl, hZ, hh⟩ := hP
  have hx := Bd.exec
  have hby := Bd.bytes
  have hml : c.maxLocals = 1 := hml0
  have hown : s.vm.findClass "com/example/refleash/refleash/hprof/BasicType" = some m.cls := findClass_of_methodNamed Bd.named
  have X0 : Stand p l e ({ frames := 0, cells := 0, slots := 0, locals := 0 } : Room) s m #[(.int (1 : Int32))] below meth c s₁ [] 0 0 := Stand.of_body Bd
  have e0 : s₁.heap = h0 := by rw [← hh, Bd.state]; rfl
  have N0 := Fr.nil n0
  have pre0 : ∀ t, Steps p.tables e below (s₁.setTop (mkF m 0 #[.val (.int (1 : Int32))] [])) t → Steps p.tables e below (s₁.setTop (entryFrame m #[(.int (1 : Int32))] 1)) t := fun t k => castTop (ef_1_I m (1 : Int32)) k
  have G' := G
  obtain ⟨S_w_INT, E_w_INT, F_ordinal_w_INT, S_w_BYTE, E_w_BYTE, F_ordinal_w_BYTE, S_w_CHAR, E_w_CHAR, F_ordinal_w_CHAR, S_w_OBJECT, E_w_OBJECT, F_ordinal_w_OBJECT, S_w_FLOAT, E_w_FLOAT, F_ordinal_w_FLOAT, S_w_DOUBLE, E_w_DOUBLE, F_ordinal_w_DOUBLE, S_w_LONG, E_w_LONG, F_ordinal_w_LONG, S_w_SHORT, E_w_SHORT, F_ordinal_w_SHORT, S_w_BOOLEAN, E_w_BOOLEAN, F_ordinal_w_BOOLEAN⟩ := G'
  obtain ⟨fs, hr, hrun, hended, hW, hsame⟩ := X0.leave (v := some .null) (fun h => by rw [Bd.returns] at h; cases h)
  refine ⟨_, _, pre0 _ ?_, hrun, hended, _, _, rfl, ?_, ⟨_, rfl⟩, hW, hsame.mono (by decide) (by decide)⟩
  · show Steps p.tables e below (s₁.setTop (mkF m 0 #[.val (.int (1 : Int32))] [])) _
    refine XS.iloadN X0.here hx rfl (hb hby d1_0) rfl ?_
    show Steps p.tables e below (s₁.setTop (mkF m 1 #[.val (.int (1 : Int32))] [(.int (1 : Int32))])) _
    refine XS.tswOut X0.here hx rfl (pc0 := 1) (pc' := 110) rfl (hb hby d1_1) rfl (by decide) (by decide) (by decide) ?_
    show Steps p.tables e below (s₁.setTop (mkF m 110 #[.val (.int (1 : Int32))] [])) _
    refine XS.aconstNull X0.here hx rfl (hb hby d1_110) ?_
    show Steps p.tables e below (s₁.setTop (mkF m 111 #[.val (.int (1 : Int32))] [.null])) _
    exact retOut X0 hx Bd.returns rfl (Or.inr (Or.inr (Or.inr (Or.inr ⟨rfl, rfl, rfl⟩)))) (hb hby d1_111) hr
  · show QR _ h0 n0 _ s₁.heap _
    rw [e0]
    exact ⟨rfl, N0, rfl⟩
set_option maxRecDepth 65536 in
set_option maxHeartbeats 40000000 in
theorem sel_1 (l : Launch) (Z : State) (a0 : Array Value) (hw : ∀ d ∈ tables_1, d.before a0 Z = true) (ws : List Jvm.Cond) (w_INT : Addr) (w_BYTE : Addr) (w_CHAR : Addr) (w_OBJECT : Addr) (w_FLOAT : Addr) (w_DOUBLE : Addr) (w_LONG : Addr) (w_SHORT : Addr) (w_BOOLEAN : Addr) (h0 : Heap) (n0 : Nat) (Z0 : n0 ≤ h0.size) (G : Glob Z h0 w_INT w_BYTE w_CHAR w_OBJECT w_FLOAT w_DOUBLE w_LONG w_SHORT w_BOOLEAN) (p0 p1 : Int32) (hs : (p1 &&& (1 : Int32)) = (0 : Int32)) (hi1 : (((p1.toUInt32 >>> ((1 : Int32) &&& 31).toUInt32).toInt32) &&& (15 : Int32)) = (1 : Int32)) :
    MetFree l x (head1 (Jvm.Cond.code x code maxLocals ret :: ws) room_1) (fun a U => a = #[(.int p0), (.int p1)] ∧ Z.Warmed39 U.vm ∧ U.heap = h0) (fun _ _ _ _ _ => True) (fun _ U o U' => ∃ v L, o = .returned v ∧ QL (some (.int (1 : Int32))) h0 n0 v U'.heap L ∧ FrameEnd U o U' L room_1.cells room_1.slots) := by
  refine MetFree.of_bodySF (plainFor_of_name pn_com_example_refleash_refleash_hprof_BasicTypeOfPinLaw) hisR ?_
  intro p e s m args below meth c s₁ Bd hml0 hP hK
  obtain ⟨rfl, hZ, hh⟩ := hP
  have hx := Bd.exec
  have hby := Bd.bytes
  have hml : c.maxLocals = 6 := hml0
  have hown : s.vm.findClass "com/example/refleash/refleash/hprof/BasicTypeOfPinLaw" = some m.cls := findClass_of_methodNamed Bd.named
  have X0 : Stand p l e room_1 s m #[(.int p0), (.int p1)] below meth c s₁ [] 0 0 := Stand.of_body Bd
  have e0 : s₁.heap = h0 := by rw [← hh, Bd.state]; rfl
  have N0 := Fr.nil n0
  have pre0 : ∀ t, Steps p.tables e below (s₁.setTop (mkF m 0 #[.val (.int p0), .val (.int p1), .unset, .unset, .unset, .unset] [])) t → Steps p.tables e below (s₁.setTop (entryFrame m #[(.int p0), (.int p1)] maxLocals)) t := fun t k => castTop (ef_0_II m p0 p1) k
  have G' := G
  obtain ⟨S_w_INT, E_w_INT, F_ordinal_w_INT, S_w_BYTE, E_w_BYTE, F_ordinal_w_BYTE, S_w_CHAR, E_w_CHAR, F_ordinal_w_CHAR, S_w_OBJECT, E_w_OBJECT, F_ordinal_w_OBJECT, S_w_FLOAT, E_w_FLOAT, F_ordinal_w_FLOAT, S_w_DOUBLE, E_w_DOUBLE, F_ordinal_w_DOUBLE, S_w_LONG, E_w_LONG, F_ordinal_w_LONG, S_w_SHORT, E_w_SHORT, F_ordinal_w_SHORT, S_w_BOOLEAN, E_w_BOOLEAN, F_ordinal_w_BOOLEAN⟩ := G'
  obtain ⟨_, _, ⟨T1, L1, k1, n1⟩, -, X1, ⟨Lc1, hQ1, l1, y1, z1⟩, st1⟩ := Jvm.LawKit.callS X0 hx (y := (⟨"com/example/refleash/refleash/hprof/BasicType", "of", "(I)Lcom/example/refleash/refleash/hprof/BasicType;"⟩ : MethodName)) hown (mvT hZ (hw _ (List.mem_of_getElem? (i := 0) rfl))) (mvT hZ (hw _ (List.mem_of_getElem? (i := 1) rfl))) (mvT hZ (hw _ (List.mem_of_getElem? (i := 2) rfl))) (mvT hZ (hw _ (List.mem_of_getElem? (i := 3) rfl))) (by decide) (backOf (W := 0) (c1_13 l Z a0 hw [] w_INT w_BYTE w_CHAR w_OBJECT w_FLOAT w_DOUBLE w_LONG w_SHORT w_BOOLEAN h0 n0 Z0 G) hZ (hw _ (List.mem_of_getElem? (i := 3) rfl)) (hw _ (List.mem_of_getElem? (i := 2) rfl)) (by decide) (by decide)) (g := (mkF m 18 #[.val (.int p0), .val (.int p1), .val (.int (1 : Int32)), .unset, .unset, .unset] [(.int (1 : Int32))])) rfl (by rw [hml]; rfl) (argsL := [(.int (1 : Int32))]) (rest := []) (lenOf pd__I_Lcom_example_refleash_refleash_hprof_BasicType_ rfl) rfl (by show 2 * 0 + _ ≤ _; exact Nat.le_of_eq rfl) (hb hby at_18) (fun _ _ => ⟨rfl, e0, (by decide : 0 + 0 ≤ _), (by decide : 0 + 0 ≤ _)⟩)
  dsimp only [Pt.U, Pt.locs, Pt.cells, Pt.slots] at X1 l1 y1 z1 st1 hQ1
  subst l1 y1 z1
  obtain ⟨rfl, N1q, e1⟩ := hQ1
  have N1 := Fr.app N0 N1q
  obtain ⟨fs, hr, hrun, hended, hW, hsame⟩ := X1.leave (v := some (.int (1 : Int32))) (fun h => by rw [Bd.returns] at h; cases h)
  refine ⟨_, _, pre0 _ ?_, hrun, hended, _, _, rfl, ?_, ⟨_, rfl⟩, hW, hsame.mono (by decide) (by decide)⟩
  · show Steps p.tables e below (s₁.setTop (mkF m 0 #[.val (.int p0), .val (.int p1), .unset, .unset, .unset, .unset] [])) _
    refine XS.iloadN X0.here hx rfl (hb hby at_0) rfl ?_
    show Steps p.tables e below (s₁.setTop (mkF m 1 #[.val (.int p0), .val (.int p1), .unset, .unset, .unset, .unset] [(.int p1)])) _
    refine XS.iconst X0.here hx rfl (hb hby at_1) ?_
    show Steps p.tables e below (s₁.setTop (mkF m 2 #[.val (.int p0), .val (.int p1), .unset, .unset, .unset, .unset] [(.int (1 : Int32)), (.int p1)])) _
    refine XS.iand X0.here hx rfl (hb hby at_2) rfl ?_
    show Steps p.tables e below (s₁.setTop (mkF m 3 #[.val (.int p0), .val (.int p1), .unset, .unset, .unset, .unset] [(.int (p1 &&& (1 : Int32)))])) _
    refine XS.ifYes X0.here hx rfl (pc0 := 3) (pc' := 10) rfl (hb hby at_3) rfl ((if0 _ _).trans (teq (hs : (p1 &&& (1 : Int32)) = (0 : Int32))).1) (by decide) (by decide) ?_
    show Steps p.tables e below (s₁.setTop (mkF m 10 #[.val (.int p0), .val (.int p1), .unset, .unset, .unset, .unset] [])) _
    refine XS.iloadN X0.here hx rfl (hb hby at_10) rfl ?_
    show Steps p.tables e below (s₁.setTop (mkF m 11 #[.val (.int p0), .val (.int p1), .unset, .unset, .unset, .unset] [(.int p1)])) _
    refine XS.iconst X0.here hx rfl (hb hby at_11) ?_
    show Steps p.tables e below (s₁.setTop (mkF m 12 #[.val (.int p0), .val (.int p1), .unset, .unset, .unset, .unset] [(.int (1 : Int32)), (.int p1)])) _
    refine XS.iushr X0.here hx rfl (hb hby at_12) rfl ?_
    show Steps p.tables e below (s₁.setTop (mkF m 13 #[.val (.int p0), .val (.int p1), .unset, .unset, .unset, .unset] [(.int ((p1.toUInt32 >>> ((1 : Int32) &&& 31).toUInt32).toInt32))])) _
    refine XS.bipush X0.here hx rfl (hb hby at_13) ?_
    show Steps p.tables e below (s₁.setTop (mkF m 15 #[.val (.int p0), .val (.int p1), .unset, .unset, .unset, .unset] [(.int (15 : Int32)), (.int ((p1.toUInt32 >>> ((1 : Int32) &&& 31).toUInt32).toInt32))])) _
    refine XS.iand X0.here hx rfl (hb hby at_15) rfl ?_
    show Steps p.tables e below (s₁.setTop (mkF m 16 #[.val (.int p0), .val (.int p1), .unset, .unset, .unset, .unset] [(.int (((p1.toUInt32 >>> ((1 : Int32) &&& 31).toUInt32).toInt32) &&& (15 : Int32)))])) _
    rw [hi1]
    show Steps p.tables e below (s₁.setTop (mkF m 16 #[.val (.int p0), .val (.int p1), .unset, .unset, .unset, .unset] [(.int (1 : Int32))])) _
    refine XS.istoreN X0.here hx rfl (hb hby at_16) rfl (l' := #[.val (.int p0), .val (.int p1), .val (.int (1 : Int32)), .unset, .unset, .unset]) rfl ?_
    show Steps p.tables e below (s₁.setTop (mkF m 17 #[.val (.int p0), .val (.int p1), .val (.int (1 : Int32)), .unset, .unset, .unset] [])) _
    refine XS.iloadN X0.here hx rfl (hb hby at_17) rfl ?_
    show Steps p.tables e below (s₁.setTop (mkF m 18 #[.val (.int p0), .val (.int p1), .val (.int (1 : Int32)), .unset, .unset, .unset] [(.int (1 : Int32))])) _
    refine st1 _ ?_
    show Steps p.tables e below (T1.setTop (mkF m 21 #[.val (.int p0), .val (.int p1), .val (.int (1 : Int32)), .unset, .unset, .unset] [.null])) _
    refine XS.astoreN X1.here hx rfl (hb hby at_21) rfl rfl (l' := #[.val (.int p0), .val (.int p1), .val (.int (1 : Int32)), .val .null, .unset, .unset]) rfl ?_
    show Steps p.tables e below (T1.setTop (mkF m 22 #[.val (.int p0), .val (.int p1), .val (.int (1 : Int32)), .val .null, .unset, .unset] [])) _
    refine XS.iloadN X1.here hx rfl (hb hby at_22) rfl ?_
    show Steps p.tables e below (T1.setTop (mkF m 23 #[.val (.int p0), .val (.int p1), .val (.int (1 : Int32)), .val .null, .unset, .unset] [(.int (1 : Int32))])) _
    refine XS.iconst X1.here hx rfl (hb hby at_23) ?_
    show Steps p.tables e below (T1.setTop (mkF m 24 #[.val (.int p0), .val (.int p1), .val (.int (1 : Int32)), .val .null, .unset, .unset] [(.int (2 : Int32)), (.int (1 : Int32))])) _
    refine XS.icmpNo X1.here hx rfl (hb hby at_24) rfl (feq (by decide : ¬ ((1 : Int32) = (2 : Int32)))).1 ?_
    show Steps p.tables e below (T1.setTop (mkF m 27 #[.val (.int p0), .val (.int p1), .val (.int (1 : Int32)), .val .null, .unset, .unset] [])) _
    refine XS.iloadN X1.here hx rfl (hb hby at_27) rfl ?_
    show Steps p.tables e below (T1.setTop (mkF m 28 #[.val (.int p0), .val (.int p1), .val (.int (1 : Int32)), .val .null, .unset, .unset] [(.int (1 : Int32))])) _
    refine XS.iconst X1.here hx rfl (hb hby at_28) ?_
    show Steps p.tables e below (T1.setTop (mkF m 29 #[.val (.int p0), .val (.int p1), .val (.int (1 : Int32)), .val .null, .unset, .unset] [(.int (4 : Int32)), (.int (1 : Int32))])) _
    refine XS.icmpYes X1.here hx rfl (pc0 := 29) (pc' := 42) rfl (hb hby at_29) rfl (tlt (by decide : (1 : Int32) < (4 : Int32))).1 (by decide) (by decide) ?_
    show Steps p.tables e below (T1.setTop (mkF m 42 #[.val (.int p0), .val (.int p1), .val (.int (1 : Int32)), .val .null, .unset, .unset] [])) _
    refine XS.iconst X1.here hx rfl (hb hby at_42) ?_
    show Steps p.tables e below (T1.setTop (mkF m 43 #[.val (.int p0), .val (.int p1), .val (.int (1 : Int32)), .val .null, .unset, .unset] [(.int (0 : Int32))])) _
    refine XS.istore X1.here hx rfl (hb hby at_43) rfl (l' := #[.val (.int p0), .val (.int p1), .val (.int (1 : Int32)), .val .null, .val (.int (0 : Int32)), .unset]) rfl ?_
    show Steps p.tables e below (T1.setTop (mkF m 45 #[.val (.int p0), .val (.int p1), .val (.int (1 : Int32)), .val .null, .val (.int (0 : Int32)), .unset] [])) _
    refine XS.iload X1.here hx rfl (hb hby at_45) rfl ?_
    show Steps p.tables e below (T1.setTop (mkF m 47 #[.val (.int p0), .val (.int p1), .val (.int (1 : Int32)), .val .null, .val (.int (0 : Int32)), .unset] [(.int (0 : Int32))])) _
    refine XS.ifNo X1.here hx rfl (hb hby at_47) rfl ((if0 _ _).trans (teq (by decide : (0 : Int32) = (0 : Int32))).2) ?_
    show Steps p.tables e below (T1.setTop (mkF m 50 #[.val (.int p0), .val (.int p1), .val (.int (1 : Int32)), .val .null, .val (.int (0 : Int32)), .unset] [])) _
    refine XS.aloadN X1.here hx rfl (hb hby at_50) rfl rfl ?_
    show Steps p.tables e below (T1.setTop (mkF m 51 #[.val (.int p0), .val (.int p1), .val (.int (1 : Int32)), .val .null, .val (.int (0 : Int32)), .unset] [.null])) _
    refine XS.ifnonnullNo X1.here hx rfl (hb hby at_51) rfl ?_
    show Steps p.tables e below (T1.setTop (mkF m 54 #[.val (.int p0), .val (.int p1), .val (.int (1 : Int32)), .val .null, .val (.int (0 : Int32)), .unset] [])) _
    refine XS.iconst X1.here hx rfl (hb hby at_54) ?_
    show Steps p.tables e below (T1.setTop (mkF m 55 #[.val (.int p0), .val (.int p1), .val (.int (1 : Int32)), .val .null, .val (.int (0 : Int32)), .unset] [(.int (1 : Int32))])) _
    refine XS.goto X1.here hx rfl (pc0 := 55) (pc' := 59) rfl (hb hby at_55) (by decide) (by decide) ?_
    show Steps p.tables e below (T1.setTop (mkF m 59 #[.val (.int p0), .val (.int p1), .val (.int (1 : Int32)), .val .null, .val (.int (0 : Int32)), .unset] [(.int (1 : Int32))])) _
    exact retOut X1 hx Bd.returns rfl (Or.inl ⟨rfl, Or.inr (Or.inl rfl), _, rfl⟩) (hb hby at_59) hr
  · exact ⟨rfl, N1⟩
set_option maxRecDepth 65536 in
set_option maxHeartbeats 40000000 in
theorem sel_2 (l : Launch) (Z : State) (a0 : Array Value) (hw : ∀ d ∈ tables_1, d.before a0 Z = true) (ws : List Jvm.Cond) (w_INT : Addr) (w_BYTE : Addr) (w_CHAR : Addr) (w_OBJECT : Addr) (w_FLOAT : Addr) (w_DOUBLE : Addr) (w_LONG : Addr) (w_SHORT : Addr) (w_BOOLEAN : Addr) (h0 : Heap) (n0 : Nat) (Z0 : n0 ≤ h0.size) (G : Glob Z h0 w_INT w_BYTE w_CHAR w_OBJECT w_FLOAT w_DOUBLE w_LONG w_SHORT w_BOOLEAN) (p0 p1 : Int32) (hs : (p1 &&& (1 : Int32)) = (0 : Int32)) (hi2 : (((p1.toUInt32 >>> ((1 : Int32) &&& 31).toUInt32).toInt32) &&& (15 : Int32)) = (2 : Int32)) :
    MetFree l x (head1 (Jvm.Cond.code x code maxLocals ret :: ws) room_1) (fun a U => a = #[(.int p0), (.int p1)] ∧ Z.Warmed39 U.vm ∧ U.heap = h0) (fun _ _ _ _ _ => True) (fun _ U o U' => ∃ v L, o = .returned v ∧ QL (some (.int (1 : Int32))) h0 n0 v U'.heap L ∧ FrameEnd U o U' L room_1.cells room_1.slots) := by
  refine MetFree.of_bodySF (plainFor_of_name pn_com_example_refleash_refleash_hprof_BasicTypeOfPinLaw) hisR ?_
  intro p e s m args below meth c s₁ Bd hml0 hP hK
  obtain ⟨rfl, hZ, hh⟩ := hP
  have hx := Bd.exec
  have hby := Bd.bytes
  have hml : c.maxLocals = 6 := hml0
  have hown : s.vm.findClass "com/example/refleash/refleash/hprof/BasicTypeOfPinLaw" = some m.cls := findClass_of_methodNamed Bd.named
  have X0 : Stand p l e room_1 s m #[(.int p0), (.int p1)] below meth c s₁ [] 0 0 := Stand.of_body Bd
  have e0 : s₁.heap = h0 := by rw [← hh, Bd.state]; rfl
  have N0 := Fr.nil n0
  have pre0 : ∀ t, Steps p.tables e below (s₁.setTop (mkF m 0 #[.val (.int p0), .val (.int p1), .unset, .unset, .unset, .unset] [])) t → Steps p.tables e below (s₁.setTop (entryFrame m #[(.int p0), (.int p1)] maxLocals)) t := fun t k => castTop (ef_0_II m p0 p1) k
  have G' := G
  obtain ⟨S_w_INT, E_w_INT, F_ordinal_w_INT, S_w_BYTE, E_w_BYTE, F_ordinal_w_BYTE, S_w_CHAR, E_w_CHAR, F_ordinal_w_CHAR, S_w_OBJECT, E_w_OBJECT, F_ordinal_w_OBJECT, S_w_FLOAT, E_w_FLOAT, F_ordinal_w_FLOAT, S_w_DOUBLE, E_w_DOUBLE, F_ordinal_w_DOUBLE, S_w_LONG, E_w_LONG, F_ordinal_w_LONG, S_w_SHORT, E_w_SHORT, F_ordinal_w_SHORT, S_w_BOOLEAN, E_w_BOOLEAN, F_ordinal_w_BOOLEAN⟩ := G'
  obtain ⟨_, _, ⟨T1, L1, k1, n1⟩, -, X1, ⟨Lc1, hQ1, l1, y1, z1⟩, st1⟩ := Jvm.LawKit.callS X0 hx (y := (⟨"com/example/refleash/refleash/hprof/BasicType", "of", "(I)Lcom/example/refleash/refleash/hprof/BasicType;"⟩ : MethodName)) hown (mvT hZ (hw _ (List.mem_of_getElem? (i := 0) rfl))) (mvT hZ (hw _ (List.mem_of_getElem? (i := 1) rfl))) (mvT hZ (hw _ (List.mem_of_getElem? (i := 2) rfl))) (mvT hZ (hw _ (List.mem_of_getElem? (i := 3) rfl))) (by decide) (backOf (W := 0) (c1_0 l Z a0 hw [] w_INT w_BYTE w_CHAR w_OBJECT w_FLOAT w_DOUBLE w_LONG w_SHORT w_BOOLEAN h0 n0 Z0 G) hZ (hw _ (List.mem_of_getElem? (i := 3) rfl)) (hw _ (List.mem_of_getElem? (i := 2) rfl)) (by decide) (by decide)) (g := (mkF m 18 #[.val (.int p0), .val (.int p1), .val (.int (2 : Int32)), .unset, .unset, .unset] [(.int (2 : Int32))])) rfl (by rw [hml]; rfl) (argsL := [(.int (2 : Int32))]) (rest := []) (lenOf pd__I_Lcom_example_refleash_refleash_hprof_BasicType_ rfl) rfl (by show 2 * 0 + _ ≤ _; exact Nat.le_of_eq rfl) (hb hby at_18) (fun _ _ => ⟨rfl, e0, (by decide : 0 + 0 ≤ _), (by decide : 0 + 0 ≤ _)⟩)
  dsimp only [Pt.U, Pt.locs, Pt.cells, Pt.slots] at X1 l1 y1 z1 st1 hQ1
  subst l1 y1 z1
  obtain ⟨rfl, N1q, e1⟩ := hQ1
  have N1 := Fr.app N0 N1q
  obtain ⟨cq2, kq2, q2a, q2b, q2c⟩ := isOf hZ e1 E_w_OBJECT
  obtain ⟨_, _, ⟨T2, L2, k2, n2⟩, -, X2, ⟨Lc2, hQ2, l2, y2, z2⟩, st2⟩ := X1.virtualBackUp hx (x := (⟨"com/example/refleash/refleash/hprof/BasicType", "ordinal", "()I"⟩ : MethodName)) (y := (⟨"java/lang/Enum", "ordinal", "()I"⟩ : MethodName)) hown (mvT hZ (hw _ (List.mem_of_getElem? (i := 6) rfl))) (mvT hZ (hw _ (List.mem_of_getElem? (i := 7) rfl))) (mvT hZ (hw _ (List.mem_of_getElem? (i := 8) rfl))) (by decide) (mvT hZ (hw _ (List.mem_of_getElem? (i := 10) rfl))) (mvT hZ (hw _ (List.mem_of_getElem? (i := 9) rfl))) (backOf (W := 0) (c2_0 l Z a0 hw [] w_INT w_BYTE w_CHAR w_OBJECT w_FLOAT w_DOUBLE w_LONG w_SHORT w_BOOLEAN h0 n0 Z0 G) hZ (hw _ (List.mem_of_getElem? (i := 12) rfl)) (hw _ (List.mem_of_getElem? (i := 11) rfl)) (by decide) (by decide)) q2a q2c (g := (mkF m 81 #[.val (.int p0), .val (.int p1), .val (.int (2 : Int32)), .val (.ref w_OBJECT), .val (.int (1 : Int32)), .val (.int (0 : Int32))] [(.ref w_OBJECT)])) rfl (by rw [hml]; rfl) (Steps.refl _) (argsL := []) (rest := []) (lenOf pd___I rfl) rfl (by show 2 * 0 + _ ≤ _; exact Nat.le_of_eq rfl) (hb hby at_81) (fun _ _ => ⟨rfl, e1, (by decide : 0 + 0 ≤ _), (by decide : 0 + 0 ≤ _)⟩)
  dsimp only [Pt.U, Pt.locs, Pt.cells, Pt.slots] at X2 l2 y2 z2 st2 hQ2
  subst l2 y2 z2
  obtain ⟨rfl, N2q, e2⟩ := hQ2
  have N2 := Fr.app N1 N2q
  obtain ⟨fs, hr, hrun, hended, hW, hsame⟩ := X2.leave (v := some (.int (1 : Int32))) (fun h => by rw [Bd.returns] at h; cases h)
  refine ⟨_, _, pre0 _ ?_, hrun, hended, _, _, rfl, ?_, ⟨_, rfl⟩, hW, hsame.mono (by decide) (by decide)⟩
  · show Steps p.tables e below (s₁.setTop (mkF m 0 #[.val (.int p0), .val (.int p1), .unset, .unset, .unset, .unset] [])) _
    refine XS.iloadN X0.here hx rfl (hb hby at_0) rfl ?_
    show Steps p.tables e below (s₁.setTop (mkF m 1 #[.val (.int p0), .val (.int p1), .unset, .unset, .unset, .unset] [(.int p1)])) _
    refine XS.iconst X0.here hx rfl (hb hby at_1) ?_
    show Steps p.tables e below (s₁.setTop (mkF m 2 #[.val (.int p0), .val (.int p1), .unset, .unset, .unset, .unset] [(.int (1 : Int32)), (.int p1)])) _
    refine XS.iand X0.here hx rfl (hb hby at_2) rfl ?_
    show Steps p.tables e below (s₁.setTop (mkF m 3 #[.val (.int p0), .val (.int p1), .unset, .unset, .unset, .unset] [(.int (p1 &&& (1 : Int32)))])) _
    refine XS.ifYes X0.here hx rfl (pc0 := 3) (pc' := 10) rfl (hb hby at_3) rfl ((if0 _ _).trans (teq (hs : (p1 &&& (1 : Int32)) = (0 : Int32))).1) (by decide) (by decide) ?_
    show Steps p.tables e below (s₁.setTop (mkF m 10 #[.val (.int p0), .val (.int p1), .unset, .unset, .unset, .unset] [])) _
    refine XS.iloadN X0.here hx rfl (hb hby at_10) rfl ?_
    show Steps p.tables e below (s₁.setTop (mkF m 11 #[.val (.int p0), .val (.int p1), .unset, .unset, .unset, .unset] [(.int p1)])) _
    refine XS.iconst X0.here hx rfl (hb hby at_11) ?_
    show Steps p.tables e below (s₁.setTop (mkF m 12 #[.val (.int p0), .val (.int p1), .unset, .unset, .unset, .unset] [(.int (1 : Int32)), (.int p1)])) _
    refine XS.iushr X0.here hx rfl (hb hby at_12) rfl ?_
    show Steps p.tables e below (s₁.setTop (mkF m 13 #[.val (.int p0), .val (.int p1), .unset, .unset, .unset, .unset] [(.int ((p1.toUInt32 >>> ((1 : Int32) &&& 31).toUInt32).toInt32))])) _
    refine XS.bipush X0.here hx rfl (hb hby at_13) ?_
    show Steps p.tables e below (s₁.setTop (mkF m 15 #[.val (.int p0), .val (.int p1), .unset, .unset, .unset, .unset] [(.int (15 : Int32)), (.int ((p1.toUInt32 >>> ((1 : Int32) &&& 31).toUInt32).toInt32))])) _
    refine XS.iand X0.here hx rfl (hb hby at_15) rfl ?_
    show Steps p.tables e below (s₁.setTop (mkF m 16 #[.val (.int p0), .val (.int p1), .unset, .unset, .unset, .unset] [(.int (((p1.toUInt32 >>> ((1 : Int32) &&& 31).toUInt32).toInt32) &&& (15 : Int32)))])) _
    rw [hi2]
    show Steps p.tables e below (s₁.setTop (mkF m 16 #[.val (.int p0), .val (.int p1), .unset, .unset, .unset, .unset] [(.int (2 : Int32))])) _
    refine XS.istoreN X0.here hx rfl (hb hby at_16) rfl (l' := #[.val (.int p0), .val (.int p1), .val (.int (2 : Int32)), .unset, .unset, .unset]) rfl ?_
    show Steps p.tables e below (s₁.setTop (mkF m 17 #[.val (.int p0), .val (.int p1), .val (.int (2 : Int32)), .unset, .unset, .unset] [])) _
    refine XS.iloadN X0.here hx rfl (hb hby at_17) rfl ?_
    show Steps p.tables e below (s₁.setTop (mkF m 18 #[.val (.int p0), .val (.int p1), .val (.int (2 : Int32)), .unset, .unset, .unset] [(.int (2 : Int32))])) _
    refine st1 _ ?_
    show Steps p.tables e below (T1.setTop (mkF m 21 #[.val (.int p0), .val (.int p1), .val (.int (2 : Int32)), .unset, .unset, .unset] [(.ref w_OBJECT)])) _
    refine XS.astoreN X1.here hx rfl (hb hby at_21) rfl rfl (l' := #[.val (.int p0), .val (.int p1), .val (.int (2 : Int32)), .val (.ref w_OBJECT), .unset, .unset]) rfl ?_
    show Steps p.tables e below (T1.setTop (mkF m 22 #[.val (.int p0), .val (.int p1), .val (.int (2 : Int32)), .val (.ref w_OBJECT), .unset, .unset] [])) _
    refine XS.iloadN X1.here hx rfl (hb hby at_22) rfl ?_
    show Steps p.tables e below (T1.setTop (mkF m 23 #[.val (.int p0), .val (.int p1), .val (.int (2 : Int32)), .val (.ref w_OBJECT), .unset, .unset] [(.int (2 : Int32))])) _
    refine XS.iconst X1.here hx rfl (hb hby at_23) ?_
    show Steps p.tables e below (T1.setTop (mkF m 24 #[.val (.int p0), .val (.int p1), .val (.int (2 : Int32)), .val (.ref w_OBJECT), .unset, .unset] [(.int (2 : Int32)), (.int (2 : Int32))])) _
    refine XS.icmpYes X1.here hx rfl (pc0 := 24) (pc' := 38) rfl (hb hby at_24) rfl (teq (by decide : (2 : Int32) = (2 : Int32))).1 (by decide) (by decide) ?_
    show Steps p.tables e below (T1.setTop (mkF m 38 #[.val (.int p0), .val (.int p1), .val (.int (2 : Int32)), .val (.ref w_OBJECT), .unset, .unset] [])) _
    refine XS.iconst X1.here hx rfl (hb hby at_38) ?_
    show Steps p.tables e below (T1.setTop (mkF m 39 #[.val (.int p0), .val (.int p1), .val (.int (2 : Int32)), .val (.ref w_OBJECT), .unset, .unset] [(.int (1 : Int32))])) _
    refine XS.goto X1.here hx rfl (pc0 := 39) (pc' := 43) rfl (hb hby at_39) (by decide) (by decide) ?_
    show Steps p.tables e below (T1.setTop (mkF m 43 #[.val (.int p0), .val (.int p1), .val (.int (2 : Int32)), .val (.ref w_OBJECT), .unset, .unset] [(.int (1 : Int32))])) _
    refine XS.istore X1.here hx rfl (hb hby at_43) rfl (l' := #[.val (.int p0), .val (.int p1), .val (.int (2 : Int32)), .val (.ref w_OBJECT), .val (.int (1 : Int32)), .unset]) rfl ?_
    show Steps p.tables e below (T1.setTop (mkF m 45 #[.val (.int p0), .val (.int p1), .val (.int (2 : Int32)), .val (.ref w_OBJECT), .val (.int (1 : Int32)), .unset] [])) _
    refine XS.iload X1.here hx rfl (hb hby at_45) rfl ?_
    show Steps p.tables e below (T1.setTop (mkF m 47 #[.val (.int p0), .val (.int p1), .val (.int (2 : Int32)), .val (.ref w_OBJECT), .val (.int (1 : Int32)), .unset] [(.int (1 : Int32))])) _
    refine XS.ifYes X1.here hx rfl (pc0 := 47) (pc' := 60) rfl (hb hby at_47) rfl ((if0 _ _).trans (feq (by decide : ¬ ((1 : Int32) = (0 : Int32)))).2) (by decide) (by decide) ?_
    show Steps p.tables e below (T1.setTop (mkF m 60 #[.val (.int p0), .val (.int p1), .val (.int (2 : Int32)), .val (.ref w_OBJECT), .val (.int (1 : Int32)), .unset] [])) _
    refine XS.aloadN X1.here hx rfl (hb hby at_60) rfl rfl ?_
    show Steps p.tables e below (T1.setTop (mkF m 61 #[.val (.int p0), .val (.int p1), .val (.int (2 : Int32)), .val (.ref w_OBJECT), .val (.int (1 : Int32)), .unset] [(.ref w_OBJECT)])) _
    refine XS.ifnonnullYes X1.here hx rfl (pc0 := 61) (pc' := 66) rfl (hb hby at_61) rfl (by decide) (by decide) ?_
    show Steps p.tables e below (T1.setTop (mkF m 66 #[.val (.int p0), .val (.int p1), .val (.int (2 : Int32)), .val (.ref w_OBJECT), .val (.int (1 : Int32)), .unset] [])) _
    refine XS.iloadN X1.here hx rfl (hb hby at_66) rfl ?_
    show Steps p.tables e below (T1.setTop (mkF m 67 #[.val (.int p0), .val (.int p1), .val (.int (2 : Int32)), .val (.ref w_OBJECT), .val (.int (1 : Int32)), .unset] [(.int (2 : Int32))])) _
    refine XS.iconst X1.here hx rfl (hb hby at_67) ?_
    show Steps p.tables e below (T1.setTop (mkF m 68 #[.val (.int p0), .val (.int p1), .val (.int (2 : Int32)), .val (.ref w_OBJECT), .val (.int (1 : Int32)), .unset] [(.int (2 : Int32)), (.int (2 : Int32))])) _
    refine XS.icmpNo X1.here hx rfl (hb hby at_68) rfl (teq (by decide : (2 : Int32) = (2 : Int32))).2 ?_
    show Steps p.tables e below (T1.setTop (mkF m 71 #[.val (.int p0), .val (.int p1), .val (.int (2 : Int32)), .val (.ref w_OBJECT), .val (.int (1 : Int32)), .unset] [])) _
    refine XS.iconst X1.here hx rfl (hb hby at_71) ?_
    show Steps p.tables e below (T1.setTop (mkF m 72 #[.val (.int p0), .val (.int p1), .val (.int (2 : Int32)), .val (.ref w_OBJECT), .val (.int (1 : Int32)), .unset] [(.int (0 : Int32))])) _
    refine XS.goto X1.here hx rfl (pc0 := 72) (pc' := 78) rfl (hb hby at_72) (by decide) (by decide) ?_
    show Steps p.tables e below (T1.setTop (mkF m 78 #[.val (.int p0), .val (.int p1), .val (.int (2 : Int32)), .val (.ref w_OBJECT), .val (.int (1 : Int32)), .unset] [(.int (0 : Int32))])) _
    refine XS.istore X1.here hx rfl (hb hby at_78) rfl (l' := #[.val (.int p0), .val (.int p1), .val (.int (2 : Int32)), .val (.ref w_OBJECT), .val (.int (1 : Int32)), .val (.int (0 : Int32))]) rfl ?_
    show Steps p.tables e below (T1.setTop (mkF m 80 #[.val (.int p0), .val (.int p1), .val (.int (2 : Int32)), .val (.ref w_OBJECT), .val (.int (1 : Int32)), .val (.int (0 : Int32))] [])) _
    refine XS.aloadN X1.here hx rfl (hb hby at_80) rfl rfl ?_
    show Steps p.tables e below (T1.setTop (mkF m 81 #[.val (.int p0), .val (.int p1), .val (.int (2 : Int32)), .val (.ref w_OBJECT), .val (.int (1 : Int32)), .val (.int (0 : Int32))] [(.ref w_OBJECT)])) _
    refine st2.trans ?_
    show Steps p.tables e below (T2.setTop (mkF m 84 #[.val (.int p0), .val (.int p1), .val (.int (2 : Int32)), .val (.ref w_OBJECT), .val (.int (1 : Int32)), .val (.int (0 : Int32))] [(.int (0 : Int32))])) _
    refine XS.iload X2.here hx rfl (hb hby at_84) rfl ?_
    show Steps p.tables e below (T2.setTop (mkF m 86 #[.val (.int p0), .val (.int p1), .val (.int (2 : Int32)), .val (.ref w_OBJECT), .val (.int (1 : Int32)), .val (.int (0 : Int32))] [(.int (0 : Int32)), (.int (0 : Int32))])) _
    refine XS.icmpNo X2.here hx rfl (hb hby at_86) rfl (teq (by decide : (0 : Int32) = (0 : Int32))).2 ?_
    show Steps p.tables e below (T2.setTop (mkF m 89 #[.val (.int p0), .val (.int p1), .val (.int (2 : Int32)), .val (.ref w_OBJECT), .val (.int (1 : Int32)), .val (.int (0 : Int32))] [])) _
    refine XS.iconst X2.here hx rfl (hb hby at_89) ?_
    show Steps p.tables e below (T2.setTop (mkF m 90 #[.val (.int p0), .val (.int p1), .val (.int (2 : Int32)), .val (.ref w_OBJECT), .val (.int (1 : Int32)), .val (.int (0 : Int32))] [(.int (1 : Int32))])) _
    refine XS.goto X2.here hx rfl (pc0 := 90) (pc' := 94) rfl (hb hby at_90) (by decide) (by decide) ?_
    show Steps p.tables e below (T2.setTop (mkF m 94 #[.val (.int p0), .val (.int p1), .val (.int (2 : Int32)), .val (.ref w_OBJECT), .val (.int (1 : Int32)), .val (.int (0 : Int32))] [(.int (1 : Int32))])) _
    exact retOut X2 hx Bd.returns rfl (Or.inl ⟨rfl, Or.inr (Or.inl rfl), _, rfl⟩) (hb hby at_94) hr
  · exact ⟨rfl, N2⟩
set_option maxRecDepth 65536 in
set_option maxHeartbeats 40000000 in
theorem sel_3 (l : Launch) (Z : State) (a0 : Array Value) (hw : ∀ d ∈ tables_1, d.before a0 Z = true) (ws : List Jvm.Cond) (w_INT : Addr) (w_BYTE : Addr) (w_CHAR : Addr) (w_OBJECT : Addr) (w_FLOAT : Addr) (w_DOUBLE : Addr) (w_LONG : Addr) (w_SHORT : Addr) (w_BOOLEAN : Addr) (h0 : Heap) (n0 : Nat) (Z0 : n0 ≤ h0.size) (G : Glob Z h0 w_INT w_BYTE w_CHAR w_OBJECT w_FLOAT w_DOUBLE w_LONG w_SHORT w_BOOLEAN) (p0 p1 : Int32) (hs : (p1 &&& (1 : Int32)) = (0 : Int32)) (hi3 : (((p1.toUInt32 >>> ((1 : Int32) &&& 31).toUInt32).toInt32) &&& (15 : Int32)) = (3 : Int32)) :
    MetFree l x (head1 (Jvm.Cond.code x code maxLocals ret :: ws) room_1) (fun a U => a = #[(.int p0), (.int p1)] ∧ Z.Warmed39 U.vm ∧ U.heap = h0) (fun _ _ _ _ _ => True) (fun _ U o U' => ∃ v L, o = .returned v ∧ QL (some (.int (1 : Int32))) h0 n0 v U'.heap L ∧ FrameEnd U o U' L room_1.cells room_1.slots) := by
  refine MetFree.of_bodySF (plainFor_of_name pn_com_example_refleash_refleash_hprof_BasicTypeOfPinLaw) hisR ?_
  intro p e s m args below meth c s₁ Bd hml0 hP hK
  obtain ⟨rfl, hZ, hh⟩ := hP
  have hx := Bd.exec
  have hby := Bd.bytes
  have hml : c.maxLocals = 6 := hml0
  have hown : s.vm.findClass "com/example/refleash/refleash/hprof/BasicTypeOfPinLaw" = some m.cls := findClass_of_methodNamed Bd.named
  have X0 : Stand p l e room_1 s m #[(.int p0), (.int p1)] below meth c s₁ [] 0 0 := Stand.of_body Bd
  have e0 : s₁.heap = h0 := by rw [← hh, Bd.state]; rfl
  have N0 := Fr.nil n0
  have pre0 : ∀ t, Steps p.tables e below (s₁.setTop (mkF m 0 #[.val (.int p0), .val (.int p1), .unset, .unset, .unset, .unset] [])) t → Steps p.tables e below (s₁.setTop (entryFrame m #[(.int p0), (.int p1)] maxLocals)) t := fun t k => castTop (ef_0_II m p0 p1) k
  have G' := G
  obtain ⟨S_w_INT, E_w_INT, F_ordinal_w_INT, S_w_BYTE, E_w_BYTE, F_ordinal_w_BYTE, S_w_CHAR, E_w_CHAR, F_ordinal_w_CHAR, S_w_OBJECT, E_w_OBJECT, F_ordinal_w_OBJECT, S_w_FLOAT, E_w_FLOAT, F_ordinal_w_FLOAT, S_w_DOUBLE, E_w_DOUBLE, F_ordinal_w_DOUBLE, S_w_LONG, E_w_LONG, F_ordinal_w_LONG, S_w_SHORT, E_w_SHORT, F_ordinal_w_SHORT, S_w_BOOLEAN, E_w_BOOLEAN, F_ordinal_w_BOOLEAN⟩ := G'
  obtain ⟨_, _, ⟨T1, L1, k1, n1⟩, -, X1, ⟨Lc1, hQ1, l1, y1, z1⟩, st1⟩ := Jvm.LawKit.callS X0 hx (y := (⟨"com/example/refleash/refleash/hprof/BasicType", "of", "(I)Lcom/example/refleash/refleash/hprof/BasicType;"⟩ : MethodName)) hown (mvT hZ (hw _ (List.mem_of_getElem? (i := 0) rfl))) (mvT hZ (hw _ (List.mem_of_getElem? (i := 1) rfl))) (mvT hZ (hw _ (List.mem_of_getElem? (i := 2) rfl))) (mvT hZ (hw _ (List.mem_of_getElem? (i := 3) rfl))) (by decide) (backOf (W := 0) (c1_9 l Z a0 hw [] w_INT w_BYTE w_CHAR w_OBJECT w_FLOAT w_DOUBLE w_LONG w_SHORT w_BOOLEAN h0 n0 Z0 G) hZ (hw _ (List.mem_of_getElem? (i := 3) rfl)) (hw _ (List.mem_of_getElem? (i := 2) rfl)) (by decide) (by decide)) (g := (mkF m 18 #[.val (.int p0), .val (.int p1), .val (.int (3 : Int32)), .unset, .unset, .unset] [(.int (3 : Int32))])) rfl (by rw [hml]; rfl) (argsL := [(.int (3 : Int32))]) (rest := []) (lenOf pd__I_Lcom_example_refleash_refleash_hprof_BasicType_ rfl) rfl (by show 2 * 0 + _ ≤ _; exact Nat.le_of_eq rfl) (hb hby at_18) (fun _ _ => ⟨rfl, e0, (by decide : 0 + 0 ≤ _), (by decide : 0 + 0 ≤ _)⟩)
  dsimp only [Pt.U, Pt.locs, Pt.cells, Pt.slots] at X1 l1 y1 z1 st1 hQ1
  subst l1 y1 z1
  obtain ⟨rfl, N1q, e1⟩ := hQ1
  have N1 := Fr.app N0 N1q
  obtain ⟨fs, hr, hrun, hended, hW, hsame⟩ := X1.leave (v := some (.int (1 : Int32))) (fun h => by rw [Bd.returns] at h; cases h)
  refine ⟨_, _, pre0 _ ?_, hrun, hended, _, _, rfl, ?_, ⟨_, rfl⟩, hW, hsame.mono (by decide) (by decide)⟩
  · show Steps p.tables e below (s₁.setTop (mkF m 0 #[.val (.int p0), .val (.int p1), .unset, .unset, .unset, .unset] [])) _
    refine XS.iloadN X0.here hx rfl (hb hby at_0) rfl ?_
    show Steps p.tables e below (s₁.setTop (mkF m 1 #[.val (.int p0), .val (.int p1), .unset, .unset, .unset, .unset] [(.int p1)])) _
    refine XS.iconst X0.here hx rfl (hb hby at_1) ?_
    show Steps p.tables e below (s₁.setTop (mkF m 2 #[.val (.int p0), .val (.int p1), .unset, .unset, .unset, .unset] [(.int (1 : Int32)), (.int p1)])) _
    refine XS.iand X0.here hx rfl (hb hby at_2) rfl ?_
    show Steps p.tables e below (s₁.setTop (mkF m 3 #[.val (.int p0), .val (.int p1), .unset, .unset, .unset, .unset] [(.int (p1 &&& (1 : Int32)))])) _
    refine XS.ifYes X0.here hx rfl (pc0 := 3) (pc' := 10) rfl (hb hby at_3) rfl ((if0 _ _).trans (teq (hs : (p1 &&& (1 : Int32)) = (0 : Int32))).1) (by decide) (by decide) ?_
    show Steps p.tables e below (s₁.setTop (mkF m 10 #[.val (.int p0), .val (.int p1), .unset, .unset, .unset, .unset] [])) _
    refine XS.iloadN X0.here hx rfl (hb hby at_10) rfl ?_
    show Steps p.tables e below (s₁.setTop (mkF m 11 #[.val (.int p0), .val (.int p1), .unset, .unset, .unset, .unset] [(.int p1)])) _
    refine XS.iconst X0.here hx rfl (hb hby at_11) ?_
    show Steps p.tables e below (s₁.setTop (mkF m 12 #[.val (.int p0), .val (.int p1), .unset, .unset, .unset, .unset] [(.int (1 : Int32)), (.int p1)])) _
    refine XS.iushr X0.here hx rfl (hb hby at_12) rfl ?_
    show Steps p.tables e below (s₁.setTop (mkF m 13 #[.val (.int p0), .val (.int p1), .unset, .unset, .unset, .unset] [(.int ((p1.toUInt32 >>> ((1 : Int32) &&& 31).toUInt32).toInt32))])) _
    refine XS.bipush X0.here hx rfl (hb hby at_13) ?_
    show Steps p.tables e below (s₁.setTop (mkF m 15 #[.val (.int p0), .val (.int p1), .unset, .unset, .unset, .unset] [(.int (15 : Int32)), (.int ((p1.toUInt32 >>> ((1 : Int32) &&& 31).toUInt32).toInt32))])) _
    refine XS.iand X0.here hx rfl (hb hby at_15) rfl ?_
    show Steps p.tables e below (s₁.setTop (mkF m 16 #[.val (.int p0), .val (.int p1), .unset, .unset, .unset, .unset] [(.int (((p1.toUInt32 >>> ((1 : Int32) &&& 31).toUInt32).toInt32) &&& (15 : Int32)))])) _
    rw [hi3]
    show Steps p.tables e below (s₁.setTop (mkF m 16 #[.val (.int p0), .val (.int p1), .unset, .unset, .unset, .unset] [(.int (3 : Int32))])) _
    refine XS.istoreN X0.here hx rfl (hb hby at_16) rfl (l' := #[.val (.int p0), .val (.int p1), .val (.int (3 : Int32)), .unset, .unset, .unset]) rfl ?_
    show Steps p.tables e below (s₁.setTop (mkF m 17 #[.val (.int p0), .val (.int p1), .val (.int (3 : Int32)), .unset, .unset, .unset] [])) _
    refine XS.iloadN X0.here hx rfl (hb hby at_17) rfl ?_
    show Steps p.tables e below (s₁.setTop (mkF m 18 #[.val (.int p0), .val (.int p1), .val (.int (3 : Int32)), .unset, .unset, .unset] [(.int (3 : Int32))])) _
    refine st1 _ ?_
    show Steps p.tables e below (T1.setTop (mkF m 21 #[.val (.int p0), .val (.int p1), .val (.int (3 : Int32)), .unset, .unset, .unset] [.null])) _
    refine XS.astoreN X1.here hx rfl (hb hby at_21) rfl rfl (l' := #[.val (.int p0), .val (.int p1), .val (.int (3 : Int32)), .val .null, .unset, .unset]) rfl ?_
    show Steps p.tables e below (T1.setTop (mkF m 22 #[.val (.int p0), .val (.int p1), .val (.int (3 : Int32)), .val .null, .unset, .unset] [])) _
    refine XS.iloadN X1.here hx rfl (hb hby at_22) rfl ?_
    show Steps p.tables e below (T1.setTop (mkF m 23 #[.val (.int p0), .val (.int p1), .val (.int (3 : Int32)), .val .null, .unset, .unset] [(.int (3 : Int32))])) _
    refine XS.iconst X1.here hx rfl (hb hby at_23) ?_
    show Steps p.tables e below (T1.setTop (mkF m 24 #[.val (.int p0), .val (.int p1), .val (.int (3 : Int32)), .val .null, .unset, .unset] [(.int (2 : Int32)), (.int (3 : Int32))])) _
    refine XS.icmpNo X1.here hx rfl (hb hby at_24) rfl (feq (by decide : ¬ ((3 : Int32) = (2 : Int32)))).1 ?_
    show Steps p.tables e below (T1.setTop (mkF m 27 #[.val (.int p0), .val (.int p1), .val (.int (3 : Int32)), .val .null, .unset, .unset] [])) _
    refine XS.iloadN X1.here hx rfl (hb hby at_27) rfl ?_
    show Steps p.tables e below (T1.setTop (mkF m 28 #[.val (.int p0), .val (.int p1), .val (.int (3 : Int32)), .val .null, .unset, .unset] [(.int (3 : Int32))])) _
    refine XS.iconst X1.here hx rfl (hb hby at_28) ?_
    show Steps p.tables e below (T1.setTop (mkF m 29 #[.val (.int p0), .val (.int p1), .val (.int (3 : Int32)), .val .null, .unset, .unset] [(.int (4 : Int32)), (.int (3 : Int32))])) _
    refine XS.icmpYes X1.here hx rfl (pc0 := 29) (pc' := 42) rfl (hb hby at_29) rfl (tlt (by decide : (3 : Int32) < (4 : Int32))).1 (by decide) (by decide) ?_
    show Steps p.tables e below (T1.setTop (mkF m 42 #[.val (.int p0), .val (.int p1), .val (.int (3 : Int32)), .val .null, .unset, .unset] [])) _
    refine XS.iconst X1.here hx rfl (hb hby at_42) ?_
    show Steps p.tables e below (T1.setTop (mkF m 43 #[.val (.int p0), .val (.int p1), .val (.int (3 : Int32)), .val .null, .unset, .unset] [(.int (0 : Int32))])) _
    refine XS.istore X1.here hx rfl (hb hby at_43) rfl (l' := #[.val (.int p0), .val (.int p1), .val (.int (3 : Int32)), .val .null, .val (.int (0 : Int32)), .unset]) rfl ?_
    show Steps p.tables e below (T1.setTop (mkF m 45 #[.val (.int p0), .val (.int p1), .val (.int (3 : Int32)), .val .null, .val (.int (0 : Int32)), .unset] [])) _
    refine XS.iload X1.here hx rfl (hb hby at_45) rfl ?_
    show Steps p.tables e below (T1.setTop (mkF m 47 #[.val (.int p0), .val (.int p1), .val (.int (3 : Int32)), .val .null, .val (.int (0 : Int32)), .unset] [(.int (0 : Int32))])) _
    refine XS.ifNo X1.here hx rfl (hb hby at_47) rfl ((if0 _ _).trans (teq (by decide : (0 : Int32) = (0 : Int32))).2) ?_
    show Steps p.tables e below (T1.setTop (mkF m 50 #[.val (.int p0), .val (.int p1), .val (.int (3 : Int32)), .val .null, .val (.int (0 : Int32)), .unset] [])) _
    refine XS.aloadN X1.here hx rfl (hb hby at_50) rfl rfl ?_
    show Steps p.tables e below (T1.setTop (mkF m 51 #[.val (.int p0), .val (.int p1), .val (.int (3 : Int32)), .val .null, .val (.int (0 : Int32)), .unset] [.null])) _
    refine XS.ifnonnullNo X1.here hx rfl (hb hby at_51) rfl ?_
    show Steps p.tables e below (T1.setTop (mkF m 54 #[.val (.int p0), .val (.int p1), .val (.int (3 : Int32)), .val .null, .val (.int (0 : Int32)), .unset] [])) _
    refine XS.iconst X1.here hx rfl (hb hby at_54) ?_
    show Steps p.tables e below (T1.setTop (mkF m 55 #[.val (.int p0), .val (.int p1), .val (.int (3 : Int32)), .val .null, .val (.int (0 : Int32)), .unset] [(.int (1 : Int32))])) _
    refine XS.goto X1.here hx rfl (pc0 := 55) (pc' := 59) rfl (hb hby at_55) (by decide) (by decide) ?_
    show Steps p.tables e below (T1.setTop (mkF m 59 #[.val (.int p0), .val (.int p1), .val (.int (3 : Int32)), .val .null, .val (.int (0 : Int32)), .unset] [(.int (1 : Int32))])) _
    exact retOut X1 hx Bd.returns rfl (Or.inl ⟨rfl, Or.inr (Or.inl rfl), _, rfl⟩) (hb hby at_59) hr
  · exact ⟨rfl, N1⟩
set_option maxRecDepth 65536 in
set_option maxHeartbeats 40000000 in
theorem sel_4 (l : Launch) (Z : State) (a0 : Array Value) (hw : ∀ d ∈ tables_1, d.before a0 Z = true) (ws : List Jvm.Cond) (w_INT : Addr) (w_BYTE : Addr) (w_CHAR : Addr) (w_OBJECT : Addr) (w_FLOAT : Addr) (w_DOUBLE : Addr) (w_LONG : Addr) (w_SHORT : Addr) (w_BOOLEAN : Addr) (h0 : Heap) (n0 : Nat) (Z0 : n0 ≤ h0.size) (G : Glob Z h0 w_INT w_BYTE w_CHAR w_OBJECT w_FLOAT w_DOUBLE w_LONG w_SHORT w_BOOLEAN) (p0 p1 : Int32) (hs : (p1 &&& (1 : Int32)) = (0 : Int32)) (hi4 : (((p1.toUInt32 >>> ((1 : Int32) &&& 31).toUInt32).toInt32) &&& (15 : Int32)) = (4 : Int32)) :
    MetFree l x (head1 (Jvm.Cond.code x code maxLocals ret :: ws) room_1) (fun a U => a = #[(.int p0), (.int p1)] ∧ Z.Warmed39 U.vm ∧ U.heap = h0) (fun _ _ _ _ _ => True) (fun _ U o U' => ∃ v L, o = .returned v ∧ QL (some (.int (1 : Int32))) h0 n0 v U'.heap L ∧ FrameEnd U o U' L room_1.cells room_1.slots) := by
  refine MetFree.of_bodySF (plainFor_of_name pn_com_example_refleash_refleash_hprof_BasicTypeOfPinLaw) hisR ?_
  intro p e s m args below meth c s₁ Bd hml0 hP hK
  obtain ⟨rfl, hZ, hh⟩ := hP
  have hx := Bd.exec
  have hby := Bd.bytes
  have hml : c.maxLocals = 6 := hml0
  have hown : s.vm.findClass "com/example/refleash/refleash/hprof/BasicTypeOfPinLaw" = some m.cls := findClass_of_methodNamed Bd.named
  have X0 : Stand p l e room_1 s m #[(.int p0), (.int p1)] below meth c s₁ [] 0 0 := Stand.of_body Bd
  have e0 : s₁.heap = h0 := by rw [← hh, Bd.state]; rfl
  have N0 := Fr.nil n0
  have pre0 : ∀ t, Steps p.tables e below (s₁.setTop (mkF m 0 #[.val (.int p0), .val (.int p1), .unset, .unset, .unset, .unset] [])) t → Steps p.tables e below (s₁.setTop (entryFrame m #[(.int p0), (.int p1)] maxLocals)) t := fun t k => castTop (ef_0_II m p0 p1) k
  have G' := G
  obtain ⟨S_w_INT, E_w_INT, F_ordinal_w_INT, S_w_BYTE, E_w_BYTE, F_ordinal_w_BYTE, S_w_CHAR, E_w_CHAR, F_ordinal_w_CHAR, S_w_OBJECT, E_w_OBJECT, F_ordinal_w_OBJECT, S_w_FLOAT, E_w_FLOAT, F_ordinal_w_FLOAT, S_w_DOUBLE, E_w_DOUBLE, F_ordinal_w_DOUBLE, S_w_LONG, E_w_LONG, F_ordinal_w_LONG, S_w_SHORT, E_w_SHORT, F_ordinal_w_SHORT, S_w_BOOLEAN, E_w_BOOLEAN, F_ordinal_w_BOOLEAN⟩ := G'
  obtain ⟨_, _, ⟨T1, L1, k1, n1⟩, -, X1, ⟨Lc1, hQ1, l1, y1, z1⟩, st1⟩ := Jvm.LawKit.callS X0 hx (y := (⟨"com/example/refleash/refleash/hprof/BasicType", "of", "(I)Lcom/example/refleash/refleash/hprof/BasicType;"⟩ : MethodName)) hown (mvT hZ (hw _ (List.mem_of_getElem? (i := 0) rfl))) (mvT hZ (hw _ (List.mem_of_getElem? (i := 1) rfl))) (mvT hZ (hw _ (List.mem_of_getElem? (i := 2) rfl))) (mvT hZ (hw _ (List.mem_of_getElem? (i := 3) rfl))) (by decide) (backOf (W := 0) (c1_1 l Z a0 hw [] w_INT w_BYTE w_CHAR w_OBJECT w_FLOAT w_DOUBLE w_LONG w_SHORT w_BOOLEAN h0 n0 Z0 G) hZ (hw _ (List.mem_of_getElem? (i := 3) rfl)) (hw _ (List.mem_of_getElem? (i := 2) rfl)) (by decide) (by decide)) (g := (mkF m 18 #[.val (.int p0), .val (.int p1), .val (.int (4 : Int32)), .unset, .unset, .unset] [(.int (4 : Int32))])) rfl (by rw [hml]; rfl) (argsL := [(.int (4 : Int32))]) (rest := []) (lenOf pd__I_Lcom_example_refleash_refleash_hprof_BasicType_ rfl) rfl (by show 2 * 0 + _ ≤ _; exact Nat.le_of_eq rfl) (hb hby at_18) (fun _ _ => ⟨rfl, e0, (by decide : 0 + 0 ≤ _), (by decide : 0 + 0 ≤ _)⟩)
  dsimp only [Pt.U, Pt.locs, Pt.cells, Pt.slots] at X1 l1 y1 z1 st1 hQ1
  subst l1 y1 z1
  obtain ⟨rfl, N1q, e1⟩ := hQ1
  have N1 := Fr.app N0 N1q
  obtain ⟨cq2, kq2, q2a, q2b, q2c⟩ := isOf hZ e1 E_w_BOOLEAN
  obtain ⟨_, _, ⟨T2, L2, k2, n2⟩, -, X2, ⟨Lc2, hQ2, l2, y2, z2⟩, st2⟩ := X1.virtualBackUp hx (x := (⟨"com/example/refleash/refleash/hprof/BasicType", "ordinal", "()I"⟩ : MethodName)) (y := (⟨"java/lang/Enum", "ordinal", "()I"⟩ : MethodName)) hown (mvT hZ (hw _ (List.mem_of_getElem? (i := 6) rfl))) (mvT hZ (hw _ (List.mem_of_getElem? (i := 7) rfl))) (mvT hZ (hw _ (List.mem_of_getElem? (i := 8) rfl))) (by decide) (mvT hZ (hw _ (List.mem_of_getElem? (i := 10) rfl))) (mvT hZ (hw _ (List.mem_of_getElem? (i := 9) rfl))) (backOf (W := 0) (c2_1 l Z a0 hw [] w_INT w_BYTE w_CHAR w_OBJECT w_FLOAT w_DOUBLE w_LONG w_SHORT w_BOOLEAN h0 n0 Z0 G) hZ (hw _ (List.mem_of_getElem? (i := 12) rfl)) (hw _ (List.mem_of_getElem? (i := 11) rfl)) (by decide) (by decide)) q2a q2c (g := (mkF m 81 #[.val (.int p0), .val (.int p1), .val (.int (4 : Int32)), .val (.ref w_BOOLEAN), .val (.int (1 : Int32)), .val (.int (1 : Int32))] [(.ref w_BOOLEAN)])) rfl (by rw [hml]; rfl) (Steps.refl _) (argsL := []) (rest := []) (lenOf pd___I rfl) rfl (by show 2 * 0 + _ ≤ _; exact Nat.le_of_eq rfl) (hb hby at_81) (fun _ _ => ⟨rfl, e1, (by decide : 0 + 0 ≤ _), (by decide : 0 + 0 ≤ _)⟩)
  dsimp only [Pt.U, Pt.locs, Pt.cells, Pt.slots] at X2 l2 y2 z2 st2 hQ2
  subst l2 y2 z2
  obtain ⟨rfl, N2q, e2⟩ := hQ2
  have N2 := Fr.app N1 N2q
  obtain ⟨fs, hr, hrun, hended, hW, hsame⟩ := X2.leave (v := some (.int (1 : Int32))) (fun h => by rw [Bd.returns] at h; cases h)
  refine ⟨_, _, pre0 _ ?_, hrun, hended, _, _, rfl, ?_, ⟨_, rfl⟩, hW, hsame.mono (by decide) (by decide)⟩
  · show Steps p.tables e below (s₁.setTop (mkF m 0 #[.val (.int p0), .val (.int p1), .unset, .unset, .unset, .unset] [])) _
    refine XS.iloadN X0.here hx rfl (hb hby at_0) rfl ?_
    show Steps p.tables e below (s₁.setTop (mkF m 1 #[.val (.int p0), .val (.int p1), .unset, .unset, .unset, .unset] [(.int p1)])) _
    refine XS.iconst X0.here hx rfl (hb hby at_1) ?_
    show Steps p.tables e below (s₁.setTop (mkF m 2 #[.val (.int p0), .val (.int p1), .unset, .unset, .unset, .unset] [(.int (1 : Int32)), (.int p1)])) _
    refine XS.iand X0.here hx rfl (hb hby at_2) rfl ?_
    show Steps p.tables e below (s₁.setTop (mkF m 3 #[.val (.int p0), .val (.int p1), .unset, .unset, .unset, .unset] [(.int (p1 &&& (1 : Int32)))])) _
    refine XS.ifYes X0.here hx rfl (pc0 := 3) (pc' := 10) rfl (hb hby at_3) rfl ((if0 _ _).trans (teq (hs : (p1 &&& (1 : Int32)) = (0 : Int32))).1) (by decide) (by decide) ?_
    show Steps p.tables e below (s₁.setTop (mkF m 10 #[.val (.int p0), .val (.int p1), .unset, .unset, .unset, .unset] [])) _
    refine XS.iloadN X0.here hx rfl (hb hby at_10) rfl ?_
    show Steps p.tables e below (s₁.setTop (mkF m 11 #[.val (.int p0), .val (.int p1), .unset, .unset, .unset, .unset] [(.int p1)])) _
    refine XS.iconst X0.here hx rfl (hb hby at_11) ?_
    show Steps p.tables e below (s₁.setTop (mkF m 12 #[.val (.int p0), .val (.int p1), .unset, .unset, .unset, .unset] [(.int (1 : Int32)), (.int p1)])) _
    refine XS.iushr X0.here hx rfl (hb hby at_12) rfl ?_
    show Steps p.tables e below (s₁.setTop (mkF m 13 #[.val (.int p0), .val (.int p1), .unset, .unset, .unset, .unset] [(.int ((p1.toUInt32 >>> ((1 : Int32) &&& 31).toUInt32).toInt32))])) _
    refine XS.bipush X0.here hx rfl (hb hby at_13) ?_
    show Steps p.tables e below (s₁.setTop (mkF m 15 #[.val (.int p0), .val (.int p1), .unset, .unset, .unset, .unset] [(.int (15 : Int32)), (.int ((p1.toUInt32 >>> ((1 : Int32) &&& 31).toUInt32).toInt32))])) _
    refine XS.iand X0.here hx rfl (hb hby at_15) rfl ?_
    show Steps p.tables e below (s₁.setTop (mkF m 16 #[.val (.int p0), .val (.int p1), .unset, .unset, .unset, .unset] [(.int (((p1.toUInt32 >>> ((1 : Int32) &&& 31).toUInt32).toInt32) &&& (15 : Int32)))])) _
    rw [hi4]
    show Steps p.tables e below (s₁.setTop (mkF m 16 #[.val (.int p0), .val (.int p1), .unset, .unset, .unset, .unset] [(.int (4 : Int32))])) _
    refine XS.istoreN X0.here hx rfl (hb hby at_16) rfl (l' := #[.val (.int p0), .val (.int p1), .val (.int (4 : Int32)), .unset, .unset, .unset]) rfl ?_
    show Steps p.tables e below (s₁.setTop (mkF m 17 #[.val (.int p0), .val (.int p1), .val (.int (4 : Int32)), .unset, .unset, .unset] [])) _
    refine XS.iloadN X0.here hx rfl (hb hby at_17) rfl ?_
    show Steps p.tables e below (s₁.setTop (mkF m 18 #[.val (.int p0), .val (.int p1), .val (.int (4 : Int32)), .unset, .unset, .unset] [(.int (4 : Int32))])) _
    refine st1 _ ?_
    show Steps p.tables e below (T1.setTop (mkF m 21 #[.val (.int p0), .val (.int p1), .val (.int (4 : Int32)), .unset, .unset, .unset] [(.ref w_BOOLEAN)])) _
    refine XS.astoreN X1.here hx rfl (hb hby at_21) rfl rfl (l' := #[.val (.int p0), .val (.int p1), .val (.int (4 : Int32)), .val (.ref w_BOOLEAN), .unset, .unset]) rfl ?_
    show Steps p.tables e below (T1.setTop (mkF m 22 #[.val (.int p0), .val (.int p1), .val (.int (4 : Int32)), .val (.ref w_BOOLEAN), .unset, .unset] [])) _
    refine XS.iloadN X1.here hx rfl (hb hby at_22) rfl ?_
    show Steps p.tables e below (T1.setTop (mkF m 23 #[.val (.int p0), .val (.int p1), .val (.int (4 : Int32)), .val (.ref w_BOOLEAN), .unset, .unset] [(.int (4 : Int32))])) _
    refine XS.iconst X1.here hx rfl (hb hby at_23) ?_
    show Steps p.tables e below (T1.setTop (mkF m 24 #[.val (.int p0), .val (.int p1), .val (.int (4 : Int32)), .val (.ref w_BOOLEAN), .unset, .unset] [(.int (2 : Int32)), (.int (4 : Int32))])) _
    refine XS.icmpNo X1.here hx rfl (hb hby at_24) rfl (feq (by decide : ¬ ((4 : Int32) = (2 : Int32)))).1 ?_
    show Steps p.tables e below (T1.setTop (mkF m 27 #[.val (.int p0), .val (.int p1), .val (.int (4 : Int32)), .val (.ref w_BOOLEAN), .unset, .unset] [])) _
    refine XS.iloadN X1.here hx rfl (hb hby at_27) rfl ?_
    show Steps p.tables e below (T1.setTop (mkF m 28 #[.val (.int p0), .val (.int p1), .val (.int (4 : Int32)), .val (.ref w_BOOLEAN), .unset, .unset] [(.int (4 : Int32))])) _
    refine XS.iconst X1.here hx rfl (hb hby at_28) ?_
    show Steps p.tables e below (T1.setTop (mkF m 29 #[.val (.int p0), .val (.int p1), .val (.int (4 : Int32)), .val (.ref w_BOOLEAN), .unset, .unset] [(.int (4 : Int32)), (.int (4 : Int32))])) _
    refine XS.icmpNo X1.here hx rfl (hb hby at_29) rfl (flt (by decide : ¬ ((4 : Int32) < (4 : Int32)))).1 ?_
    show Steps p.tables e below (T1.setTop (mkF m 32 #[.val (.int p0), .val (.int p1), .val (.int (4 : Int32)), .val (.ref w_BOOLEAN), .unset, .unset] [])) _
    refine XS.iloadN X1.here hx rfl (hb hby at_32) rfl ?_
    show Steps p.tables e below (T1.setTop (mkF m 33 #[.val (.int p0), .val (.int p1), .val (.int (4 : Int32)), .val (.ref w_BOOLEAN), .unset, .unset] [(.int (4 : Int32))])) _
    refine XS.bipush X1.here hx rfl (hb hby at_33) ?_
    show Steps p.tables e below (T1.setTop (mkF m 35 #[.val (.int p0), .val (.int p1), .val (.int (4 : Int32)), .val (.ref w_BOOLEAN), .unset, .unset] [(.int (11 : Int32)), (.int (4 : Int32))])) _
    refine XS.icmpNo X1.here hx rfl (hb hby at_35) rfl (flt (by decide : ¬ ((11 : Int32) < (4 : Int32)))).2.2.1 ?_
    show Steps p.tables e below (T1.setTop (mkF m 38 #[.val (.int p0), .val (.int p1), .val (.int (4 : Int32)), .val (.ref w_BOOLEAN), .unset, .unset] [])) _
    refine XS.iconst X1.here hx rfl (hb hby at_38) ?_
    show Steps p.tables e below (T1.setTop (mkF m 39 #[.val (.int p0), .val (.int p1), .val (.int (4 : Int32)), .val (.ref w_BOOLEAN), .unset, .unset] [(.int (1 : Int32))])) _
    refine XS.goto X1.here hx rfl (pc0 := 39) (pc' := 43) rfl (hb hby at_39) (by decide) (by decide) ?_
    show Steps p.tables e below (T1.setTop (mkF m 43 #[.val (.int p0), .val (.int p1), .val (.int (4 : Int32)), .val (.ref w_BOOLEAN), .unset, .unset] [(.int (1 : Int32))])) _
    refine XS.istore X1.here hx rfl (hb hby at_43) rfl (l' := #[.val (.int p0), .val (.int p1), .val (.int (4 : Int32)), .val (.ref w_BOOLEAN), .val (.int (1 : Int32)), .unset]) rfl ?_
    show Steps p.tables e below (T1.setTop (mkF m 45 #[.val (.int p0), .val (.int p1), .val (.int (4 : Int32)), .val (.ref w_BOOLEAN), .val (.int (1 : Int32)), .unset] [])) _
    refine XS.iload X1.here hx rfl (hb hby at_45) rfl ?_
    show Steps p.tables e below (T1.setTop (mkF m 47 #[.val (.int p0), .val (.int p1), .val (.int (4 : Int32)), .val (.ref w_BOOLEAN), .val (.int (1 : Int32)), .unset] [(.int (1 : Int32))])) _
    refine XS.ifYes X1.here hx rfl (pc0 := 47) (pc' := 60) rfl (hb hby at_47) rfl ((if0 _ _).trans (feq (by decide : ¬ ((1 : Int32) = (0 : Int32)))).2) (by decide) (by decide) ?_
    show Steps p.tables e below (T1.setTop (mkF m 60 #[.val (.int p0), .val (.int p1), .val (.int (4 : Int32)), .val (.ref w_BOOLEAN), .val (.int (1 : Int32)), .unset] [])) _
    refine XS.aloadN X1.here hx rfl (hb hby at_60) rfl rfl ?_
    show Steps p.tables e below (T1.setTop (mkF m 61 #[.val (.int p0), .val (.int p1), .val (.int (4 : Int32)), .val (.ref w_BOOLEAN), .val (.int (1 : Int32)), .unset] [(.ref w_BOOLEAN)])) _
    refine XS.ifnonnullYes X1.here hx rfl (pc0 := 61) (pc' := 66) rfl (hb hby at_61) rfl (by decide) (by decide) ?_
    show Steps p.tables e below (T1.setTop (mkF m 66 #[.val (.int p0), .val (.int p1), .val (.int (4 : Int32)), .val (.ref w_BOOLEAN), .val (.int (1 : Int32)), .unset] [])) _
    refine XS.iloadN X1.here hx rfl (hb hby at_66) rfl ?_
    show Steps p.tables e below (T1.setTop (mkF m 67 #[.val (.int p0), .val (.int p1), .val (.int (4 : Int32)), .val (.ref w_BOOLEAN), .val (.int (1 : Int32)), .unset] [(.int (4 : Int32))])) _
    refine XS.iconst X1.here hx rfl (hb hby at_67) ?_
    show Steps p.tables e below (T1.setTop (mkF m 68 #[.val (.int p0), .val (.int p1), .val (.int (4 : Int32)), .val (.ref w_BOOLEAN), .val (.int (1 : Int32)), .unset] [(.int (2 : Int32)), (.int (4 : Int32))])) _
    refine XS.icmpYes X1.here hx rfl (pc0 := 68) (pc' := 75) rfl (hb hby at_68) rfl (feq (by decide : ¬ ((4 : Int32) = (2 : Int32)))).2 (by decide) (by decide) ?_
    show Steps p.tables e below (T1.setTop (mkF m 75 #[.val (.int p0), .val (.int p1), .val (.int (4 : Int32)), .val (.ref w_BOOLEAN), .val (.int (1 : Int32)), .unset] [])) _
    refine XS.iloadN X1.here hx rfl (hb hby at_75) rfl ?_
    show Steps p.tables e below (T1.setTop (mkF m 76 #[.val (.int p0), .val (.int p1), .val (.int (4 : Int32)), .val (.ref w_BOOLEAN), .val (.int (1 : Int32)), .unset] [(.int (4 : Int32))])) _
    refine XS.iconst X1.here hx rfl (hb hby at_76) ?_
    show Steps p.tables e below (T1.setTop (mkF m 77 #[.val (.int p0), .val (.int p1), .val (.int (4 : Int32)), .val (.ref w_BOOLEAN), .val (.int (1 : Int32)), .unset] [(.int (3 : Int32)), (.int (4 : Int32))])) _
    refine XS.isub X1.here hx rfl (hb hby at_77) rfl ?_
    show Steps p.tables e below (T1.setTop (mkF m 78 #[.val (.int p0), .val (.int p1), .val (.int (4 : Int32)), .val (.ref w_BOOLEAN), .val (.int (1 : Int32)), .unset] [(.int ((4 : Int32) - (3 : Int32)))])) _
    rw [(show ((4 : Int32) - (3 : Int32)) = (1 : Int32) from by decide)]
    show Steps p.tables e below (T1.setTop (mkF m 78 #[.val (.int p0), .val (.int p1), .val (.int (4 : Int32)), .val (.ref w_BOOLEAN), .val (.int (1 : Int32)), .unset] [(.int (1 : Int32))])) _
    refine XS.istore X1.here hx rfl (hb hby at_78) rfl (l' := #[.val (.int p0), .val (.int p1), .val (.int (4 : Int32)), .val (.ref w_BOOLEAN), .val (.int (1 : Int32)), .val (.int (1 : Int32))]) rfl ?_
    show Steps p.tables e below (T1.setTop (mkF m 80 #[.val (.int p0), .val (.int p1), .val (.int (4 : Int32)), .val (.ref w_BOOLEAN), .val (.int (1 : Int32)), .val (.int (1 : Int32))] [])) _
    refine XS.aloadN X1.here hx rfl (hb hby at_80) rfl rfl ?_
    show Steps p.tables e below (T1.setTop (mkF m 81 #[.val (.int p0), .val (.int p1), .val (.int (4 : Int32)), .val (.ref w_BOOLEAN), .val (.int (1 : Int32)), .val (.int (1 : Int32))] [(.ref w_BOOLEAN)])) _
    refine st2.trans ?_
    show Steps p.tables e below (T2.setTop (mkF m 84 #[.val (.int p0), .val (.int p1), .val (.int (4 : Int32)), .val (.ref w_BOOLEAN), .val (.int (1 : Int32)), .val (.int (1 : Int32))] [(.int (1 : Int32))])) _
    refine XS.iload X2.here hx rfl (hb hby at_84) rfl ?_
    show Steps p.tables e below (T2.setTop (mkF m 86 #[.val (.int p0), .val (.int p1), .val (.int (4 : Int32)), .val (.ref w_BOOLEAN), .val (.int (1 : Int32)), .val (.int (1 : Int32))] [(.int (1 : Int32)), (.int (1 : Int32))])) _
    refine XS.icmpNo X2.here hx rfl (hb hby at_86) rfl (teq (by decide : (1 : Int32) = (1 : Int32))).2 ?_
    show Steps p.tables e below (T2.setTop (mkF m 89 #[.val (.int p0), .val (.int p1), .val (.int (4 : Int32)), .val (.ref w_BOOLEAN), .val (.int (1 : Int32)), .val (.int (1 : Int32))] [])) _
    refine XS.iconst X2.here hx rfl (hb hby at_89) ?_
    show Steps p.tables e below (T2.setTop (mkF m 90 #[.val (.int p0), .val (.int p1), .val (.int (4 : Int32)), .val (.ref w_BOOLEAN), .val (.int (1 : Int32)), .val (.int (1 : Int32))] [(.int (1 : Int32))])) _
    refine XS.goto X2.here hx rfl (pc0 := 90) (pc' := 94) rfl (hb hby at_90) (by decide) (by decide) ?_
    show Steps p.tables e below (T2.setTop (mkF m 94 #[.val (.int p0), .val (.int p1), .val (.int (4 : Int32)), .val (.ref w_BOOLEAN), .val (.int (1 : Int32)), .val (.int (1 : Int32))] [(.int (1 : Int32))])) _
    exact retOut X2 hx Bd.returns rfl (Or.inl ⟨rfl, Or.inr (Or.inl rfl), _, rfl⟩) (hb hby at_94) hr
  · exact ⟨rfl, N2⟩
set_option maxRecDepth 65536 in
set_option maxHeartbeats 40000000 in
theorem sel_5 (l : Launch) (Z : State) (a0 : Array Value) (hw : ∀ d ∈ tables_1, d.before a0 Z = true) (ws : List Jvm.Cond) (w_INT : Addr) (w_BYTE : Addr) (w_CHAR : Addr) (w_OBJECT : Addr) (w_FLOAT : Addr) (w_DOUBLE : Addr) (w_LONG : Addr) (w_SHORT : Addr) (w_BOOLEAN : Addr) (h0 : Heap) (n0 : Nat) (Z0 : n0 ≤ h0.size) (G : Glob Z h0 w_INT w_BYTE w_CHAR w_OBJECT w_FLOAT w_DOUBLE w_LONG w_SHORT w_BOOLEAN) (p0 p1 : Int32) (hs : (p1 &&& (1 : Int32)) = (0 : Int32)) (hi5 : (((p1.toUInt32 >>> ((1 : Int32) &&& 31).toUInt32).toInt32) &&& (15 : Int32)) = (5 : Int32)) :
    MetFree l x (head1 (Jvm.Cond.code x code maxLocals ret :: ws) room_1) (fun a U => a = #[(.int p0), (.int p1)] ∧ Z.Warmed39 U.vm ∧ U.heap = h0) (fun _ _ _ _ _ => True) (fun _ U o U' => ∃ v L, o = .returned v ∧ QL (some (.int (1 : Int32))) h0 n0 v U'.heap L ∧ FrameEnd U o U' L room_1.cells room_1.slots) := by
  refine MetFree.of_bodySF (plainFor_of_name pn_com_example_refleash_refleash_hprof_BasicTypeOfPinLaw) hisR ?_
  intro p e s m args below meth c s₁ Bd hml0 hP hK
  obtain ⟨rfl, hZ, hh⟩ := hP
  have hx := Bd.exec
  have hby := Bd.bytes
  have hml : c.maxLocals = 6 := hml0
  have hown : s.vm.findClass "com/example/refleash/refleash/hprof/BasicTypeOfPinLaw" = some m.cls := findClass_of_methodNamed Bd.named
  have X0 : Stand p l e room_1 s m #[(.int p0), (.int p1)] below meth c s₁ [] 0 0 := Stand.of_body Bd
  have e0 : s₁.heap = h0 := by rw [← hh, Bd.state]; rfl
  have N0 := Fr.nil n0
  have pre0 : ∀ t, Steps p.tables e below (s₁.setTop (mkF m 0 #[.val (.int p0), .val (.int p1), .unset, .unset, .unset, .unset] [])) t → Steps p.tables e below (s₁.setTop (entryFrame m #[(.int p0), (.int p1)] maxLocals)) t := fun t k => castTop (ef_0_II m p0 p1) k
  have G' := G
  obtain ⟨S_w_INT, E_w_INT, F_ordinal_w_INT, S_w_BYTE, E_w_BYTE, F_ordinal_w_BYTE, S_w_CHAR, E_w_CHAR, F_ordinal_w_CHAR, S_w_OBJECT, E_w_OBJECT, F_ordinal_w_OBJECT, S_w_FLOAT, E_w_FLOAT, F_ordinal_w_FLOAT, S_w_DOUBLE, E_w_DOUBLE, F_ordinal_w_DOUBLE, S_w_LONG, E_w_LONG, F_ordinal_w_LONG, S_w_SHORT, E_w_SHORT, F_ordinal_w_SHORT, S_w_BOOLEAN, E_w_BOOLEAN, F_ordinal_w_BOOLEAN⟩ := G'
  obtain ⟨_, _, ⟨T1, L1, k1, n1⟩, -, X1, ⟨Lc1, hQ1, l1, y1, z1⟩, st1⟩ := Jvm.LawKit.callS X0 hx (y := (⟨"com/example/refleash/refleash/hprof/BasicType", "of", "(I)Lcom/example/refleash/refleash/hprof/BasicType;"⟩ : MethodName)) hown (mvT hZ (hw _ (List.mem_of_getElem? (i := 0) rfl))) (mvT hZ (hw _ (List.mem_of_getElem? (i := 1) rfl))) (mvT hZ (hw _ (List.mem_of_getElem? (i := 2) rfl))) (mvT hZ (hw _ (List.mem_of_getElem? (i := 3) rfl))) (by decide) (backOf (W := 0) (c1_2 l Z a0 hw [] w_INT w_BYTE w_CHAR w_OBJECT w_FLOAT w_DOUBLE w_LONG w_SHORT w_BOOLEAN h0 n0 Z0 G) hZ (hw _ (List.mem_of_getElem? (i := 3) rfl)) (hw _ (List.mem_of_getElem? (i := 2) rfl)) (by decide) (by decide)) (g := (mkF m 18 #[.val (.int p0), .val (.int p1), .val (.int (5 : Int32)), .unset, .unset, .unset] [(.int (5 : Int32))])) rfl (by rw [hml]; rfl) (argsL := [(.int (5 : Int32))]) (rest := []) (lenOf pd__I_Lcom_example_refleash_refleash_hprof_BasicType_ rfl) rfl (by show 2 * 0 + _ ≤ _; exact Nat.le_of_eq rfl) (hb hby at_18) (fun _ _ => ⟨rfl, e0, (by decide : 0 + 0 ≤ _), (by decide : 0 + 0 ≤ _)⟩)
  dsimp only [Pt.U, Pt.locs, Pt.cells, Pt.slots] at X1 l1 y1 z1 st1 hQ1
  subst l1 y1 z1
  obtain ⟨rfl, N1q, e1⟩ := hQ1
  have N1 := Fr.app N0 N1q
  obtain ⟨cq2, kq2, q2a, q2b, q2c⟩ := isOf hZ e1 E_w_CHAR
  obtain ⟨_, _, ⟨T2, L2, k2, n2⟩, -, X2, ⟨Lc2, hQ2, l2, y2, z2⟩, st2⟩ := X1.virtualBackUp hx (x := (⟨"com/example/refleash/refleash/hprof/BasicType", "ordinal", "()I"⟩ : MethodName)) (y := (⟨"java/lang/Enum", "ordinal", "()I"⟩ : MethodName)) hown (mvT hZ (hw _ (List.mem_of_getElem? (i := 6) rfl))) (mvT hZ (hw _ (List.mem_of_getElem? (i := 7) rfl))) (mvT hZ (hw _ (List.mem_of_getElem? (i := 8) rfl))) (by decide) (mvT hZ (hw _ (List.mem_of_getElem? (i := 10) rfl))) (mvT hZ (hw _ (List.mem_of_getElem? (i := 9) rfl))) (backOf (W := 0) (c2_2 l Z a0 hw [] w_INT w_BYTE w_CHAR w_OBJECT w_FLOAT w_DOUBLE w_LONG w_SHORT w_BOOLEAN h0 n0 Z0 G) hZ (hw _ (List.mem_of_getElem? (i := 12) rfl)) (hw _ (List.mem_of_getElem? (i := 11) rfl)) (by decide) (by decide)) q2a q2c (g := (mkF m 81 #[.val (.int p0), .val (.int p1), .val (.int (5 : Int32)), .val (.ref w_CHAR), .val (.int (1 : Int32)), .val (.int (2 : Int32))] [(.ref w_CHAR)])) rfl (by rw [hml]; rfl) (Steps.refl _) (argsL := []) (rest := []) (lenOf pd___I rfl) rfl (by show 2 * 0 + _ ≤ _; exact Nat.le_of_eq rfl) (hb hby at_81) (fun _ _ => ⟨rfl, e1, (by decide : 0 + 0 ≤ _), (by decide : 0 + 0 ≤ _)⟩)
  dsimp only [Pt.U, Pt.locs, Pt.cells, Pt.slots] at X2 l2 y2 z2 st2 hQ2
  subst l2 y2 z2
  obtain ⟨rfl, N2q, e2⟩ := hQ2
  have N2 := Fr.app N1 N2q
  obtain ⟨fs, hr, hrun, hended, hW, hsame⟩ := X2.leave (v := some (.int (1 : Int32))) (fun h => by rw [Bd.returns] at h; cases h)
  refine ⟨_, _, pre0 _ ?_, hrun, hended, _, _, rfl, ?_, ⟨_, rfl⟩, hW, hsame.mono (by decide) (by decide)⟩
  · show Steps p.tables e below (s₁.setTop (mkF m 0 #[.val (.int p0), .val (.int p1), .unset, .unset, .unset, .unset] [])) _
    refine XS.iloadN X0.here hx rfl (hb hby at_0) rfl ?_
    show Steps p.tables e below (s₁.setTop (mkF m 1 #[.val (.int p0), .val (.int p1), .unset, .unset, .unset, .unset] [(.int p1)])) _
    refine XS.iconst X0.here hx rfl (hb hby at_1) ?_
    show Steps p.tables e below (s₁.setTop (mkF m 2 #[.val (.int p0), .val (.int p1), .unset, .unset, .unset, .unset] [(.int (1 : Int32)), (.int p1)])) _
    refine XS.iand X0.here hx rfl (hb hby at_2) rfl ?_
    show Steps p.tables e below (s₁.setTop (mkF m 3 #[.val (.int p0), .val (.int p1), .unset, .unset, .unset, .unset] [(.int (p1 &&& (1 : Int32)))])) _
    refine XS.ifYes X0.here hx rfl (pc0 := 3) (pc' := 10) rfl (hb hby at_3) rfl ((if0 _ _).trans (teq (hs : (p1 &&& (1 : Int32)) = (0 : Int32))).1) (by decide) (by decide) ?_
    show Steps p.tables e below (s₁.setTop (mkF m 10 #[.val (.int p0), .val (.int p1), .unset, .unset, .unset, .unset] [])) _
    refine XS.iloadN X0.here hx rfl (hb hby at_10) rfl ?_
    show Steps p.tables e below (s₁.setTop (mkF m 11 #[.val (.int p0), .val (.int p1), .unset, .unset, .unset, .unset] [(.int p1)])) _
    refine XS.iconst X0.here hx rfl (hb hby at_11) ?_
    show Steps p.tables e below (s₁.setTop (mkF m 12 #[.val (.int p0), .val (.int p1), .unset, .unset, .unset, .unset] [(.int (1 : Int32)), (.int p1)])) _
    refine XS.iushr X0.here hx rfl (hb hby at_12) rfl ?_
    show Steps p.tables e below (s₁.setTop (mkF m 13 #[.val (.int p0), .val (.int p1), .unset, .unset, .unset, .unset] [(.int ((p1.toUInt32 >>> ((1 : Int32) &&& 31).toUInt32).toInt32))])) _
    refine XS.bipush X0.here hx rfl (hb hby at_13) ?_
    show Steps p.tables e below (s₁.setTop (mkF m 15 #[.val (.int p0), .val (.int p1), .unset, .unset, .unset, .unset] [(.int (15 : Int32)), (.int ((p1.toUInt32 >>> ((1 : Int32) &&& 31).toUInt32).toInt32))])) _
    refine XS.iand X0.here hx rfl (hb hby at_15) rfl ?_
    show Steps p.tables e below (s₁.setTop (mkF m 16 #[.val (.int p0), .val (.int p1), .unset, .unset, .unset, .unset] [(.int (((p1.toUInt32 >>> ((1 : Int32) &&& 31).toUInt32).toInt32) &&& (15 : Int32)))])) _
    rw [hi5]
    show Steps p.tables e below (s₁.setTop (mkF m 16 #[.val (.int p0), .val (.int p1), .unset, .unset, .unset, .unset] [(.int (5 : Int32))])) _
    refine XS.istoreN X0.here hx rfl (hb hby at_16) rfl (l' := #[.val (.int p0), .val (.int p1), .val (.int (5 : Int32)), .unset, .unset, .unset]) rfl ?_
    show Steps p.tables e below (s₁.setTop (mkF m 17 #[.val (.int p0), .val (.int p1), .val (.int (5 : Int32)), .unset, .unset, .unset] [])) _
    refine XS.iloadN X0.here hx rfl (hb hby at_17) rfl ?_
    show Steps p.tables e below (s₁.setTop (mkF m 18 #[.val (.int p0), .val (.int p1), .val (.int (5 : Int32)), .unset, .unset, .unset] [(.int (5 : Int32))])) _
    refine st1 _ ?_
    show Steps p.tables e below (T1.setTop (mkF m 21 #[.val (.int p0), .val (.int p1), .val (.int (5 : Int32)), .unset, .unset, .unset] [(.ref w_CHAR)])) _
    refine XS.astoreN X1.here hx rfl (hb hby at_21) rfl rfl (l' := #[.val (.int p0), .val (.int p1), .val (.int (5 : Int32)), .val (.ref w_CHAR), .unset, .unset]) rfl ?_
    show Steps p.tables e below (T1.setTop (mkF m 22 #[.val (.int p0), .val (.int p1), .val (.int (5 : Int32)), .val (.ref w_CHAR), .unset, .unset] [])) _
    refine XS.iloadN X1.here hx rfl (hb hby at_22) rfl ?_
    show Steps p.tables e below (T1.setTop (mkF m 23 #[.val (.int p0), .val (.int p1), .val (.int (5 : Int32)), .val (.ref w_CHAR), .unset, .unset] [(.int (5 : Int32))])) _
    refine XS.iconst X1.here hx rfl (hb hby at_23) ?_
    show Steps p.tables e below (T1.setTop (mkF m 24 #[.val (.int p0), .val (.int p1), .val (.int (5 : Int32)), .val (.ref w_CHAR), .unset, .unset] [(.int (2 : Int32)), (.int (5 : Int32))])) _
    refine XS.icmpNo X1.here hx rfl (hb hby at_24) rfl (feq (by decide : ¬ ((5 : Int32) = (2 : Int32)))).1 ?_
    show Steps p.tables e below (T1.setTop (mkF m 27 #[.val (.int p0), .val (.int p1), .val (.int (5 : Int32)), .val (.ref w_CHAR), .unset, .unset] [])) _
    refine XS.iloadN X1.here hx rfl (hb hby at_27) rfl ?_
    show Steps p.tables e below (T1.setTop (mkF m 28 #[.val (.int p0), .val (.int p1), .val (.int (5 : Int32)), .val (.ref w_CHAR), .unset, .unset] [(.int (5 : Int32))])) _
    refine XS.iconst X1.here hx rfl (hb hby at_28) ?_
    show Steps p.tables e below (T1.setTop (mkF m 29 #[.val (.int p0), .val (.int p1), .val (.int (5 : Int32)), .val (.ref w_CHAR), .unset, .unset] [(.int (4 : Int32)), (.int (5 : Int32))])) _
    refine XS.icmpNo X1.here hx rfl (hb hby at_29) rfl (flt (by decide : ¬ ((5 : Int32) < (4 : Int32)))).1 ?_
    show Steps p.tables e below (T1.setTop (mkF m 32 #[.val (.int p0), .val (.int p1), .val (.int (5 : Int32)), .val (.ref w_CHAR), .unset, .unset] [])) _
    refine XS.iloadN X1.here hx rfl (hb hby at_32) rfl ?_
    show Steps p.tables e below (T1.setTop (mkF m 33 #[.val (.int p0), .val (.int p1), .val (.int (5 : Int32)), .val (.ref w_CHAR), .unset, .unset] [(.int (5 : Int32))])) _
    refine XS.bipush X1.here hx rfl (hb hby at_33) ?_
    show Steps p.tables e below (T1.setTop (mkF m 35 #[.val (.int p0), .val (.int p1), .val (.int (5 : Int32)), .val (.ref w_CHAR), .unset, .unset] [(.int (11 : Int32)), (.int (5 : Int32))])) _
    refine XS.icmpNo X1.here hx rfl (hb hby at_35) rfl (flt (by decide : ¬ ((11 : Int32) < (5 : Int32)))).2.2.1 ?_
    show Steps p.tables e below (T1.setTop (mkF m 38 #[.val (.int p0), .val (.int p1), .val (.int (5 : Int32)), .val (.ref w_CHAR), .unset, .unset] [])) _
    refine XS.iconst X1.here hx rfl (hb hby at_38) ?_
    show Steps p.tables e below (T1.setTop (mkF m 39 #[.val (.int p0), .val (.int p1), .val (.int (5 : Int32)), .val (.ref w_CHAR), .unset, .unset] [(.int (1 : Int32))])) _
    refine XS.goto X1.here hx rfl (pc0 := 39) (pc' := 43) rfl (hb hby at_39) (by decide) (by decide) ?_
    show Steps p.tables e below (T1.setTop (mkF m 43 #[.val (.int p0), .val (.int p1), .val (.int (5 : Int32)), .val (.ref w_CHAR), .unset, .unset] [(.int (1 : Int32))])) _
    refine XS.istore X1.here hx rfl (hb hby at_43) rfl (l' := #[.val (.int p0), .val (.int p1), .val (.int (5 : Int32)), .val (.ref w_CHAR), .val (.int (1 : Int32)), .unset]) rfl ?_
    show Steps p.tables e below (T1.setTop (mkF m 45 #[.val (.int p0), .val (.int p1), .val (.int (5 : Int32)), .val (.ref w_CHAR), .val (.int (1 : Int32)), .unset] [])) _
    refine XS.iload X1.here hx rfl (hb hby at_45) rfl ?_
    show Steps p.tables e below (T1.setTop (mkF m 47 #[.val (.int p0), .val (.int p1), .val (.int (5 : Int32)), .val (.ref w_CHAR), .val (.int (1 : Int32)), .unset] [(.int (1 : Int32))])) _
    refine XS.ifYes X1.here hx rfl (pc0 := 47) (pc' := 60) rfl (hb hby at_47) rfl ((if0 _ _).trans (feq (by decide : ¬ ((1 : Int32) = (0 : Int32)))).2) (by decide) (by decide) ?_
    show Steps p.tables e below (T1.setTop (mkF m 60 #[.val (.int p0), .val (.int p1), .val (.int (5 : Int32)), .val (.ref w_CHAR), .val (.int (1 : Int32)), .unset] [])) _
    refine XS.aloadN X1.here hx rfl (hb hby at_60) rfl rfl ?_
    show Steps p.tables e below (T1.setTop (mkF m 61 #[.val (.int p0), .val (.int p1), .val (.int (5 : Int32)), .val (.ref w_CHAR), .val (.int (1 : Int32)), .unset] [(.ref w_CHAR)])) _
    refine XS.ifnonnullYes X1.here hx rfl (pc0 := 61) (pc' := 66) rfl (hb hby at_61) rfl (by decide) (by decide) ?_
    show Steps p.tables e below (T1.setTop (mkF m 66 #[.val (.int p0), .val (.int p1), .val (.int (5 : Int32)), .val (.ref w_CHAR), .val (.int (1 : Int32)), .unset] [])) _
    refine XS.iloadN X1.here hx rfl (hb hby at_66) rfl ?_
    show Steps p.tables e below (T1.setTop (mkF m 67 #[.val (.int p0), .val (.int p1), .val (.int (5 : Int32)), .val (.ref w_CHAR), .val (.int (1 : Int32)), .unset] [(.int (5 : Int32))])) _
    refine XS.iconst X1.here hx rfl (hb hby at_67) ?_
    show Steps p.tables e below (T1.setTop (mkF m 68 #[.val (.int p0), .val (.int p1), .val (.int (5 : Int32)), .val (.ref w_CHAR), .val (.int (1 : Int32)), .unset] [(.int (2 : Int32)), (.int (5 : Int32))])) _
    refine XS.icmpYes X1.here hx rfl (pc0 := 68) (pc' := 75) rfl (hb hby at_68) rfl (feq (by decide : ¬ ((5 : Int32) = (2 : Int32)))).2 (by decide) (by decide) ?_
    show Steps p.tables e below (T1.setTop (mkF m 75 #[.val (.int p0), .val (.int p1), .val (.int (5 : Int32)), .val (.ref w_CHAR), .val (.int (1 : Int32)), .unset] [])) _
    refine XS.iloadN X1.here hx rfl (hb hby at_75) rfl ?_
    show Steps p.tables e below (T1.setTop (mkF m 76 #[.val (.int p0), .val (.int p1), .val (.int (5 : Int32)), .val (.ref w_CHAR), .val (.int (1 : Int32)), .unset] [(.int (5 : Int32))])) _
    refine XS.iconst X1.here hx rfl (hb hby at_76) ?_
    show Steps p.tables e below (T1.setTop (mkF m 77 #[.val (.int p0), .val (.int p1), .val (.int (5 : Int32)), .val (.ref w_CHAR), .val (.int (1 : Int32)), .unset] [(.int (3 : Int32)), (.int (5 : Int32))])) _
    refine XS.isub X1.here hx rfl (hb hby at_77) rfl ?_
    show Steps p.tables e below (T1.setTop (mkF m 78 #[.val (.int p0), .val (.int p1), .val (.int (5 : Int32)), .val (.ref w_CHAR), .val (.int (1 : Int32)), .unset] [(.int ((5 : Int32) - (3 : Int32)))])) _
    rw [(show ((5 : Int32) - (3 : Int32)) = (2 : Int32) from by decide)]
    show Steps p.tables e below (T1.setTop (mkF m 78 #[.val (.int p0), .val (.int p1), .val (.int (5 : Int32)), .val (.ref w_CHAR), .val (.int (1 : Int32)), .unset] [(.int (2 : Int32))])) _
    refine XS.istore X1.here hx rfl (hb hby at_78) rfl (l' := #[.val (.int p0), .val (.int p1), .val (.int (5 : Int32)), .val (.ref w_CHAR), .val (.int (1 : Int32)), .val (.int (2 : Int32))]) rfl ?_
    show Steps p.tables e below (T1.setTop (mkF m 80 #[.val (.int p0), .val (.int p1), .val (.int (5 : Int32)), .val (.ref w_CHAR), .val (.int (1 : Int32)), .val (.int (2 : Int32))] [])) _
    refine XS.aloadN X1.here hx rfl (hb hby at_80) rfl rfl ?_
    show Steps p.tables e below (T1.setTop (mkF m 81 #[.val (.int p0), .val (.int p1), .val (.int (5 : Int32)), .val (.ref w_CHAR), .val (.int (1 : Int32)), .val (.int (2 : Int32))] [(.ref w_CHAR)])) _
    refine st2.trans ?_
    show Steps p.tables e below (T2.setTop (mkF m 84 #[.val (.int p0), .val (.int p1), .val (.int (5 : Int32)), .val (.ref w_CHAR), .val (.int (1 : Int32)), .val (.int (2 : Int32))] [(.int (2 : Int32))])) _
    refine XS.iload X2.here hx rfl (hb hby at_84) rfl ?_
    show Steps p.tables e below (T2.setTop (mkF m 86 #[.val (.int p0), .val (.int p1), .val (.int (5 : Int32)), .val (.ref w_CHAR), .val (.int (1 : Int32)), .val (.int (2 : Int32))] [(.int (2 : Int32)), (.int (2 : Int32))])) _
    refine XS.icmpNo X2.here hx rfl (hb hby at_86) rfl (teq (by decide : (2 : Int32) = (2 : Int32))).2 ?_
    show Steps p.tables e below (T2.setTop (mkF m 89 #[.val (.int p0), .val (.int p1), .val (.int (5 : Int32)), .val (.ref w_CHAR), .val (.int (1 : Int32)), .val (.int (2 : Int32))] [])) _
    refine XS.iconst X2.here hx rfl (hb hby at_89) ?_
    show Steps p.tables e below (T2.setTop (mkF m 90 #[.val (.int p0), .val (.int p1), .val (.int (5 : Int32)), .val (.ref w_CHAR), .val (.int (1 : Int32)), .val (.int (2 : Int32))] [(.int (1 : Int32))])) _
    refine XS.goto X2.here hx rfl (pc0 := 90) (pc' := 94) rfl (hb hby at_90) (by decide) (by decide) ?_
    show Steps p.tables e below (T2.setTop (mkF m 94 #[.val (.int p0), .val (.int p1), .val (.int (5 : Int32)), .val (.ref w_CHAR), .val (.int (1 : Int32)), .val (.int (2 : Int32))] [(.int (1 : Int32))])) _
    exact retOut X2 hx Bd.returns rfl (Or.inl ⟨rfl, Or.inr (Or.inl rfl), _, rfl⟩) (hb hby at_94) hr
  · exact ⟨rfl, N2⟩
set_option maxRecDepth 65536 in
set_option maxHeartbeats 40000000 in
theorem sel_6 (l : Launch) (Z : State) (a0 : Array Value) (hw : ∀ d ∈ tables_1, d.before a0 Z = true) (ws : List Jvm.Cond) (w_INT : Addr) (w_BYTE : Addr) (w_CHAR : Addr) (w_OBJECT : Addr) (w_FLOAT : Addr) (w_DOUBLE : Addr) (w_LONG : Addr) (w_SHORT : Addr) (w_BOOLEAN : Addr) (h0 : Heap) (n0 : Nat) (Z0 : n0 ≤ h0.size) (G : Glob Z h0 w_INT w_BYTE w_CHAR w_OBJECT w_FLOAT w_DOUBLE w_LONG w_SHORT w_BOOLEAN) (p0 p1 : Int32) (hs : (p1 &&& (1 : Int32)) = (0 : Int32)) (hi6 : (((p1.toUInt32 >>> ((1 : Int32) &&& 31).toUInt32).toInt32) &&& (15 : Int32)) = (6 : Int32)) :
    MetFree l x (head1 (Jvm.Cond.code x code maxLocals ret :: ws) room_1) (fun a U => a = #[(.int p0), (.int p1)] ∧ Z.Warmed39 U.vm ∧ U.heap = h0) (fun _ _ _ _ _ => True) (fun _ U o U' => ∃ v L, o = .returned v ∧ QL (some (.int (1 : Int32))) h0 n0 v U'.heap L ∧ FrameEnd U o U' L room_1.cells room_1.slots) := by
  refine MetFree.of_bodySF (plainFor_of_name pn_com_example_refleash_refleash_hprof_BasicTypeOfPinLaw) hisR ?_
  intro p e s m args below meth c s₁ Bd hml0 hP hK
  obtain ⟨rfl, hZ, hh⟩ := hP
  have hx := Bd.exec
  have hby := Bd.bytes
  have hml : c.maxLocals = 6 := hml0
  have hown : s.vm.findClass "com/example/refleash/refleash/hprof/BasicTypeOfPinLaw" = some m.cls := findClass_of_methodNamed Bd.named
  have X0 : Stand p l e room_1 s m #[(.int p0), (.int p1)] below meth c s₁ [] 0 0 := Stand.of_body Bd
  have e0 : s₁.heap = h0 := by rw [← hh, Bd.state]; rfl
  have N0 := Fr.nil n0
  have pre0 : ∀ t, Steps p.tables e below (s₁.setTop (mkF m 0 #[.val (.int p0), .val (.int p1), .unset, .unset, .unset, .unset] [])) t → Steps p.tables e below (s₁.setTop (entryFrame m #[(.int p0), (.int p1)] maxLocals)) t := fun t k => castTop (ef_0_II m p0 p1) k
  have G' := G
  obtain ⟨S_w_INT, E_w_INT, F_ordinal_w_INT, S_w_BYTE, E_w_BYTE, F_ordinal_w_BYTE, S_w_CHAR, E_w_CHAR, F_ordinal_w_CHAR, S_w_OBJECT, E_w_OBJECT, F_ordinal_w_OBJECT, S_w_FLOAT, E_w_FLOAT, F_ordinal_w_FLOAT, S_w_DOUBLE, E_w_DOUBLE, F_ordinal_w_DOUBLE, S_w_LONG, E_w_LONG, F_ordinal_w_LONG, S_w_SHORT, E_w_SHORT, F_ordinal_w_SHORT, S_w_BOOLEAN, E_w_BOOLEAN, F_ordinal_w_BOOLEAN⟩ := G'
  obtain ⟨_, _, ⟨T1, L1, k1, n1⟩, -, X1, ⟨Lc1, hQ1, l1, y1, z1⟩, st1⟩ := Jvm.LawKit.callS X0 hx (y := (⟨"com/example/refleash/refleash/hprof/BasicType", "of", "(I)Lcom/example/refleash/refleash/hprof/BasicType;"⟩ : MethodName)) hown (mvT hZ (hw _ (List.mem_of_getElem? (i := 0) rfl))) (mvT hZ (hw _ (List.mem_of_getElem? (i := 1) rfl))) (mvT hZ (hw _ (List.mem_of_getElem? (i := 2) rfl))) (mvT hZ (hw _ (List.mem_of_getElem? (i := 3) rfl))) (by decide) (backOf (W := 0) (c1_3 l Z a0 hw [] w_INT w_BYTE w_CHAR w_OBJECT w_FLOAT w_DOUBLE w_LONG w_SHORT w_BOOLEAN h0 n0 Z0 G) hZ (hw _ (List.mem_of_getElem? (i := 3) rfl)) (hw _ (List.mem_of_getElem? (i := 2) rfl)) (by decide) (by decide)) (g := (mkF m 18 #[.val (.int p0), .val (.int p1), .val (.int (6 : Int32)), .unset, .unset, .unset] [(.int (6 : Int32))])) rfl (by rw [hml]; rfl) (argsL := [(.int (6 : Int32))]) (rest := []) (lenOf pd__I_Lcom_example_refleash_refleash_hprof_BasicType_ rfl) rfl (by show 2 * 0 + _ ≤ _; exact Nat.le_of_eq rfl) (hb hby at_18) (fun _ _ => ⟨rfl, e0, (by decide : 0 + 0 ≤ _), (by decide : 0 + 0 ≤ _)⟩)
  dsimp only [Pt.U, Pt.locs, Pt.cells, Pt.slots] at X1 l1 y1 z1 st1 hQ1
  subst l1 y1 z1
  obtain ⟨rfl, N1q, e1⟩ := hQ1
  have N1 := Fr.app N0 N1q
  obtain ⟨cq2, kq2, q2a, q2b, q2c⟩ := isOf hZ e1 E_w_FLOAT
  obtain ⟨_, _, ⟨T2, L2, k2, n2⟩, -, X2, ⟨Lc2, hQ2, l2, y2, z2⟩, st2⟩ := X1.virtualBackUp hx (x := (⟨"com/example/refleash/refleash/hprof/BasicType", "ordinal", "()I"⟩ : MethodName)) (y := (⟨"java/lang/Enum", "ordinal", "()I"⟩ : MethodName)) hown (mvT hZ (hw _ (List.mem_of_getElem? (i := 6) rfl))) (mvT hZ (hw _ (List.mem_of_getElem? (i := 7) rfl))) (mvT hZ (hw _ (List.mem_of_getElem? (i := 8) rfl))) (by decide) (mvT hZ (hw _ (List.mem_of_getElem? (i := 10) rfl))) (mvT hZ (hw _ (List.mem_of_getElem? (i := 9) rfl))) (backOf (W := 0) (c2_3 l Z a0 hw [] w_INT w_BYTE w_CHAR w_OBJECT w_FLOAT w_DOUBLE w_LONG w_SHORT w_BOOLEAN h0 n0 Z0 G) hZ (hw _ (List.mem_of_getElem? (i := 12) rfl)) (hw _ (List.mem_of_getElem? (i := 11) rfl)) (by decide) (by decide)) q2a q2c (g := (mkF m 81 #[.val (.int p0), .val (.int p1), .val (.int (6 : Int32)), .val (.ref w_FLOAT), .val (.int (1 : Int32)), .val (.int (3 : Int32))] [(.ref w_FLOAT)])) rfl (by rw [hml]; rfl) (Steps.refl _) (argsL := []) (rest := []) (lenOf pd___I rfl) rfl (by show 2 * 0 + _ ≤ _; exact Nat.le_of_eq rfl) (hb hby at_81) (fun _ _ => ⟨rfl, e1, (by decide : 0 + 0 ≤ _), (by decide : 0 + 0 ≤ _)⟩)
  dsimp only [Pt.U, Pt.locs, Pt.cells, Pt.slots] at X2 l2 y2 z2 st2 hQ2
  subst l2 y2 z2
  obtain ⟨rfl, N2q, e2⟩ := hQ2
  have N2 := Fr.app N1 N2q
  obtain ⟨fs, hr, hrun, hended, hW, hsame⟩ := X2.leave (v := some (.int (1 : Int32))) (fun h => by rw [Bd.returns] at h; cases h)
  refine ⟨_, _, pre0 _ ?_, hrun, hended, _, _, rfl, ?_, ⟨_, rfl⟩, hW, hsame.mono (by decide) (by decide)⟩
  · show Steps p.tables e below (s₁.setTop (mkF m 0 #[.val (.int p0), .val (.int p1), .unset, .unset, .unset, .unset] [])) _
    refine XS.iloadN X0.here hx rfl (hb hby at_0) rfl ?_
    show Steps p.tables e below (s₁.setTop (mkF m 1 #[.val (.int p0), .val (.int p1), .unset, .unset, .unset, .unset] [(.int p1)])) _
    refine XS.iconst X0.here hx rfl (hb hby at_1) ?_
    show Steps p.tables e below (s₁.setTop (mkF m 2 #[.val (.int p0), .val (.int p1), .unset, .unset, .unset, .unset] [(.int (1 : Int32)), (.int p1)])) _
    refine XS.iand X0.here hx rfl (hb hby at_2) rfl ?_
    show Steps p.tables e below (s₁.setTop (mkF m 3 #[.val (.int p0), .val (.int p1), .unset, .unset, .unset, .unset] [(.int (p1 &&& (1 : Int32)))])) _
    refine XS.ifYes X0.here hx rfl (pc0 := 3) (pc' := 10) rfl (hb hby at_3) rfl ((if0 _ _).trans (teq (hs : (p1 &&& (1 : Int32)) = (0 : Int32))).1) (by decide) (by decide) ?_
    show Steps p.tables e below (s₁.setTop (mkF m 10 #[.val (.int p0), .val (.int p1), .unset, .unset, .unset, .unset] [])) _
    refine XS.iloadN X0.here hx rfl (hb hby at_10) rfl ?_
    show Steps p.tables e below (s₁.setTop (mkF m 11 #[.val (.int p0), .val (.int p1), .unset, .unset, .unset, .unset] [(.int p1)])) _
    refine XS.iconst X0.here hx rfl (hb hby at_11) ?_
    show Steps p.tables e below (s₁.setTop (mkF m 12 #[.val (.int p0), .val (.int p1), .unset, .unset, .unset, .unset] [(.int (1 : Int32)), (.int p1)])) _
    refine XS.iushr X0.here hx rfl (hb hby at_12) rfl ?_
    show Steps p.tables e below (s₁.setTop (mkF m 13 #[.val (.int p0), .val (.int p1), .unset, .unset, .unset, .unset] [(.int ((p1.toUInt32 >>> ((1 : Int32) &&& 31).toUInt32).toInt32))])) _
    refine XS.bipush X0.here hx rfl (hb hby at_13) ?_
    show Steps p.tables e below (s₁.setTop (mkF m 15 #[.val (.int p0), .val (.int p1), .unset, .unset, .unset, .unset] [(.int (15 : Int32)), (.int ((p1.toUInt32 >>> ((1 : Int32) &&& 31).toUInt32).toInt32))])) _
    refine XS.iand X0.here hx rfl (hb hby at_15) rfl ?_
    show Steps p.tables e below (s₁.setTop (mkF m 16 #[.val (.int p0), .val (.int p1), .unset, .unset, .unset, .unset] [(.int (((p1.toUInt32 >>> ((1 : Int32) &&& 31).toUInt32).toInt32) &&& (15 : Int32)))])) _
    rw [hi6]
    show Steps p.tables e below (s₁.setTop (mkF m 16 #[.val (.int p0), .val (.int p1), .unset, .unset, .unset, .unset] [(.int (6 : Int32))])) _
    refine XS.istoreN X0.here hx rfl (hb hby at_16) rfl (l' := #[.val (.int p0), .val (.int p1), .val (.int (6 : Int32)), .unset, .unset, .unset]) rfl ?_
    show Steps p.tables e below (s₁.setTop (mkF m 17 #[.val (.int p0), .val (.int p1), .val (.int (6 : Int32)), .unset, .unset, .unset] [])) _
    refine XS.iloadN X0.here hx rfl (hb hby at_17) rfl ?_
    show Steps p.tables e below (s₁.setTop (mkF m 18 #[.val (.int p0), .val (.int p1), .val (.int (6 : Int32)), .unset, .unset, .unset] [(.int (6 : Int32))])) _
    refine st1 _ ?_
    show Steps p.tables e below (T1.setTop (mkF m 21 #[.val (.int p0), .val (.int p1), .val (.int (6 : Int32)), .unset, .unset, .unset] [(.ref w_FLOAT)])) _
    refine XS.astoreN X1.here hx rfl (hb hby at_21) rfl rfl (l' := #[.val (.int p0), .val (.int p1), .val (.int (6 : Int32)), .val (.ref w_FLOAT), .unset, .unset]) rfl ?_
    show Steps p.tables e below (T1.setTop (mkF m 22 #[.val (.int p0), .val (.int p1), .val (.int (6 : Int32)), .val (.ref w_FLOAT), .unset, .unset] [])) _
    refine XS.iloadN X1.here hx rfl (hb hby at_22) rfl ?_
    show Steps p.tables e below (T1.setTop (mkF m 23 #[.val (.int p0), .val (.int p1), .val (.int (6 : Int32)), .val (.ref w_FLOAT), .unset, .unset] [(.int (6 : Int32))])) _
    refine XS.iconst X1.here hx rfl (hb hby at_23) ?_
    show Steps p.tables e below (T1.setTop (mkF m 24 #[.val (.int p0), .val (.int p1), .val (.int (6 : Int32)), .val (.ref w_FLOAT), .unset, .unset] [(.int (2 : Int32)), (.int (6 : Int32))])) _
    refine XS.icmpNo X1.here hx rfl (hb hby at_24) rfl (feq (by decide : ¬ ((6 : Int32) = (2 : Int32)))).1 ?_
    show Steps p.tables e below (T1.setTop (mkF m 27 #[.val (.int p0), .val (.int p1), .val (.int (6 : Int32)), .val (.ref w_FLOAT), .unset, .unset] [])) _
    refine XS.iloadN X1.here hx rfl (hb hby at_27) rfl ?_
    show Steps p.tables e below (T1.setTop (mkF m 28 #[.val (.int p0), .val (.int p1), .val (.int (6 : Int32)), .val (.ref w_FLOAT), .unset, .unset] [(.int (6 : Int32))])) _
    refine XS.iconst X1.here hx rfl (hb hby at_28) ?_
    show Steps p.tables e below (T1.setTop (mkF m 29 #[.val (.int p0), .val (.int p1), .val (.int (6 : Int32)), .val (.ref w_FLOAT), .unset, .unset] [(.int (4 : Int32)), (.int (6 : Int32))])) _
    refine XS.icmpNo X1.here hx rfl (hb hby at_29) rfl (flt (by decide : ¬ ((6 : Int32) < (4 : Int32)))).1 ?_
    show Steps p.tables e below (T1.setTop (mkF m 32 #[.val (.int p0), .val (.int p1), .val (.int (6 : Int32)), .val (.ref w_FLOAT), .unset, .unset] [])) _
    refine XS.iloadN X1.here hx rfl (hb hby at_32) rfl ?_
    show Steps p.tables e below (T1.setTop (mkF m 33 #[.val (.int p0), .val (.int p1), .val (.int (6 : Int32)), .val (.ref w_FLOAT), .unset, .unset] [(.int (6 : Int32))])) _
    refine XS.bipush X1.here hx rfl (hb hby at_33) ?_
    show Steps p.tables e below (T1.setTop (mkF m 35 #[.val (.int p0), .val (.int p1), .val (.int (6 : Int32)), .val (.ref w_FLOAT), .unset, .unset] [(.int (11 : Int32)), (.int (6 : Int32))])) _
    refine XS.icmpNo X1.here hx rfl (hb hby at_35) rfl (flt (by decide : ¬ ((11 : Int32) < (6 : Int32)))).2.2.1 ?_
    show Steps p.tables e below (T1.setTop (mkF m 38 #[.val (.int p0), .val (.int p1), .val (.int (6 : Int32)), .val (.ref w_FLOAT), .unset, .unset] [])) _
    refine XS.iconst X1.here hx rfl (hb hby at_38) ?_
    show Steps p.tables e below (T1.setTop (mkF m 39 #[.val (.int p0), .val (.int p1), .val (.int (6 : Int32)), .val (.ref w_FLOAT), .unset, .unset] [(.int (1 : Int32))])) _
    refine XS.goto X1.here hx rfl (pc0 := 39) (pc' := 43) rfl (hb hby at_39) (by decide) (by decide) ?_
    show Steps p.tables e below (T1.setTop (mkF m 43 #[.val (.int p0), .val (.int p1), .val (.int (6 : Int32)), .val (.ref w_FLOAT), .unset, .unset] [(.int (1 : Int32))])) _
    refine XS.istore X1.here hx rfl (hb hby at_43) rfl (l' := #[.val (.int p0), .val (.int p1), .val (.int (6 : Int32)), .val (.ref w_FLOAT), .val (.int (1 : Int32)), .unset]) rfl ?_
    show Steps p.tables e below (T1.setTop (mkF m 45 #[.val (.int p0), .val (.int p1), .val (.int (6 : Int32)), .val (.ref w_FLOAT), .val (.int (1 : Int32)), .unset] [])) _
    refine XS.iload X1.here hx rfl (hb hby at_45) rfl ?_
    show Steps p.tables e below (T1.setTop (mkF m 47 #[.val (.int p0), .val (.int p1), .val (.int (6 : Int32)), .val (.ref w_FLOAT), .val (.int (1 : Int32)), .unset] [(.int (1 : Int32))])) _
    refine XS.ifYes X1.here hx rfl (pc0 := 47) (pc' := 60) rfl (hb hby at_47) rfl ((if0 _ _).trans (feq (by decide : ¬ ((1 : Int32) = (0 : Int32)))).2) (by decide) (by decide) ?_
    show Steps p.tables e below (T1.setTop (mkF m 60 #[.val (.int p0), .val (.int p1), .val (.int (6 : Int32)), .val (.ref w_FLOAT), .val (.int (1 : Int32)), .unset] [])) _
    refine XS.aloadN X1.here hx rfl (hb hby at_60) rfl rfl ?_
    show Steps p.tables e below (T1.setTop (mkF m 61 #[.val (.int p0), .val (.int p1), .val (.int (6 : Int32)), .val (.ref w_FLOAT), .val (.int (1 : Int32)), .unset] [(.ref w_FLOAT)])) _
    refine XS.ifnonnullYes X1.here hx rfl (pc0 := 61) (pc' := 66) rfl (hb hby at_61) rfl (by decide) (by decide) ?_
    show Steps p.tables e below (T1.setTop (mkF m 66 #[.val (.int p0), .val (.int p1), .val (.int (6 : Int32)), .val (.ref w_FLOAT), .val (.int (1 : Int32)), .unset] [])) _
    refine XS.iloadN X1.here hx rfl (hb hby at_66) rfl ?_
    show Steps p.tables e below (T1.setTop (mkF m 67 #[.val (.int p0), .val (.int p1), .val (.int (6 : Int32)), .val (.ref w_FLOAT), .val (.int (1 : Int32)), .unset] [(.int (6 : Int32))])) _
    refine XS.iconst X1.here hx rfl (hb hby at_67) ?_
    show Steps p.tables e below (T1.setTop (mkF m 68 #[.val (.int p0), .val (.int p1), .val (.int (6 : Int32)), .val (.ref w_FLOAT), .val (.int (1 : Int32)), .unset] [(.int (2 : Int32)), (.int (6 : Int32))])) _
    refine XS.icmpYes X1.here hx rfl (pc0 := 68) (pc' := 75) rfl (hb hby at_68) rfl (feq (by decide : ¬ ((6 : Int32) = (2 : Int32)))).2 (by decide) (by decide) ?_
    show Steps p.tables e below (T1.setTop (mkF m 75 #[.val (.int p0), .val (.int p1), .val (.int (6 : Int32)), .val (.ref w_FLOAT), .val (.int (1 : Int32)), .unset] [])) _
    refine XS.iloadN X1.here hx rfl (hb hby at_75) rfl ?_
    show Steps p.tables e below (T1.setTop (mkF m 76 #[.val (.int p0), .val (.int p1), .val (.int (6 : Int32)), .val (.ref w_FLOAT), .val (.int (1 : Int32)), .unset] [(.int (6 : Int32))])) _
    refine XS.iconst X1.here hx rfl (hb hby at_76) ?_
    show Steps p.tables e below (T1.setTop (mkF m 77 #[.val (.int p0), .val (.int p1), .val (.int (6 : Int32)), .val (.ref w_FLOAT), .val (.int (1 : Int32)), .unset] [(.int (3 : Int32)), (.int (6 : Int32))])) _
    refine XS.isub X1.here hx rfl (hb hby at_77) rfl ?_
    show Steps p.tables e below (T1.setTop (mkF m 78 #[.val (.int p0), .val (.int p1), .val (.int (6 : Int32)), .val (.ref w_FLOAT), .val (.int (1 : Int32)), .unset] [(.int ((6 : Int32) - (3 : Int32)))])) _
    rw [(show ((6 : Int32) - (3 : Int32)) = (3 : Int32) from by decide)]
    show Steps p.tables e below (T1.setTop (mkF m 78 #[.val (.int p0), .val (.int p1), .val (.int (6 : Int32)), .val (.ref w_FLOAT), .val (.int (1 : Int32)), .unset] [(.int (3 : Int32))])) _
    refine XS.istore X1.here hx rfl (hb hby at_78) rfl (l' := #[.val (.int p0), .val (.int p1), .val (.int (6 : Int32)), .val (.ref w_FLOAT), .val (.int (1 : Int32)), .val (.int (3 : Int32))]) rfl ?_
    show Steps p.tables e below (T1.setTop (mkF m 80 #[.val (.int p0), .val (.int p1), .val (.int (6 : Int32)), .val (.ref w_FLOAT), .val (.int (1 : Int32)), .val (.int (3 : Int32))] [])) _
    refine XS.aloadN X1.here hx rfl (hb hby at_80) rfl rfl ?_
    show Steps p.tables e below (T1.setTop (mkF m 81 #[.val (.int p0), .val (.int p1), .val (.int (6 : Int32)), .val (.ref w_FLOAT), .val (.int (1 : Int32)), .val (.int (3 : Int32))] [(.ref w_FLOAT)])) _
    refine st2.trans ?_
    show Steps p.tables e below (T2.setTop (mkF m 84 #[.val (.int p0), .val (.int p1), .val (.int (6 : Int32)), .val (.ref w_FLOAT), .val (.int (1 : Int32)), .val (.int (3 : Int32))] [(.int (3 : Int32))])) _
    refine XS.iload X2.here hx rfl (hb hby at_84) rfl ?_
    show Steps p.tables e below (T2.setTop (mkF m 86 #[.val (.int p0), .val (.int p1), .val (.int (6 : Int32)), .val (.ref w_FLOAT), .val (.int (1 : Int32)), .val (.int (3 : Int32))] [(.int (3 : Int32)), (.int (3 : Int32))])) _
    refine XS.icmpNo X2.here hx rfl (hb hby at_86) rfl (teq (by decide : (3 : Int32) = (3 : Int32))).2 ?_
    show Steps p.tables e below (T2.setTop (mkF m 89 #[.val (.int p0), .val (.int p1), .val (.int (6 : Int32)), .val (.ref w_FLOAT), .val (.int (1 : Int32)), .val (.int (3 : Int32))] [])) _
    refine XS.iconst X2.here hx rfl (hb hby at_89) ?_
    show Steps p.tables e below (T2.setTop (mkF m 90 #[.val (.int p0), .val (.int p1), .val (.int (6 : Int32)), .val (.ref w_FLOAT), .val (.int (1 : Int32)), .val (.int (3 : Int32))] [(.int (1 : Int32))])) _
    refine XS.goto X2.here hx rfl (pc0 := 90) (pc' := 94) rfl (hb hby at_90) (by decide) (by decide) ?_
    show Steps p.tables e below (T2.setTop (mkF m 94 #[.val (.int p0), .val (.int p1), .val (.int (6 : Int32)), .val (.ref w_FLOAT), .val (.int (1 : Int32)), .val (.int (3 : Int32))] [(.int (1 : Int32))])) _
    exact retOut X2 hx Bd.returns rfl (Or.inl ⟨rfl, Or.inr (Or.inl rfl), _, rfl⟩) (hb hby at_94) hr
  · exact ⟨rfl, N2⟩
set_option maxRecDepth 65536 in
set_option maxHeartbeats 40000000 in
theorem sel_7 (l : Launch) (Z : State) (a0 : Array Value) (hw : ∀ d ∈ tables_1, d.before a0 Z = true) (ws : List Jvm.Cond) (w_INT : Addr) (w_BYTE : Addr) (w_CHAR : Addr) (w_OBJECT : Addr) (w_FLOAT : Addr) (w_DOUBLE : Addr) (w_LONG : Addr) (w_SHORT : Addr) (w_BOOLEAN : Addr) (h0 : Heap) (n0 : Nat) (Z0 : n0 ≤ h0.size) (G : Glob Z h0 w_INT w_BYTE w_CHAR w_OBJECT w_FLOAT w_DOUBLE w_LONG w_SHORT w_BOOLEAN) (p0 p1 : Int32) (hs : (p1 &&& (1 : Int32)) = (0 : Int32)) (hi7 : (((p1.toUInt32 >>> ((1 : Int32) &&& 31).toUInt32).toInt32) &&& (15 : Int32)) = (7 : Int32)) :
    MetFree l x (head1 (Jvm.Cond.code x code maxLocals ret :: ws) room_1) (fun a U => a = #[(.int p0), (.int p1)] ∧ Z.Warmed39 U.vm ∧ U.heap = h0) (fun _ _ _ _ _ => True) (fun _ U o U' => ∃ v L, o = .returned v ∧ QL (some (.int (1 : Int32))) h0 n0 v U'.heap L ∧ FrameEnd U o U' L room_1.cells room_1.slots) := by
  refine MetFree.of_bodySF (plainFor_of_name pn_com_example_refleash_refleash_hprof_BasicTypeOfPinLaw) hisR ?_
  intro p e s m args below meth c s₁ Bd hml0 hP hK
  obtain ⟨rfl, hZ, hh⟩ := hP
  have hx := Bd.exec
  have hby := Bd.bytes
  have hml : c.maxLocals = 6 := hml0
  have hown : s.vm.findClass "com/example/refleash/refleash/hprof/BasicTypeOfPinLaw" = some m.cls := findClass_of_methodNamed Bd.named
  have X0 : Stand p l e room_1 s m #[(.int p0), (.int p1)] below meth c s₁ [] 0 0 := Stand.of_body Bd
  have e0 : s₁.heap = h0 := by rw [← hh, Bd.state]; rfl
  have N0 := Fr.nil n0
  have pre0 : ∀ t, Steps p.tables e below (s₁.setTop (mkF m 0 #[.val (.int p0), .val (.int p1), .unset, .unset, .unset, .unset] [])) t → Steps p.tables e below (s₁.setTop (entryFrame m #[(.int p0), (.int p1)] maxLocals)) t := fun t k => castTop (ef_0_II m p0 p1) k
  have G' := G
  obtain ⟨S_w_INT, E_w_INT, F_ordinal_w_INT, S_w_BYTE, E_w_BYTE, F_ordinal_w_BYTE, S_w_CHAR, E_w_CHAR, F_ordinal_w_CHAR, S_w_OBJECT, E_w_OBJECT, F_ordinal_w_OBJECT, S_w_FLOAT, E_w_FLOAT, F_ordinal_w_FLOAT, S_w_DOUBLE, E_w_DOUBLE, F_ordinal_w_DOUBLE, S_w_LONG, E_w_LONG, F_ordinal_w_LONG, S_w_SHORT, E_w_SHORT, F_ordinal_w_SHORT, S_w_BOOLEAN, E_w_BOOLEAN, F_ordinal_w_BOOLEAN⟩ := G'
  obtain ⟨_, _, ⟨T1, L1, k1, n1⟩, -, X1, ⟨Lc1, hQ1, l1, y1, z1⟩, st1⟩ := Jvm.LawKit.callS X0 hx (y := (⟨"com/example/refleash/refleash/hprof/BasicType", "of", "(I)Lcom/example/refleash/refleash/hprof/BasicType;"⟩ : MethodName)) hown (mvT hZ (hw _ (List.mem_of_getElem? (i := 0) rfl))) (mvT hZ (hw _ (List.mem_of_getElem? (i := 1) rfl))) (mvT hZ (hw _ (List.mem_of_getElem? (i := 2) rfl))) (mvT hZ (hw _ (List.mem_of_getElem? (i := 3) rfl))) (by decide) (backOf (W := 0) (c1_4 l Z a0 hw [] w_INT w_BYTE w_CHAR w_OBJECT w_FLOAT w_DOUBLE w_LONG w_SHORT w_BOOLEAN h0 n0 Z0 G) hZ (hw _ (List.mem_of_getElem? (i := 3) rfl)) (hw _ (List.mem_of_getElem? (i := 2) rfl)) (by decide) (by decide)) (g := (mkF m 18 #[.val (.int p0), .val (.int p1), .val (.int (7 : Int32)), .unset, .unset, .unset] [(.int (7 : Int32))])) rfl (by rw [hml]; rfl) (argsL := [(.int (7 : Int32))]) (rest := []) (lenOf pd__I_Lcom_example_refleash_refleash_hprof_BasicType_ rfl) rfl (by show 2 * 0 + _ ≤ _; exact Nat.le_of_eq rfl) (hb hby at_18) (fun _ _ => ⟨rfl, e0, (by decide : 0 + 0 ≤ _), (by decide : 0 + 0 ≤ _)⟩)
  dsimp only [Pt.U, Pt.locs, Pt.cells, Pt.slots] at X1 l1 y1 z1 st1 hQ1
  subst l1 y1 z1
  obtain ⟨rfl, N1q, e1⟩ := hQ1
  have N1 := Fr.app N0 N1q
  obtain ⟨cq2, kq2, q2a, q2b, q2c⟩ := isOf hZ e1 E_w_DOUBLE
  obtain ⟨_, _, ⟨T2, L2, k2, n2⟩, -, X2, ⟨Lc2, hQ2, l2, y2, z2⟩, st2⟩ := X1.virtualBackUp hx (x := (⟨"com/example/refleash/refleash/hprof/BasicType", "ordinal", "()I"⟩ : MethodName)) (y := (⟨"java/lang/Enum", "ordinal", "()I"⟩ : MethodName)) hown (mvT hZ (hw _ (List.mem_of_getElem? (i := 6) rfl))) (mvT hZ (hw _ (List.mem_of_getElem? (i := 7) rfl))) (mvT hZ (hw _ (List.mem_of_getElem? (i := 8) rfl))) (by decide) (mvT hZ (hw _ (List.mem_of_getElem? (i := 10) rfl))) (mvT hZ (hw _ (List.mem_of_getElem? (i := 9) rfl))) (backOf (W := 0) (c2_4 l Z a0 hw [] w_INT w_BYTE w_CHAR w_OBJECT w_FLOAT w_DOUBLE w_LONG w_SHORT w_BOOLEAN h0 n0 Z0 G) hZ (hw _ (List.mem_of_getElem? (i := 12) rfl)) (hw _ (List.mem_of_getElem? (i := 11) rfl)) (by decide) (by decide)) q2a q2c (g := (mkF m 81 #[.val (.int p0), .val (.int p1), .val (.int (7 : Int32)), .val (.ref w_DOUBLE), .val (.int (1 : Int32)), .val (.int (4 : Int32))] [(.ref w_DOUBLE)])) rfl (by rw [hml]; rfl) (Steps.refl _) (argsL := []) (rest := []) (lenOf pd___I rfl) rfl (by show 2 * 0 + _ ≤ _; exact Nat.le_of_eq rfl) (hb hby at_81) (fun _ _ => ⟨rfl, e1, (by decide : 0 + 0 ≤ _), (by decide : 0 + 0 ≤ _)⟩)
  dsimp only [Pt.U, Pt.locs, Pt.cells, Pt.slots] at X2 l2 y2 z2 st2 hQ2
  subst l2 y2 z2
  obtain ⟨rfl, N2q, e2⟩ := hQ2
  have N2 := Fr.app N1 N2q
  obtain ⟨fs, hr, hrun, hended, hW, hsame⟩ := X2.leave (v := some (.int (1 : Int32))) (fun h => by rw [Bd.returns] at h; cases h)
  refine ⟨_, _, pre0 _ ?_, hrun, hended, _, _, rfl, ?_, ⟨_, rfl⟩, hW, hsame.mono (by decide) (by decide)⟩
  · show Steps p.tables e below (s₁.setTop (mkF m 0 #[.val (.int p0), .val (.int p1), .unset, .unset, .unset, .unset] [])) _
    refine XS.iloadN X0.here hx rfl (hb hby at_0) rfl ?_
    show Steps p.tables e below (s₁.setTop (mkF m 1 #[.val (.int p0), .val (.int p1), .unset, .unset, .unset, .unset] [(.int p1)])) _
    refine XS.iconst X0.here hx rfl (hb hby at_1) ?_
    show Steps p.tables e below (s₁.setTop (mkF m 2 #[.val (.int p0), .val (.int p1), .unset, .unset, .unset, .unset] [(.int (1 : Int32)), (.int p1)])) _
    refine XS.iand X0.here hx rfl (hb hby at_2) rfl ?_
    show Steps p.tables e below (s₁.setTop (mkF m 3 #[.val (.int p0), .val (.int p1), .unset, .unset, .unset, .unset] [(.int (p1 &&& (1 : Int32)))])) _
    refine XS.ifYes X0.here hx rfl (pc0 := 3) (pc' := 10) rfl (hb hby at_3) rfl ((if0 _ _).trans (teq (hs : (p1 &&& (1 : Int32)) = (0 : Int32))).1) (by decide) (by decide) ?_
    show Steps p.tables e below (s₁.setTop (mkF m 10 #[.val (.int p0), .val (.int p1), .unset, .unset, .unset, .unset] [])) _
    refine XS.iloadN X0.here hx rfl (hb hby at_10) rfl ?_
    show Steps p.tables e below (s₁.setTop (mkF m 11 #[.val (.int p0), .val (.int p1), .unset, .unset, .unset, .unset] [(.int p1)])) _
    refine XS.iconst X0.here hx rfl (hb hby at_11) ?_
    show Steps p.tables e below (s₁.setTop (mkF m 12 #[.val (.int p0), .val (.int p1), .unset, .unset, .unset, .unset] [(.int (1 : Int32)), (.int p1)])) _
    refine XS.iushr X0.here hx rfl (hb hby at_12) rfl ?_
    show Steps p.tables e below (s₁.setTop (mkF m 13 #[.val (.int p0), .val (.int p1), .unset, .unset, .unset, .unset] [(.int ((p1.toUInt32 >>> ((1 : Int32) &&& 31).toUInt32).toInt32))])) _
    refine XS.bipush X0.here hx rfl (hb hby at_13) ?_
    show Steps p.tables e below (s₁.setTop (mkF m 15 #[.val (.int p0), .val (.int p1), .unset, .unset, .unset, .unset] [(.int (15 : Int32)), (.int ((p1.toUInt32 >>> ((1 : Int32) &&& 31).toUInt32).toInt32))])) _
    refine XS.iand X0.here hx rfl (hb hby at_15) rfl ?_
    show Steps p.tables e below (s₁.setTop (mkF m 16 #[.val (.int p0), .val (.int p1), .unset, .unset, .unset, .unset] [(.int (((p1.toUInt32 >>> ((1 : Int32) &&& 31).toUInt32).toInt32) &&& (15 : Int32)))])) _
    rw [hi7]
    show Steps p.tables e below (s₁.setTop (mkF m 16 #[.val (.int p0), .val (.int p1), .unset, .unset, .unset, .unset] [(.int (7 : Int32))])) _
    refine XS.istoreN X0.here hx rfl (hb hby at_16) rfl (l' := #[.val (.int p0), .val (.int p1), .val (.int (7 : Int32)), .unset, .unset, .unset]) rfl ?_
    show Steps p.tables e below (s₁.setTop (mkF m 17 #[.val (.int p0), .val (.int p1), .val (.int (7 : Int32)), .unset, .unset, .unset] [])) _
    refine XS.iloadN X0.here hx rfl (hb hby at_17) rfl ?_
    show Steps p.tables e below (s₁.setTop (mkF m 18 #[.val (.int p0), .val (.int p1), .val (.int (7 : Int32)), .unset, .unset, .unset] [(.int (7 : Int32))])) _
    refine st1 _ ?_
    show Steps p.tables e below (T1.setTop (mkF m 21 #[.val (.int p0), .val (.int p1), .val (.int (7 : Int32)), .unset, .unset, .unset] [(.ref w_DOUBLE)])) _
    refine XS.astoreN X1.here hx rfl (hb hby at_21) rfl rfl (l' := #[.val (.int p0), .val (.int p1), .val (.int (7 : Int32)), .val (.ref w_DOUBLE), .unset, .unset]) rfl ?_
    show Steps p.tables e below (T1.setTop (mkF m 22 #[.val (.int p0), .val (.int p1), .val (.int (7 : Int32)), .val (.ref w_DOUBLE), .unset, .unset] [])) _
    refine XS.iloadN X1.here hx rfl (hb hby at_22) rfl ?_
    show Steps p.tables e below (T1.setTop (mkF m 23 #[.val (.int p0), .val (.int p1), .val (.int (7 : Int32)), .val (.ref w_DOUBLE), .unset, .unset] [(.int (7 : Int32))])) _
    refine XS.iconst X1.here hx rfl (hb hby at_23) ?_
    show Steps p.tables e below (T1.setTop (mkF m 24 #[.val (.int p0), .val (.int p1), .val (.int (7 : Int32)), .val (.ref w_DOUBLE), .unset, .unset] [(.int (2 : Int32)), (.int (7 : Int32))])) _
    refine XS.icmpNo X1.here hx rfl (hb hby at_24) rfl (feq (by decide : ¬ ((7 : Int32) = (2 : Int32)))).1 ?_
    show Steps p.tables e below (T1.setTop (mkF m 27 #[.val (.int p0), .val (.int p1), .val (.int (7 : Int32)), .val (.ref w_DOUBLE), .unset, .unset] [])) _
    refine XS.iloadN X1.here hx rfl (hb hby at_27) rfl ?_
    show Steps p.tables e below (T1.setTop (mkF m 28 #[.val (.int p0), .val (.int p1), .val (.int (7 : Int32)), .val (.ref w_DOUBLE), .unset, .unset] [(.int (7 : Int32))])) _
    refine XS.iconst X1.here hx rfl (hb hby at_28) ?_
    show Steps p.tables e below (T1.setTop (mkF m 29 #[.val (.int p0), .val (.int p1), .val (.int (7 : Int32)), .val (.ref w_DOUBLE), .unset, .unset] [(.int (4 : Int32)), (.int (7 : Int32))])) _
    refine XS.icmpNo X1.here hx rfl (hb hby at_29) rfl (flt (by decide : ¬ ((7 : Int32) < (4 : Int32)))).1 ?_
    show Steps p.tables e below (T1.setTop (mkF m 32 #[.val (.int p0), .val (.int p1), .val (.int (7 : Int32)), .val (.ref w_DOUBLE), .unset, .unset] [])) _
    refine XS.iloadN X1.here hx rfl (hb hby at_32) rfl ?_
    show Steps p.tables e below (T1.setTop (mkF m 33 #[.val (.int p0), .val (.int p1), .val (.int (7 : Int32)), .val (.ref w_DOUBLE), .unset, .unset] [(.int (7 : Int32))])) _
    refine XS.bipush X1.here hx rfl (hb hby at_33) ?_
    show Steps p.tables e below (T1.setTop (mkF m 35 #[.val (.int p0), .val (.int p1), .val (.int (7 : Int32)), .val (.ref w_DOUBLE), .unset, .unset] [(.int (11 : Int32)), (.int (7 : Int32))])) _
    refine XS.icmpNo X1.here hx rfl (hb hby at_35) rfl (flt (by decide : ¬ ((11 : Int32) < (7 : Int32)))).2.2.1 ?_
    show Steps p.tables e below (T1.setTop (mkF m 38 #[.val (.int p0), .val (.int p1), .val (.int (7 : Int32)), .val (.ref w_DOUBLE), .unset, .unset] [])) _
    refine XS.iconst X1.here hx rfl (hb hby at_38) ?_
    show Steps p.tables e below (T1.setTop (mkF m 39 #[.val (.int p0), .val (.int p1), .val (.int (7 : Int32)), .val (.ref w_DOUBLE), .unset, .unset] [(.int (1 : Int32))])) _
    refine XS.goto X1.here hx rfl (pc0 := 39) (pc' := 43) rfl (hb hby at_39) (by decide) (by decide) ?_
    show Steps p.tables e below (T1.setTop (mkF m 43 #[.val (.int p0), .val (.int p1), .val (.int (7 : Int32)), .val (.ref w_DOUBLE), .unset, .unset] [(.int (1 : Int32))])) _
    refine XS.istore X1.here hx rfl (hb hby at_43) rfl (l' := #[.val (.int p0), .val (.int p1), .val (.int (7 : Int32)), .val (.ref w_DOUBLE), .val (.int (1 : Int32)), .unset]) rfl ?_
    show Steps p.tables e below (T1.setTop (mkF m 45 #[.val (.int p0), .val (.int p1), .val (.int (7 : Int32)), .val (.ref w_DOUBLE), .val (.int (1 : Int32)), .unset] [])) _
    refine XS.iload X1.here hx rfl (hb hby at_45) rfl ?_
    show Steps p.tables e below (T1.setTop (mkF m 47 #[.val (.int p0), .val (.int p1), .val (.int (7 : Int32)), .val (.ref w_DOUBLE), .val (.int (1 : Int32)), .unset] [(.int (1 : Int32))])) _
    refine XS.ifYes X1.here hx rfl (pc0 := 47) (pc' := 60) rfl (hb hby at_47) rfl ((if0 _ _).trans (feq (by decide : ¬ ((1 : Int32) = (0 : Int32)))).2) (by decide) (by decide) ?_
    show Steps p.tables e below (T1.setTop (mkF m 60 #[.val (.int p0), .val (.int p1), .val (.int (7 : Int32)), .val (.ref w_DOUBLE), .val (.int (1 : Int32)), .unset] [])) _
    refine XS.aloadN X1.here hx rfl (hb hby at_60) rfl rfl ?_
    show Steps p.tables e below (T1.setTop (mkF m 61 #[.val (.int p0), .val (.int p1), .val (.int (7 : Int32)), .val (.ref w_DOUBLE), .val (.int (1 : Int32)), .unset] [(.ref w_DOUBLE)])) _
    refine XS.ifnonnullYes X1.here hx rfl (pc0 := 61) (pc' := 66) rfl (hb hby at_61) rfl (by decide) (by decide) ?_
    show Steps p.tables e below (T1.setTop (mkF m 66 #[.val (.int p0), .val (.int p1), .val (.int (7 : Int32)), .val (.ref w_DOUBLE), .val (.int (1 : Int32)), .unset] [])) _
    refine XS.iloadN X1.here hx rfl (hb hby at_66) rfl ?_
    show Steps p.tables e below (T1.setTop (mkF m 67 #[.val (.int p0), .val (.int p1), .val (.int (7 : Int32)), .val (.ref w_DOUBLE), .val (.int (1 : Int32)), .unset] [(.int (7 : Int32))])) _
    refine XS.iconst X1.here hx rfl (hb hby at_67) ?_
    show Steps p.tables e below (T1.setTop (mkF m 68 #[.val (.int p0), .val (.int p1), .val (.int (7 : Int32)), .val (.ref w_DOUBLE), .val (.int (1 : Int32)), .unset] [(.int (2 : Int32)), (.int (7 : Int32))])) _
    refine XS.icmpYes X1.here hx rfl (pc0 := 68) (pc' := 75) rfl (hb hby at_68) rfl (feq (by decide : ¬ ((7 : Int32) = (2 : Int32)))).2 (by decide) (by decide) ?_
    show Steps p.tables e below (T1.setTop (mkF m 75 #[.val (.int p0), .val (.int p1), .val (.int (7 : Int32)), .val (.ref w_DOUBLE), .val (.int (1 : Int32)), .unset] [])) _
    refine XS.iloadN X1.here hx rfl (hb hby at_75) rfl ?_
    show Steps p.tables e below (T1.setTop (mkF m 76 #[.val (.int p0), .val (.int p1), .val (.int (7 : Int32)), .val (.ref w_DOUBLE), .val (.int (1 : Int32)), .unset] [(.int (7 : Int32))])) _
    refine XS.iconst X1.here hx rfl (hb hby at_76) ?_
    show Steps p.tables e below (T1.setTop (mkF m 77 #[.val (.int p0), .val (.int p1), .val (.int (7 : Int32)), .val (.ref w_DOUBLE), .val (.int (1 : Int32)), .unset] [(.int (3 : Int32)), (.int (7 : Int32))])) _
    refine XS.isub X1.here hx rfl (hb hby at_77) rfl ?_
    show Steps p.tables e below (T1.setTop (mkF m 78 #[.val (.int p0), .val (.int p1), .val (.int (7 : Int32)), .val (.ref w_DOUBLE), .val (.int (1 : Int32)), .unset] [(.int ((7 : Int32) - (3 : Int32)))])) _
    rw [(show ((7 : Int32) - (3 : Int32)) = (4 : Int32) from by decide)]
    show Steps p.tables e below (T1.setTop (mkF m 78 #[.val (.int p0), .val (.int p1), .val (.int (7 : Int32)), .val (.ref w_DOUBLE), .val (.int (1 : Int32)), .unset] [(.int (4 : Int32))])) _
    refine XS.istore X1.here hx rfl (hb hby at_78) rfl (l' := #[.val (.int p0), .val (.int p1), .val (.int (7 : Int32)), .val (.ref w_DOUBLE), .val (.int (1 : Int32)), .val (.int (4 : Int32))]) rfl ?_
    show Steps p.tables e below (T1.setTop (mkF m 80 #[.val (.int p0), .val (.int p1), .val (.int (7 : Int32)), .val (.ref w_DOUBLE), .val (.int (1 : Int32)), .val (.int (4 : Int32))] [])) _
    refine XS.aloadN X1.here hx rfl (hb hby at_80) rfl rfl ?_
    show Steps p.tables e below (T1.setTop (mkF m 81 #[.val (.int p0), .val (.int p1), .val (.int (7 : Int32)), .val (.ref w_DOUBLE), .val (.int (1 : Int32)), .val (.int (4 : Int32))] [(.ref w_DOUBLE)])) _
    refine st2.trans ?_
    show Steps p.tables e below (T2.setTop (mkF m 84 #[.val (.int p0), .val (.int p1), .val (.int (7 : Int32)), .val (.ref w_DOUBLE), .val (.int (1 : Int32)), .val (.int (4 : Int32))] [(.int (4 : Int32))])) _
    refine XS.iload X2.here hx rfl (hb hby at_84) rfl ?_
    show Steps p.tables e below (T2.setTop (mkF m 86 #[.val (.int p0), .val (.int p1), .val (.int (7 : Int32)), .val (.ref w_DOUBLE), .val (.int (1 : Int32)), .val (.int (4 : Int32))] [(.int (4 : Int32)), (.int (4 : Int32))])) _
    refine XS.icmpNo X2.here hx rfl (hb hby at_86) rfl (teq (by decide : (4 : Int32) = (4 : Int32))).2 ?_
    show Steps p.tables e below (T2.setTop (mkF m 89 #[.val (.int p0), .val (.int p1), .val (.int (7 : Int32)), .val (.ref w_DOUBLE), .val (.int (1 : Int32)), .val (.int (4 : Int32))] [])) _
    refine XS.iconst X2.here hx rfl (hb hby at_89) ?_
    show Steps p.tables e below (T2.setTop (mkF m 90 #[.val (.int p0), .val (.int p1), .val (.int (7 : Int32)), .val (.ref w_DOUBLE), .val (.int (1 : Int32)), .val (.int (4 : Int32))] [(.int (1 : Int32))])) _
    refine XS.goto X2.here hx rfl (pc0 := 90) (pc' := 94) rfl (hb hby at_90) (by decide) (by decide) ?_
    show Steps p.tables e below (T2.setTop (mkF m 94 #[.val (.int p0), .val (.int p1), .val (.int (7 : Int32)), .val (.ref w_DOUBLE), .val (.int (1 : Int32)), .val (.int (4 : Int32))] [(.int (1 : Int32))])) _
    exact retOut X2 hx Bd.returns rfl (Or.inl ⟨rfl, Or.inr (Or.inl rfl), _, rfl⟩) (hb hby at_94) hr
  · exact ⟨rfl, N2⟩
set_option maxRecDepth 65536 in
set_option maxHeartbeats 40000000 in
theorem sel_8 (l : Launch) (Z : State) (a0 : Array Value) (hw : ∀ d ∈ tables_1, d.before a0 Z = true) (ws : List Jvm.Cond) (w_INT : Addr) (w_BYTE : Addr) (w_CHAR : Addr) (w_OBJECT : Addr) (w_FLOAT : Addr) (w_DOUBLE : Addr) (w_LONG : Addr) (w_SHORT : Addr) (w_BOOLEAN : Addr) (h0 : Heap) (n0 : Nat) (Z0 : n0 ≤ h0.size) (G : Glob Z h0 w_INT w_BYTE w_CHAR w_OBJECT w_FLOAT w_DOUBLE w_LONG w_SHORT w_BOOLEAN) (p0 p1 : Int32) (hs : (p1 &&& (1 : Int32)) = (0 : Int32)) (hi8 : (((p1.toUInt32 >>> ((1 : Int32) &&& 31).toUInt32).toInt32) &&& (15 : Int32)) = (8 : Int32)) :
    MetFree l x (head1 (Jvm.Cond.code x code maxLocals ret :: ws) room_1) (fun a U => a = #[(.int p0), (.int p1)] ∧ Z.Warmed39 U.vm ∧ U.heap = h0) (fun _ _ _ _ _ => True) (fun _ U o U' => ∃ v L, o = .returned v ∧ QL (some (.int (1 : Int32))) h0 n0 v U'.heap L ∧ FrameEnd U o U' L room_1.cells room_1.slots) := by
  refine MetFree.of_bodySF (plainFor_of_name pn_com_example_refleash_refleash_hprof_BasicTypeOfPinLaw) hisR ?_
  intro p e s m args below meth c s₁ Bd hml0 hP hK
  obtain ⟨rfl, hZ, hh⟩ := hP
  have hx := Bd.exec
  have hby := Bd.bytes
  have hml : c.maxLocals = 6 := hml0
  have hown : s.vm.findClass "com/example/refleash/refleash/hprof/BasicTypeOfPinLaw" = some m.cls := findClass_of_methodNamed Bd.named
  have X0 : Stand p l e room_1 s m #[(.int p0), (.int p1)] below meth c s₁ [] 0 0 := Stand.of_body Bd
  have e0 : s₁.heap = h0 := by rw [← hh, Bd.state]; rfl
  have N0 := Fr.nil n0
  have pre0 : ∀ t, Steps p.tables e below (s₁.setTop (mkF m 0 #[.val (.int p0), .val (.int p1), .unset, .unset, .unset, .unset] [])) t → Steps p.tables e below (s₁.setTop (entryFrame m #[(.int p0), (.int p1)] maxLocals)) t := fun t k => castTop (ef_0_II m p0 p1) k
  have G' := G
  obtain ⟨S_w_INT, E_w_INT, F_ordinal_w_INT, S_w_BYTE, E_w_BYTE, F_ordinal_w_BYTE, S_w_CHAR, E_w_CHAR, F_ordinal_w_CHAR, S_w_OBJECT, E_w_OBJECT, F_ordinal_w_OBJECT, S_w_FLOAT, E_w_FLOAT, F_ordinal_w_FLOAT, S_w_DOUBLE, E_w_DOUBLE, F_ordinal_w_DOUBLE, S_w_LONG, E_w_LONG, F_ordinal_w_LONG, S_w_SHORT, E_w_SHORT, F_ordinal_w_SHORT, S_w_BOOLEAN, E_w_BOOLEAN, F_ordinal_w_BOOLEAN⟩ := G'
  obtain ⟨_, _, ⟨T1, L1, k1, n1⟩, -, X1, ⟨Lc1, hQ1, l1, y1, z1⟩, st1⟩ := Jvm.LawKit.callS X0 hx (y := (⟨"com/example/refleash/refleash/hprof/BasicType", "of", "(I)Lcom/example/refleash/refleash/hprof/BasicType;"⟩ : MethodName)) hown (mvT hZ (hw _ (List.mem_of_getElem? (i := 0) rfl))) (mvT hZ (hw _ (List.mem_of_getElem? (i := 1) rfl))) (mvT hZ (hw _ (List.mem_of_getElem? (i := 2) rfl))) (mvT hZ (hw _ (List.mem_of_getElem? (i := 3) rfl))) (by decide) (backOf (W := 0) (c1_5 l Z a0 hw [] w_INT w_BYTE w_CHAR w_OBJECT w_FLOAT w_DOUBLE w_LONG w_SHORT w_BOOLEAN h0 n0 Z0 G) hZ (hw _ (List.mem_of_getElem? (i := 3) rfl)) (hw _ (List.mem_of_getElem? (i := 2) rfl)) (by decide) (by decide)) (g := (mkF m 18 #[.val (.int p0), .val (.int p1), .val (.int (8 : Int32)), .unset, .unset, .unset] [(.int (8 : Int32))])) rfl (by rw [hml]; rfl) (argsL := [(.int (8 : Int32))]) (rest := []) (lenOf pd__I_Lcom_example_refleash_refleash_hprof_BasicType_ rfl) rfl (by show 2 * 0 + _ ≤ _; exact Nat.le_of_eq rfl) (hb hby at_18) (fun _ _ => ⟨rfl, e0, (by decide : 0 + 0 ≤ _), (by decide : 0 + 0 ≤ _)⟩)
  dsimp only [Pt.U, Pt.locs, Pt.cells, Pt.slots] at X1 l1 y1 z1 st1 hQ1
  subst l1 y1 z1
  obtain ⟨rfl, N1q, e1⟩ := hQ1
  have N1 := Fr.app N0 N1q
  obtain ⟨cq2, kq2, q2a, q2b, q2c⟩ := isOf hZ e1 E_w_BYTE
  obtain ⟨_, _, ⟨T2, L2, k2, n2⟩, -, X2, ⟨Lc2, hQ2, l2, y2, z2⟩, st2⟩ := X1.virtualBackUp hx (x := (⟨"com/example/refleash/refleash/hprof/BasicType", "ordinal", "()I"⟩ : MethodName)) (y := (⟨"java/lang/Enum", "ordinal", "()I"⟩ : MethodName)) hown (mvT hZ (hw _ (List.mem_of_getElem? (i := 6) rfl))) (mvT hZ (hw _ (List.mem_of_getElem? (i := 7) rfl))) (mvT hZ (hw _ (List.mem_of_getElem? (i := 8) rfl))) (by decide) (mvT hZ (hw _ (List.mem_of_getElem? (i := 10) rfl))) (mvT hZ (hw _ (List.mem_of_getElem? (i := 9) rfl))) (backOf (W := 0) (c2_5 l Z a0 hw [] w_INT w_BYTE w_CHAR w_OBJECT w_FLOAT w_DOUBLE w_LONG w_SHORT w_BOOLEAN h0 n0 Z0 G) hZ (hw _ (List.mem_of_getElem? (i := 12) rfl)) (hw _ (List.mem_of_getElem? (i := 11) rfl)) (by decide) (by decide)) q2a q2c (g := (mkF m 81 #[.val (.int p0), .val (.int p1), .val (.int (8 : Int32)), .val (.ref w_BYTE), .val (.int (1 : Int32)), .val (.int (5 : Int32))] [(.ref w_BYTE)])) rfl (by rw [hml]; rfl) (Steps.refl _) (argsL := []) (rest := []) (lenOf pd___I rfl) rfl (by show 2 * 0 + _ ≤ _; exact Nat.le_of_eq rfl) (hb hby at_81) (fun _ _ => ⟨rfl, e1, (by decide : 0 + 0 ≤ _), (by decide : 0 + 0 ≤ _)⟩)
  dsimp only [Pt.U, Pt.locs, Pt.cells, Pt.slots] at X2 l2 y2 z2 st2 hQ2
  subst l2 y2 z2
  obtain ⟨rfl, N2q, e2⟩ := hQ2
  have N2 := Fr.app N1 N2q
  obtain ⟨fs, hr, hrun, hended, hW, hsame⟩ := X2.leave (v := some (.int (1 : Int32))) (fun h => by rw [Bd.returns] at h; cases h)
  refine ⟨_, _, pre0 _ ?_, hrun, hended, _, _, rfl, ?_, ⟨_, rfl⟩, hW, hsame.mono (by decide) (by decide)⟩
  · show Steps p.tables e below (s₁.setTop (mkF m 0 #[.val (.int p0), .val (.int p1), .unset, .unset, .unset, .unset] [])) _
    refine XS.iloadN X0.here hx rfl (hb hby at_0) rfl ?_
    show Steps p.tables e below (s₁.setTop (mkF m 1 #[.val (.int p0), .val (.int p1), .unset, .unset, .unset, .unset] [(.int p1)])) _
    refine XS.iconst X0.here hx rfl (hb hby at_1) ?_
    show Steps p.tables e below (s₁.setTop (mkF m 2 #[.val (.int p0), .val (.int p1), .unset, .unset, .unset, .unset] [(.int (1 : Int32)), (.int p1)])) _
    refine XS.iand X0.here hx rfl (hb hby at_2) rfl ?_
    show Steps p.tables e below (s₁.setTop (mkF m 3 #[.val (.int p0), .val (.int p1), .unset, .unset, .unset, .unset] [(.int (p1 &&& (1 : Int32)))])) _
    refine XS.ifYes X0.here hx rfl (pc0 := 3) (pc' := 10) rfl (hb hby at_3) rfl ((if0 _ _).trans (teq (hs : (p1 &&& (1 : Int32)) = (0 : Int32))).1) (by decide) (by decide) ?_
    show Steps p.tables e below (s₁.setTop (mkF m 10 #[.val (.int p0), .val (.int p1), .unset, .unset, .unset, .unset] [])) _
    refine XS.iloadN X0.here hx rfl (hb hby at_10) rfl ?_
    show Steps p.tables e below (s₁.setTop (mkF m 11 #[.val (.int p0), .val (.int p1), .unset, .unset, .unset, .unset] [(.int p1)])) _
    refine XS.iconst X0.here hx rfl (hb hby at_11) ?_
    show Steps p.tables e below (s₁.setTop (mkF m 12 #[.val (.int p0), .val (.int p1), .unset, .unset, .unset, .unset] [(.int (1 : Int32)), (.int p1)])) _
    refine XS.iushr X0.here hx rfl (hb hby at_12) rfl ?_
    show Steps p.tables e below (s₁.setTop (mkF m 13 #[.val (.int p0), .val (.int p1), .unset, .unset, .unset, .unset] [(.int ((p1.toUInt32 >>> ((1 : Int32) &&& 31).toUInt32).toInt32))])) _
    refine XS.bipush X0.here hx rfl (hb hby at_13) ?_
    show Steps p.tables e below (s₁.setTop (mkF m 15 #[.val (.int p0), .val (.int p1), .unset, .unset, .unset, .unset] [(.int (15 : Int32)), (.int ((p1.toUInt32 >>> ((1 : Int32) &&& 31).toUInt32).toInt32))])) _
    refine XS.iand X0.here hx rfl (hb hby at_15) rfl ?_
    show Steps p.tables e below (s₁.setTop (mkF m 16 #[.val (.int p0), .val (.int p1), .unset, .unset, .unset, .unset] [(.int (((p1.toUInt32 >>> ((1 : Int32) &&& 31).toUInt32).toInt32) &&& (15 : Int32)))])) _
    rw [hi8]
    show Steps p.tables e below (s₁.setTop (mkF m 16 #[.val (.int p0), .val (.int p1), .unset, .unset, .unset, .unset] [(.int (8 : Int32))])) _
    refine XS.istoreN X0.here hx rfl (hb hby at_16) rfl (l' := #[.val (.int p0), .val (.int p1), .val (.int (8 : Int32)), .unset, .unset, .unset]) rfl ?_
    show Steps p.tables e below (s₁.setTop (mkF m 17 #[.val (.int p0), .val (.int p1), .val (.int (8 : Int32)), .unset, .unset, .unset] [])) _
    refine XS.iloadN X0.here hx rfl (hb hby at_17) rfl ?_
    show Steps p.tables e below (s₁.setTop (mkF m 18 #[.val (.int p0), .val (.int p1), .val (.int (8 : Int32)), .unset, .unset, .unset] [(.int (8 : Int32))])) _
    refine st1 _ ?_
    show Steps p.tables e below (T1.setTop (mkF m 21 #[.val (.int p0), .val (.int p1), .val (.int (8 : Int32)), .unset, .unset, .unset] [(.ref w_BYTE)])) _
    refine XS.astoreN X1.here hx rfl (hb hby at_21) rfl rfl (l' := #[.val (.int p0), .val (.int p1), .val (.int (8 : Int32)), .val (.ref w_BYTE), .unset, .unset]) rfl ?_
    show Steps p.tables e below (T1.setTop (mkF m 22 #[.val (.int p0), .val (.int p1), .val (.int (8 : Int32)), .val (.ref w_BYTE), .unset, .unset] [])) _
    refine XS.iloadN X1.here hx rfl (hb hby at_22) rfl ?_
    show Steps p.tables e below (T1.setTop (mkF m 23 #[.val (.int p0), .val (.int p1), .val (.int (8 : Int32)), .val (.ref w_BYTE), .unset, .unset] [(.int (8 : Int32))])) _
    refine XS.iconst X1.here hx rfl (hb hby at_23) ?_
    show Steps p.tables e below (T1.setTop (mkF m 24 #[.val (.int p0), .val (.int p1), .val (.int (8 : Int32)), .val (.ref w_BYTE), .unset, .unset] [(.int (2 : Int32)), (.int (8 : Int32))])) _
    refine XS.icmpNo X1.here hx rfl (hb hby at_24) rfl (feq (by decide : ¬ ((8 : Int32) = (2 : Int32)))).1 ?_
    show Steps p.tables e below (T1.setTop (mkF m 27 #[.val (.int p0), .val (.int p1), .val (.int (8 : Int32)), .val (.ref w_BYTE), .unset, .unset] [])) _
    refine XS.iloadN X1.here hx rfl (hb hby at_27) rfl ?_
    show Steps p.tables e below (T1.setTop (mkF m 28 #[.val (.int p0), .val (.int p1), .val (.int (8 : Int32)), .val (.ref w_BYTE), .unset, .unset] [(.int (8 : Int32))])) _
    refine XS.iconst X1.here hx rfl (hb hby at_28) ?_
    show Steps p.tables e below (T1.setTop (mkF m 29 #[.val (.int p0), .val (.int p1), .val (.int (8 : Int32)), .val (.ref w_BYTE), .unset, .unset] [(.int (4 : Int32)), (.int (8 : Int32))])) _
    refine XS.icmpNo X1.here hx rfl (hb hby at_29) rfl (flt (by decide : ¬ ((8 : Int32) < (4 : Int32)))).1 ?_
    show Steps p.tables e below (T1.setTop (mkF m 32 #[.val (.int p0), .val (.int p1), .val (.int (8 : Int32)), .val (.ref w_BYTE), .unset, .unset] [])) _
    refine XS.iloadN X1.here hx rfl (hb hby at_32) rfl ?_
    show Steps p.tables e below (T1.setTop (mkF m 33 #[.val (.int p0), .val (.int p1), .val (.int (8 : Int32)), .val (.ref w_BYTE), .unset, .unset] [(.int (8 : Int32))])) _
    refine XS.bipush X1.here hx rfl (hb hby at_33) ?_
    show Steps p.tables e below (T1.setTop (mkF m 35 #[.val (.int p0), .val (.int p1), .val (.int (8 : Int32)), .val (.ref w_BYTE), .unset, .unset] [(.int (11 : Int32)), (.int (8 : Int32))])) _
    refine XS.icmpNo X1.here hx rfl (hb hby at_35) rfl (flt (by decide : ¬ ((11 : Int32) < (8 : Int32)))).2.2.1 ?_
    show Steps p.tables e below (T1.setTop (mkF m 38 #[.val (.int p0), .val (.int p1), .val (.int (8 : Int32)), .val (.ref w_BYTE), .unset, .unset] [])) _
    refine XS.iconst X1.here hx rfl (hb hby at_38) ?_
    show Steps p.tables e below (T1.setTop (mkF m 39 #[.val (.int p0), .val (.int p1), .val (.int (8 : Int32)), .val (.ref w_BYTE), .unset, .unset] [(.int (1 : Int32))])) _
    refine XS.goto X1.here hx rfl (pc0 := 39) (pc' := 43) rfl (hb hby at_39) (by decide) (by decide) ?_
    show Steps p.tables e below (T1.setTop (mkF m 43 #[.val (.int p0), .val (.int p1), .val (.int (8 : Int32)), .val (.ref w_BYTE), .unset, .unset] [(.int (1 : Int32))])) _
    refine XS.istore X1.here hx rfl (hb hby at_43) rfl (l' := #[.val (.int p0), .val (.int p1), .val (.int (8 : Int32)), .val (.ref w_BYTE), .val (.int (1 : Int32)), .unset]) rfl ?_
    show Steps p.tables e below (T1.setTop (mkF m 45 #[.val (.int p0), .val (.int p1), .val (.int (8 : Int32)), .val (.ref w_BYTE), .val (.int (1 : Int32)), .unset] [])) _
    refine XS.iload X1.here hx rfl (hb hby at_45) rfl ?_
    show Steps p.tables e below (T1.setTop (mkF m 47 #[.val (.int p0), .val (.int p1), .val (.int (8 : Int32)), .val (.ref w_BYTE), .val (.int (1 : Int32)), .unset] [(.int (1 : Int32))])) _
    refine XS.ifYes X1.here hx rfl (pc0 := 47) (pc' := 60) rfl (hb hby at_47) rfl ((if0 _ _).trans (feq (by decide : ¬ ((1 : Int32) = (0 : Int32)))).2) (by decide) (by decide) ?_
    show Steps p.tables e below (T1.setTop (mkF m 60 #[.val (.int p0), .val (.int p1), .val (.int (8 : Int32)), .val (.ref w_BYTE), .val (.int (1 : Int32)), .unset] [])) _
    refine XS.aloadN X1.here hx rfl (hb hby at_60) rfl rfl ?_
    show Steps p.tables e below (T1.setTop (mkF m 61 #[.val (.int p0), .val (.int p1), .val (.int (8 : Int32)), .val (.ref w_BYTE), .val (.int (1 : Int32)), .unset] [(.ref w_BYTE)])) _
    refine XS.ifnonnullYes X1.here hx rfl (pc0 := 61) (pc' := 66) rfl (hb hby at_61) rfl (by decide) (by decide) ?_
    show Steps p.tables e below (T1.setTop (mkF m 66 #[.val (.int p0), .val (.int p1), .val (.int (8 : Int32)), .val (.ref w_BYTE), .val (.int (1 : Int32)), .unset] [])) _
    refine XS.iloadN X1.here hx rfl (hb hby at_66) rfl ?_
    show Steps p.tables e below (T1.setTop (mkF m 67 #[.val (.int p0), .val (.int p1), .val (.int (8 : Int32)), .val (.ref w_BYTE), .val (.int (1 : Int32)), .unset] [(.int (8 : Int32))])) _
    refine XS.iconst X1.here hx rfl (hb hby at_67) ?_
    show Steps p.tables e below (T1.setTop (mkF m 68 #[.val (.int p0), .val (.int p1), .val (.int (8 : Int32)), .val (.ref w_BYTE), .val (.int (1 : Int32)), .unset] [(.int (2 : Int32)), (.int (8 : Int32))])) _
    refine XS.icmpYes X1.here hx rfl (pc0 := 68) (pc' := 75) rfl (hb hby at_68) rfl (feq (by decide : ¬ ((8 : Int32) = (2 : Int32)))).2 (by decide) (by decide) ?_
    show Steps p.tables e below (T1.setTop (mkF m 75 #[.val (.int p0), .val (.int p1), .val (.int (8 : Int32)), .val (.ref w_BYTE), .val (.int (1 : Int32)), .unset] [])) _
    refine XS.iloadN X1.here hx rfl (hb hby at_75) rfl ?_
    show Steps p.tables e below (T1.setTop (mkF m 76 #[.val (.int p0), .val (.int p1), .val (.int (8 : Int32)), .val (.ref w_BYTE), .val (.int (1 : Int32)), .unset] [(.int (8 : Int32))])) _
    refine XS.iconst X1.here hx rfl (hb hby at_76) ?_
    show Steps p.tables e below (T1.setTop (mkF m 77 #[.val (.int p0), .val (.int p1), .val (.int (8 : Int32)), .val (.ref w_BYTE), .val (.int (1 : Int32)), .unset] [(.int (3 : Int32)), (.int (8 : Int32))])) _
    refine XS.isub X1.here hx rfl (hb hby at_77) rfl ?_
    show Steps p.tables e below (T1.setTop (mkF m 78 #[.val (.int p0), .val (.int p1), .val (.int (8 : Int32)), .val (.ref w_BYTE), .val (.int (1 : Int32)), .unset] [(.int ((8 : Int32) - (3 : Int32)))])) _
    rw [(show ((8 : Int32) - (3 : Int32)) = (5 : Int32) from by decide)]
    show Steps p.tables e below (T1.setTop (mkF m 78 #[.val (.int p0), .val (.int p1), .val (.int (8 : Int32)), .val (.ref w_BYTE), .val (.int (1 : Int32)), .unset] [(.int (5 : Int32))])) _
    refine XS.istore X1.here hx rfl (hb hby at_78) rfl (l' := #[.val (.int p0), .val (.int p1), .val (.int (8 : Int32)), .val (.ref w_BYTE), .val (.int (1 : Int32)), .val (.int (5 : Int32))]) rfl ?_
    show Steps p.tables e below (T1.setTop (mkF m 80 #[.val (.int p0), .val (.int p1), .val (.int (8 : Int32)), .val (.ref w_BYTE), .val (.int (1 : Int32)), .val (.int (5 : Int32))] [])) _
    refine XS.aloadN X1.here hx rfl (hb hby at_80) rfl rfl ?_
    show Steps p.tables e below (T1.setTop (mkF m 81 #[.val (.int p0), .val (.int p1), .val (.int (8 : Int32)), .val (.ref w_BYTE), .val (.int (1 : Int32)), .val (.int (5 : Int32))] [(.ref w_BYTE)])) _
    refine st2.trans ?_
    show Steps p.tables e below (T2.setTop (mkF m 84 #[.val (.int p0), .val (.int p1), .val (.int (8 : Int32)), .val (.ref w_BYTE), .val (.int (1 : Int32)), .val (.int (5 : Int32))] [(.int (5 : Int32))])) _
    refine XS.iload X2.here hx rfl (hb hby at_84) rfl ?_
    show Steps p.tables e below (T2.setTop (mkF m 86 #[.val (.int p0), .val (.int p1), .val (.int (8 : Int32)), .val (.ref w_BYTE), .val (.int (1 : Int32)), .val (.int (5 : Int32))] [(.int (5 : Int32)), (.int (5 : Int32))])) _
    refine XS.icmpNo X2.here hx rfl (hb hby at_86) rfl (teq (by decide : (5 : Int32) = (5 : Int32))).2 ?_
    show Steps p.tables e below (T2.setTop (mkF m 89 #[.val (.int p0), .val (.int p1), .val (.int (8 : Int32)), .val (.ref w_BYTE), .val (.int (1 : Int32)), .val (.int (5 : Int32))] [])) _
    refine XS.iconst X2.here hx rfl (hb hby at_89) ?_
    show Steps p.tables e below (T2.setTop (mkF m 90 #[.val (.int p0), .val (.int p1), .val (.int (8 : Int32)), .val (.ref w_BYTE), .val (.int (1 : Int32)), .val (.int (5 : Int32))] [(.int (1 : Int32))])) _
    refine XS.goto X2.here hx rfl (pc0 := 90) (pc' := 94) rfl (hb hby at_90) (by decide) (by decide) ?_
    show Steps p.tables e below (T2.setTop (mkF m 94 #[.val (.int p0), .val (.int p1), .val (.int (8 : Int32)), .val (.ref w_BYTE), .val (.int (1 : Int32)), .val (.int (5 : Int32))] [(.int (1 : Int32))])) _
    exact retOut X2 hx Bd.returns rfl (Or.inl ⟨rfl, Or.inr (Or.inl rfl), _, rfl⟩) (hb hby at_94) hr
  · exact ⟨rfl, N2⟩
set_option maxRecDepth 65536 in
set_option maxHeartbeats 40000000 in
theorem sel_9 (l : Launch) (Z : State) (a0 : Array Value) (hw : ∀ d ∈ tables_1, d.before a0 Z = true) (ws : List Jvm.Cond) (w_INT : Addr) (w_BYTE : Addr) (w_CHAR : Addr) (w_OBJECT : Addr) (w_FLOAT : Addr) (w_DOUBLE : Addr) (w_LONG : Addr) (w_SHORT : Addr) (w_BOOLEAN : Addr) (h0 : Heap) (n0 : Nat) (Z0 : n0 ≤ h0.size) (G : Glob Z h0 w_INT w_BYTE w_CHAR w_OBJECT w_FLOAT w_DOUBLE w_LONG w_SHORT w_BOOLEAN) (p0 p1 : Int32) (hs : (p1 &&& (1 : Int32)) = (0 : Int32)) (hi9 : (((p1.toUInt32 >>> ((1 : Int32) &&& 31).toUInt32).toInt32) &&& (15 : Int32)) = (9 : Int32)) :
    MetFree l x (head1 (Jvm.Cond.code x code maxLocals ret :: ws) room_1) (fun a U => a = #[(.int p0), (.int p1)] ∧ Z.Warmed39 U.vm ∧ U.heap = h0) (fun _ _ _ _ _ => True) (fun _ U o U' => ∃ v L, o = .returned v ∧ QL (some (.int (1 : Int32))) h0 n0 v U'.heap L ∧ FrameEnd U o U' L room_1.cells room_1.slots) := by
  refine MetFree.of_bodySF (plainFor_of_name pn_com_example_refleash_refleash_hprof_BasicTypeOfPinLaw) hisR ?_
  intro p e s m args below meth c s₁ Bd hml0 hP hK
  obtain ⟨rfl, hZ, hh⟩ := hP
  have hx := Bd.exec
  have hby := Bd.bytes
  have hml : c.maxLocals = 6 := hml0
  have hown : s.vm.findClass "com/example/refleash/refleash/hprof/BasicTypeOfPinLaw" = some m.cls := findClass_of_methodNamed Bd.named
  have X0 : Stand p l e room_1 s m #[(.int p0), (.int p1)] below meth c s₁ [] 0 0 := Stand.of_body Bd
  have e0 : s₁.heap = h0 := by rw [← hh, Bd.state]; rfl
  have N0 := Fr.nil n0
  have pre0 : ∀ t, Steps p.tables e below (s₁.setTop (mkF m 0 #[.val (.int p0), .val (.int p1), .unset, .unset, .unset, .unset] [])) t → Steps p.tables e below (s₁.setTop (entryFrame m #[(.int p0), (.int p1)] maxLocals)) t := fun t k => castTop (ef_0_II m p0 p1) k
  have G' := G
  obtain ⟨S_w_INT, E_w_INT, F_ordinal_w_INT, S_w_BYTE, E_w_BYTE, F_ordinal_w_BYTE, S_w_CHAR, E_w_CHAR, F_ordinal_w_CHAR, S_w_OBJECT, E_w_OBJECT, F_ordinal_w_OBJECT, S_w_FLOAT, E_w_FLOAT, F_ordinal_w_FLOAT, S_w_DOUBLE, E_w_DOUBLE, F_ordinal_w_DOUBLE, S_w_LONG, E_w_LONG, F_ordinal_w_LONG, S_w_SHORT, E_w_SHORT, F_ordinal_w_SHORT, S_w_BOOLEAN, E_w_BOOLEAN, F_ordinal_w_BOOLEAN⟩ := G'
  obtain ⟨_, _, ⟨T1, L1, k1, n1⟩, -, X1, ⟨Lc1, hQ1, l1, y1, z1⟩, st1⟩ := Jvm.LawKit.callS X0 hx (y := (⟨"com/example/refleash/refleash/hprof/BasicType", "of", "(I)Lcom/example/refleash/refleash/hprof/BasicType;"⟩ : MethodName)) hown (mvT hZ (hw _ (List.mem_of_getElem? (i := 0) rfl))) (mvT hZ (hw _ (List.mem_of_getElem? (i := 1) rfl))) (mvT hZ (hw _ (List.mem_of_getElem? (i := 2) rfl))) (mvT hZ (hw _ (List.mem_of_getElem? (i := 3) rfl))) (by decide) (backOf (W := 0) (c1_6 l Z a0 hw [] w_INT w_BYTE w_CHAR w_OBJECT w_FLOAT w_DOUBLE w_LONG w_SHORT w_BOOLEAN h0 n0 Z0 G) hZ (hw _ (List.mem_of_getElem? (i := 3) rfl)) (hw _ (List.mem_of_getElem? (i := 2) rfl)) (by decide) (by decide)) (g := (mkF m 18 #[.val (.int p0), .val (.int p1), .val (.int (9 : Int32)), .unset, .unset, .unset] [(.int (9 : Int32))])) rfl (by rw [hml]; rfl) (argsL := [(.int (9 : Int32))]) (rest := []) (lenOf pd__I_Lcom_example_refleash_refleash_hprof_BasicType_ rfl) rfl (by show 2 * 0 + _ ≤ _; exact Nat.le_of_eq rfl) (hb hby at_18) (fun _ _ => ⟨rfl, e0, (by decide : 0 + 0 ≤ _), (by decide : 0 + 0 ≤ _)⟩)
  dsimp only [Pt.U, Pt.locs, Pt.cells, Pt.slots] at X1 l1 y1 z1 st1 hQ1
  subst l1 y1 z1
  obtain ⟨rfl, N1q, e1⟩ := hQ1
  have N1 := Fr.app N0 N1q
  obtain ⟨cq2, kq2, q2a, q2b, q2c⟩ := isOf hZ e1 E_w_SHORT
  obtain ⟨_, _, ⟨T2, L2, k2, n2⟩, -, X2, ⟨Lc2, hQ2, l2, y2, z2⟩, st2⟩ := X1.virtualBackUp hx (x := (⟨"com/example/refleash/refleash/hprof/BasicType", "ordinal", "()I"⟩ : MethodName)) (y := (⟨"java/lang/Enum", "ordinal", "()I"⟩ : MethodName)) hown (mvT hZ (hw _ (List.mem_of_getElem? (i := 6) rfl))) (mvT hZ (hw _ (List.mem_of_getElem? (i := 7) rfl))) (mvT hZ (hw _ (List.mem_of_getElem? (i := 8) rfl))) (by decide) (mvT hZ (hw _ (List.mem_of_getElem? (i := 10) rfl))) (mvT hZ (hw _ (List.mem_of_getElem? (i := 9) rfl))) (backOf (W := 0) (c2_6 l Z a0 hw [] w_INT w_BYTE w_CHAR w_OBJECT w_FLOAT w_DOUBLE w_LONG w_SHORT w_BOOLEAN h0 n0 Z0 G) hZ (hw _ (List.mem_of_getElem? (i := 12) rfl)) (hw _ (List.mem_of_getElem? (i := 11) rfl)) (by decide) (by decide)) q2a q2c (g := (mkF m 81 #[.val (.int p0), .val (.int p1), .val (.int (9 : Int32)), .val (.ref w_SHORT), .val (.int (1 : Int32)), .val (.int (6 : Int32))] [(.ref w_SHORT)])) rfl (by rw [hml]; rfl) (Steps.refl _) (argsL := []) (rest := []) (lenOf pd___I rfl) rfl (by show 2 * 0 + _ ≤ _; exact Nat.le_of_eq rfl) (hb hby at_81) (fun _ _ => ⟨rfl, e1, (by decide : 0 + 0 ≤ _), (by decide : 0 + 0 ≤ _)⟩)
  dsimp only [Pt.U, Pt.locs, Pt.cells, Pt.slots] at X2 l2 y2 z2 st2 hQ2
  subst l2 y2 z2
  obtain ⟨rfl, N2q, e2⟩ := hQ2
  have N2 := Fr.app N1 N2q
  obtain ⟨fs, hr, hrun, hended, hW, hsame⟩ := X2.leave (v := some (.int (1 : Int32))) (fun h => by rw [Bd.returns] at h; cases h)
  refine ⟨_, _, pre0 _ ?_, hrun, hended, _, _, rfl, ?_, ⟨_, rfl⟩, hW, hsame.mono (by decide) (by decide)⟩
  · show Steps p.tables e below (s₁.setTop (mkF m 0 #[.val (.int p0), .val (.int p1), .unset, .unset, .unset, .unset] [])) _
    refine XS.iloadN X0.here hx rfl (hb hby at_0) rfl ?_
    show Steps p.tables e below (s₁.setTop (mkF m 1 #[.val (.int p0), .val (.int p1), .unset, .unset, .unset, .unset] [(.int p1)])) _
    refine XS.iconst X0.here hx rfl (hb hby at_1) ?_
    show Steps p.tables e below (s₁.setTop (mkF m 2 #[.val (.int p0), .val (.int p1), .unset, .unset, .unset, .unset] [(.int (1 : Int32)), (.int p1)])) _
    refine XS.iand X0.here hx rfl (hb hby at_2) rfl ?_
    show Steps p.tables e below (s₁.setTop (mkF m 3 #[.val (.int p0), .val (.int p1), .unset, .unset, .unset, .unset] [(.int (p1 &&& (1 : Int32)))])) _
    refine XS.ifYes X0.here hx rfl (pc0 := 3) (pc' := 10) rfl (hb hby at_3) rfl ((if0 _ _).trans (teq (hs : (p1 &&& (1 : Int32)) = (0 : Int32))).1) (by decide) (by decide) ?_
    show Steps p.tables e below (s₁.setTop (mkF m 10 #[.val (.int p0), .val (.int p1), .unset, .unset, .unset, .unset] [])) _
    refine XS.iloadN X0.here hx rfl (hb hby at_10) rfl ?_
    show Steps p.tables e below (s₁.setTop (mkF m 11 #[.val (.int p0), .val (.int p1), .unset, .unset, .unset, .unset] [(.int p1)])) _
    refine XS.iconst X0.here hx rfl (hb hby at_11) ?_
    show Steps p.tables e below (s₁.setTop (mkF m 12 #[.val (.int p0), .val (.int p1), .unset, .unset, .unset, .unset] [(.int (1 : Int32)), (.int p1)])) _
    refine XS.iushr X0.here hx rfl (hb hby at_12) rfl ?_
    show Steps p.tables e below (s₁.setTop (mkF m 13 #[.val (.int p0), .val (.int p1), .unset, .unset, .unset, .unset] [(.int ((p1.toUInt32 >>> ((1 : Int32) &&& 31).toUInt32).toInt32))])) _
    refine XS.bipush X0.here hx rfl (hb hby at_13) ?_
    show Steps p.tables e below (s₁.setTop (mkF m 15 #[.val (.int p0), .val (.int p1), .unset, .unset, .unset, .unset] [(.int (15 : Int32)), (.int ((p1.toUInt32 >>> ((1 : Int32) &&& 31).toUInt32).toInt32))])) _
    refine XS.iand X0.here hx rfl (hb hby at_15) rfl ?_
    show Steps p.tables e below (s₁.setTop (mkF m 16 #[.val (.int p0), .val (.int p1), .unset, .unset, .unset, .unset] [(.int (((p1.toUInt32 >>> ((1 : Int32) &&& 31).toUInt32).toInt32) &&& (15 : Int32)))])) _
    rw [hi9]
    show Steps p.tables e below (s₁.setTop (mkF m 16 #[.val (.int p0), .val (.int p1), .unset, .unset, .unset, .unset] [(.int (9 : Int32))])) _
    refine XS.istoreN X0.here hx rfl (hb hby at_16) rfl (l' := #[.val (.int p0), .val (.int p1), .val (.int (9 : Int32)), .unset, .unset, .unset]) rfl ?_
    show Steps p.tables e below (s₁.setTop (mkF m 17 #[.val (.int p0), .val (.int p1), .val (.int (9 : Int32)), .unset, .unset, .unset] [])) _
    refine XS.iloadN X0.here hx rfl (hb hby at_17) rfl ?_
    show Steps p.tables e below (s₁.setTop (mkF m 18 #[.val (.int p0), .val (.int p1), .val (.int (9 : Int32)), .unset, .unset, .unset] [(.int (9 : Int32))])) _
    refine st1 _ ?_
    show Steps p.tables e below (T1.setTop (mkF m 21 #[.val (.int p0), .val (.int p1), .val (.int (9 : Int32)), .unset, .unset, .unset] [(.ref w_SHORT)])) _
    refine XS.astoreN X1.here hx rfl (hb hby at_21) rfl rfl (l' := #[.val (.int p0), .val (.int p1), .val (.int (9 : Int32)), .val (.ref w_SHORT), .unset, .unset]) rfl ?_
    show Steps p.tables e below (T1.setTop (mkF m 22 #[.val (.int p0), .val (.int p1), .val (.int (9 : Int32)), .val (.ref w_SHORT), .unset, .unset] [])) _
    refine XS.iloadN X1.here hx rfl (hb hby at_22) rfl ?_
    show Steps p.tables e below (T1.setTop (mkF m 23 #[.val (.int p0), .val (.int p1), .val (.int (9 : Int32)), .val (.ref w_SHORT), .unset, .unset] [(.int (9 : Int32))])) _
    refine XS.iconst X1.here hx rfl (hb hby at_23) ?_
    show Steps p.tables e below (T1.setTop (mkF m 24 #[.val (.int p0), .val (.int p1), .val (.int (9 : Int32)), .val (.ref w_SHORT), .unset, .unset] [(.int (2 : Int32)), (.int (9 : Int32))])) _
    refine XS.icmpNo X1.here hx rfl (hb hby at_24) rfl (feq (by decide : ¬ ((9 : Int32) = (2 : Int32)))).1 ?_
    show Steps p.tables e below (T1.setTop (mkF m 27 #[.val (.int p0), .val (.int p1), .val (.int (9 : Int32)), .val (.ref w_SHORT), .unset, .unset] [])) _
    refine XS.iloadN X1.here hx rfl (hb hby at_27) rfl ?_
    show Steps p.tables e below (T1.setTop (mkF m 28 #[.val (.int p0), .val (.int p1), .val (.int (9 : Int32)), .val (.ref w_SHORT), .unset, .unset] [(.int (9 : Int32))])) _
    refine XS.iconst X1.here hx rfl (hb hby at_28) ?_
    show Steps p.tables e below (T1.setTop (mkF m 29 #[.val (.int p0), .val (.int p1), .val (.int (9 : Int32)), .val (.ref w_SHORT), .unset, .unset] [(.int (4 : Int32)), (.int (9 : Int32))])) _
    refine XS.icmpNo X1.here hx rfl (hb hby at_29) rfl (flt (by decide : ¬ ((9 : Int32) < (4 : Int32)))).1 ?_
    show Steps p.tables e below (T1.setTop (mkF m 32 #[.val (.int p0), .val (.int p1), .val (.int (9 : Int32)), .val (.ref w_SHORT), .unset, .unset] [])) _
    refine XS.iloadN X1.here hx rfl (hb hby at_32) rfl ?_
    show Steps p.tables e below (T1.setTop (mkF m 33 #[.val (.int p0), .val (.int p1), .val (.int (9 : Int32)), .val (.ref w_SHORT), .unset, .unset] [(.int (9 : Int32))])) _
    refine XS.bipush X1.here hx rfl (hb hby at_33) ?_
    show Steps p.tables e below (T1.setTop (mkF m 35 #[.val (.int p0), .val (.int p1), .val (.int (9 : Int32)), .val (.ref w_SHORT), .unset, .unset] [(.int (11 : Int32)), (.int (9 : Int32))])) _
    refine XS.icmpNo X1.here hx rfl (hb hby at_35) rfl (flt (by decide : ¬ ((11 : Int32) < (9 : Int32)))).2.2.1 ?_
    show Steps p.tables e below (T1.setTop (mkF m 38 #[.val (.int p0), .val (.int p1), .val (.int (9 : Int32)), .val (.ref w_SHORT), .unset, .unset] [])) _
    refine XS.iconst X1.here hx rfl (hb hby at_38) ?_
    show Steps p.tables e below (T1.setTop (mkF m 39 #[.val (.int p0), .val (.int p1), .val (.int (9 : Int32)), .val (.ref w_SHORT), .unset, .unset] [(.int (1 : Int32))])) _
    refine XS.goto X1.here hx rfl (pc0 := 39) (pc' := 43) rfl (hb hby at_39) (by decide) (by decide) ?_
    show Steps p.tables e below (T1.setTop (mkF m 43 #[.val (.int p0), .val (.int p1), .val (.int (9 : Int32)), .val (.ref w_SHORT), .unset, .unset] [(.int (1 : Int32))])) _
    refine XS.istore X1.here hx rfl (hb hby at_43) rfl (l' := #[.val (.int p0), .val (.int p1), .val (.int (9 : Int32)), .val (.ref w_SHORT), .val (.int (1 : Int32)), .unset]) rfl ?_
    show Steps p.tables e below (T1.setTop (mkF m 45 #[.val (.int p0), .val (.int p1), .val (.int (9 : Int32)), .val (.ref w_SHORT), .val (.int (1 : Int32)), .unset] [])) _
    refine XS.iload X1.here hx rfl (hb hby at_45) rfl ?_
    show Steps p.tables e below (T1.setTop (mkF m 47 #[.val (.int p0), .val (.int p1), .val (.int (9 : Int32)), .val (.ref w_SHORT), .val (.int (1 : Int32)), .unset] [(.int (1 : Int32))])) _
    refine XS.ifYes X1.here hx rfl (pc0 := 47) (pc' := 60) rfl (hb hby at_47) rfl ((if0 _ _).trans (feq (by decide : ¬ ((1 : Int32) = (0 : Int32)))).2) (by decide) (by decide) ?_
    show Steps p.tables e below (T1.setTop (mkF m 60 #[.val (.int p0), .val (.int p1), .val (.int (9 : Int32)), .val (.ref w_SHORT), .val (.int (1 : Int32)), .unset] [])) _
    refine XS.aloadN X1.here hx rfl (hb hby at_60) rfl rfl ?_
    show Steps p.tables e below (T1.setTop (mkF m 61 #[.val (.int p0), .val (.int p1), .val (.int (9 : Int32)), .val (.ref w_SHORT), .val (.int (1 : Int32)), .unset] [(.ref w_SHORT)])) _
    refine XS.ifnonnullYes X1.here hx rfl (pc0 := 61) (pc' := 66) rfl (hb hby at_61) rfl (by decide) (by decide) ?_
    show Steps p.tables e below (T1.setTop (mkF m 66 #[.val (.int p0), .val (.int p1), .val (.int (9 : Int32)), .val (.ref w_SHORT), .val (.int (1 : Int32)), .unset] [])) _
    refine XS.iloadN X1.here hx rfl (hb hby at_66) rfl ?_
    show Steps p.tables e below (T1.setTop (mkF m 67 #[.val (.int p0), .val (.int p1), .val (.int (9 : Int32)), .val (.ref w_SHORT), .val (.int (1 : Int32)), .unset] [(.int (9 : Int32))])) _
    refine XS.iconst X1.here hx rfl (hb hby at_67) ?_
    show Steps p.tables e below (T1.setTop (mkF m 68 #[.val (.int p0), .val (.int p1), .val (.int (9 : Int32)), .val (.ref w_SHORT), .val (.int (1 : Int32)), .unset] [(.int (2 : Int32)), (.int (9 : Int32))])) _
    refine XS.icmpYes X1.here hx rfl (pc0 := 68) (pc' := 75) rfl (hb hby at_68) rfl (feq (by decide : ¬ ((9 : Int32) = (2 : Int32)))).2 (by decide) (by decide) ?_
    show Steps p.tables e below (T1.setTop (mkF m 75 #[.val (.int p0), .val (.int p1), .val (.int (9 : Int32)), .val (.ref w_SHORT), .val (.int (1 : Int32)), .unset] [])) _
    refine XS.iloadN X1.here hx rfl (hb hby at_75) rfl ?_
    show Steps p.tables e below (T1.setTop (mkF m 76 #[.val (.int p0), .val (.int p1), .val (.int (9 : Int32)), .val (.ref w_SHORT), .val (.int (1 : Int32)), .unset] [(.int (9 : Int32))])) _
    refine XS.iconst X1.here hx rfl (hb hby at_76) ?_
    show Steps p.tables e below (T1.setTop (mkF m 77 #[.val (.int p0), .val (.int p1), .val (.int (9 : Int32)), .val (.ref w_SHORT), .val (.int (1 : Int32)), .unset] [(.int (3 : Int32)), (.int (9 : Int32))])) _
    refine XS.isub X1.here hx rfl (hb hby at_77) rfl ?_
    show Steps p.tables e below (T1.setTop (mkF m 78 #[.val (.int p0), .val (.int p1), .val (.int (9 : Int32)), .val (.ref w_SHORT), .val (.int (1 : Int32)), .unset] [(.int ((9 : Int32) - (3 : Int32)))])) _
    rw [(show ((9 : Int32) - (3 : Int32)) = (6 : Int32) from by decide)]
    show Steps p.tables e below (T1.setTop (mkF m 78 #[.val (.int p0), .val (.int p1), .val (.int (9 : Int32)), .val (.ref w_SHORT), .val (.int (1 : Int32)), .unset] [(.int (6 : Int32))])) _
    refine XS.istore X1.here hx rfl (hb hby at_78) rfl (l' := #[.val (.int p0), .val (.int p1), .val (.int (9 : Int32)), .val (.ref w_SHORT), .val (.int (1 : Int32)), .val (.int (6 : Int32))]) rfl ?_
    show Steps p.tables e below (T1.setTop (mkF m 80 #[.val (.int p0), .val (.int p1), .val (.int (9 : Int32)), .val (.ref w_SHORT), .val (.int (1 : Int32)), .val (.int (6 : Int32))] [])) _
    refine XS.aloadN X1.here hx rfl (hb hby at_80) rfl rfl ?_
    show Steps p.tables e below (T1.setTop (mkF m 81 #[.val (.int p0), .val (.int p1), .val (.int (9 : Int32)), .val (.ref w_SHORT), .val (.int (1 : Int32)), .val (.int (6 : Int32))] [(.ref w_SHORT)])) _
    refine st2.trans ?_
    show Steps p.tables e below (T2.setTop (mkF m 84 #[.val (.int p0), .val (.int p1), .val (.int (9 : Int32)), .val (.ref w_SHORT), .val (.int (1 : Int32)), .val (.int (6 : Int32))] [(.int (6 : Int32))])) _
    refine XS.iload X2.here hx rfl (hb hby at_84) rfl ?_
    show Steps p.tables e below (T2.setTop (mkF m 86 #[.val (.int p0), .val (.int p1), .val (.int (9 : Int32)), .val (.ref w_SHORT), .val (.int (1 : Int32)), .val (.int (6 : Int32))] [(.int (6 : Int32)), (.int (6 : Int32))])) _
    refine XS.icmpNo X2.here hx rfl (hb hby at_86) rfl (teq (by decide : (6 : Int32) = (6 : Int32))).2 ?_
    show Steps p.tables e below (T2.setTop (mkF m 89 #[.val (.int p0), .val (.int p1), .val (.int (9 : Int32)), .val (.ref w_SHORT), .val (.int (1 : Int32)), .val (.int (6 : Int32))] [])) _
    refine XS.iconst X2.here hx rfl (hb hby at_89) ?_
    show Steps p.tables e below (T2.setTop (mkF m 90 #[.val (.int p0), .val (.int p1), .val (.int (9 : Int32)), .val (.ref w_SHORT), .val (.int (1 : Int32)), .val (.int (6 : Int32))] [(.int (1 : Int32))])) _
    refine XS.goto X2.here hx rfl (pc0 := 90) (pc' := 94) rfl (hb hby at_90) (by decide) (by decide) ?_
    show Steps p.tables e below (T2.setTop (mkF m 94 #[.val (.int p0), .val (.int p1), .val (.int (9 : Int32)), .val (.ref w_SHORT), .val (.int (1 : Int32)), .val (.int (6 : Int32))] [(.int (1 : Int32))])) _
    exact retOut X2 hx Bd.returns rfl (Or.inl ⟨rfl, Or.inr (Or.inl rfl), _, rfl⟩) (hb hby at_94) hr
  · exact ⟨rfl, N2⟩
set_option maxRecDepth 65536 in
set_option maxHeartbeats 40000000 in
theorem sel_10 (l : Launch) (Z : State) (a0 : Array Value) (hw : ∀ d ∈ tables_1, d.before a0 Z = true) (ws : List Jvm.Cond) (w_INT : Addr) (w_BYTE : Addr) (w_CHAR : Addr) (w_OBJECT : Addr) (w_FLOAT : Addr) (w_DOUBLE : Addr) (w_LONG : Addr) (w_SHORT : Addr) (w_BOOLEAN : Addr) (h0 : Heap) (n0 : Nat) (Z0 : n0 ≤ h0.size) (G : Glob Z h0 w_INT w_BYTE w_CHAR w_OBJECT w_FLOAT w_DOUBLE w_LONG w_SHORT w_BOOLEAN) (p0 p1 : Int32) (hs : (p1 &&& (1 : Int32)) = (0 : Int32)) (hi10 : (((p1.toUInt32 >>> ((1 : Int32) &&& 31).toUInt32).toInt32) &&& (15 : Int32)) = (10 : Int32)) :
    MetFree l x (head1 (Jvm.Cond.code x code maxLocals ret :: ws) room_1) (fun a U => a = #[(.int p0), (.int p1)] ∧ Z.Warmed39 U.vm ∧ U.heap = h0) (fun _ _ _ _ _ => True) (fun _ U o U' => ∃ v L, o = .returned v ∧ QL (some (.int (1 : Int32))) h0 n0 v U'.heap L ∧ FrameEnd U o U' L room_1.cells room_1.slots) := by
  refine MetFree.of_bodySF (plainFor_of_name pn_com_example_refleash_refleash_hprof_BasicTypeOfPinLaw) hisR ?_
  intro p e s m args below meth c s₁ Bd hml0 hP hK
  obtain ⟨rfl, hZ, hh⟩ := hP
  have hx := Bd.exec
  have hby := Bd.bytes
  have hml : c.maxLocals = 6 := hml0
  have hown : s.vm.findClass "com/example/refleash/refleash/hprof/BasicTypeOfPinLaw" = some m.cls := findClass_of_methodNamed Bd.named
  have X0 : Stand p l e room_1 s m #[(.int p0), (.int p1)] below meth c s₁ [] 0 0 := Stand.of_body Bd
  have e0 : s₁.heap = h0 := by rw [← hh, Bd.state]; rfl
  have N0 := Fr.nil n0
  have pre0 : ∀ t, Steps p.tables e below (s₁.setTop (mkF m 0 #[.val (.int p0), .val (.int p1), .unset, .unset, .unset, .unset] [])) t → Steps p.tables e below (s₁.setTop (entryFrame m #[(.int p0), (.int p1)] maxLocals)) t := fun t k => castTop (ef_0_II m p0 p1) k
  have G' := G
  obtain ⟨S_w_INT, E_w_INT, F_ordinal_w_INT, S_w_BYTE, E_w_BYTE, F_ordinal_w_BYTE, S_w_CHAR, E_w_CHAR, F_ordinal_w_CHAR, S_w_OBJECT, E_w_OBJECT, F_ordinal_w_OBJECT, S_w_FLOAT, E_w_FLOAT, F_ordinal_w_FLOAT, S_w_DOUBLE, E_w_DOUBLE, F_ordinal_w_DOUBLE, S_w_LONG, E_w_LONG, F_ordinal_w_LONG, S_w_SHORT, E_w_SHORT, F_ordinal_w_SHORT, S_w_BOOLEAN, E_w_BOOLEAN, F_ordinal_w_BOOLEAN⟩ := G'
  obtain ⟨_, _, ⟨T1, L1, k1, n1⟩, -, X1, ⟨Lc1, hQ1, l1, y1, z1⟩, st1⟩ := Jvm.LawKit.callS X0 hx (y := (⟨"com/example/refleash/refleash/hprof/BasicType", "of", "(I)Lcom/example/refleash/refleash/hprof/BasicType;"⟩ : MethodName)) hown (mvT hZ (hw _ (List.mem_of_getElem? (i := 0) rfl))) (mvT hZ (hw _ (List.mem_of_getElem? (i := 1) rfl))) (mvT hZ (hw _ (List.mem_of_getElem? (i := 2) rfl))) (mvT hZ (hw _ (List.mem_of_getElem? (i := 3) rfl))) (by decide) (backOf (W := 0) (c1_7 l Z a0 hw [] w_INT w_BYTE w_CHAR w_OBJECT w_FLOAT w_DOUBLE w_LONG w_SHORT w_BOOLEAN h0 n0 Z0 G) hZ (hw _ (List.mem_of_getElem? (i := 3) rfl)) (hw _ (List.mem_of_getElem? (i := 2) rfl)) (by decide) (by decide)) (g := (mkF m 18 #[.val (.int p0), .val (.int p1), .val (.int (10 : Int32)), .unset, .unset, .unset] [(.int (10 : Int32))])) rfl (by rw [hml]; rfl) (argsL := [(.int (10 : Int32))]) (rest := []) (lenOf pd__I_Lcom_example_refleash_refleash_hprof_BasicType_ rfl) rfl (by show 2 * 0 + _ ≤ _; exact Nat.le_of_eq rfl) (hb hby at_18) (fun _ _ => ⟨rfl, e0, (by decide : 0 + 0 ≤ _), (by decide : 0 + 0 ≤ _)⟩)
  dsimp only [Pt.U, Pt.locs, Pt.cells, Pt.slots] at X1 l1 y1 z1 st1 hQ1
  subst l1 y1 z1
  obtain ⟨rfl, N1q, e1⟩ := hQ1
  have N1 := Fr.app N0 N1q
  obtain ⟨cq2, kq2, q2a, q2b, q2c⟩ := isOf hZ e1 E_w_INT
  obtain ⟨_, _, ⟨T2, L2, k2, n2⟩, -, X2, ⟨Lc2, hQ2, l2, y2, z2⟩, st2⟩ := X1.virtualBackUp hx (x := (⟨"com/example/refleash/refleash/hprof/BasicType", "ordinal", "()I"⟩ : MethodName)) (y := (⟨"java/lang/Enum", "ordinal", "()I"⟩ : MethodName)) hown (mvT hZ (hw _ (List.mem_of_getElem? (i := 6) rfl))) (mvT hZ (hw _ (List.mem_of_getElem? (i := 7) rfl))) (mvT hZ (hw _ (List.mem_of_getElem? (i := 8) rfl))) (by decide) (mvT hZ (hw _ (List.mem_of_getElem? (i := 10) rfl))) (mvT hZ (hw _ (List.mem_of_getElem? (i := 9) rfl))) (backOf (W := 0) (c2_7 l Z a0 hw [] w_INT w_BYTE w_CHAR w_OBJECT w_FLOAT w_DOUBLE w_LONG w_SHORT w_BOOLEAN h0 n0 Z0 G) hZ (hw _ (List.mem_of_getElem? (i := 12) rfl)) (hw _ (List.mem_of_getElem? (i := 11) rfl)) (by decide) (by decide)) q2a q2c (g := (mkF m 81 #[.val (.int p0), .val (.int p1), .val (.int (10 : Int32)), .val (.ref w_INT), .val (.int (1 : Int32)), .val (.int (7 : Int32))] [(.ref w_INT)])) rfl (by rw [hml]; rfl) (Steps.refl _) (argsL := []) (rest := []) (lenOf pd___I rfl) rfl (by show 2 * 0 + _ ≤ _; exact Nat.le_of_eq rfl) (hb hby at_81) (fun _ _ => ⟨rfl, e1, (by decide : 0 + 0 ≤ _), (by decide : 0 + 0 ≤ _)⟩)
  dsimp only [Pt.U, Pt.locs, Pt.cells, Pt.slots] at X2 l2 y2 z2 st2 hQ2
  subst l2 y2 z2
  obtain ⟨rfl, N2q, e2⟩ := hQ2
  have N2 := Fr.app N1 N2q
  obtain ⟨fs, hr, hrun, hended, hW, hsame⟩ := X2.leave (v := some (.int (1 : Int32))) (fun h => by rw [Bd.returns] at h; cases h)
  refine ⟨_, _, pre0 _ ?_, hrun, hended, _, _, rfl, ?_, ⟨_, rfl⟩, hW, hsame.mono (by decide) (by decide)⟩
  · show Steps p.tables e below (s₁.setTop (mkF m 0 #[.val (.int p0), .val (.int p1), .unset, .unset, .unset, .unset] [])) _
    refine XS.iloadN X0.here hx rfl (hb hby at_0) rfl ?_
    show Steps p.tables e below (s₁.setTop (mkF m 1 #[.val (.int p0), .val (.int p1), .unset, .unset, .unset, .unset] [(.int p1)])) _
    refine XS.iconst X0.here hx rfl (hb hby at_1) ?_
    show Steps p.tables e below (s₁.setTop (mkF m 2 #[.val (.int p0), .val (.int p1), .unset, .unset, .unset, .unset] [(.int (1 : Int32)), (.int p1)])) _
    refine XS.iand X0.here hx rfl (hb hby at_2) rfl ?_
    show Steps p.tables e below (s₁.setTop (mkF m 3 #[.val (.int p0), .val (.int p1), .unset, .unset, .unset, .unset] [(.int (p1 &&& (1 : Int32)))])) _
    refine XS.ifYes X0.here hx rfl (pc0 := 3) (pc' := 10) rfl (hb hby at_3) rfl ((if0 _ _).trans (teq (hs : (p1 &&& (1 : Int32)) = (0 : Int32))).1) (by decide) (by decide) ?_
    show Steps p.tables e below (s₁.setTop (mkF m 10 #[.val (.int p0), .val (.int p1), .unset, .unset, .unset, .unset] [])) _
    refine XS.iloadN X0.here hx rfl (hb hby at_10) rfl ?_
    show Steps p.tables e below (s₁.setTop (mkF m 11 #[.val (.int p0), .val (.int p1), .unset, .unset, .unset, .unset] [(.int p1)])) _
    refine XS.iconst X0.here hx rfl (hb hby at_11) ?_
    show Steps p.tables e below (s₁.setTop (mkF m 12 #[.val (.int p0), .val (.int p1), .unset, .unset, .unset, .unset] [(.int (1 : Int32)), (.int p1)])) _
    refine XS.iushr X0.here hx rfl (hb hby at_12) rfl ?_
    show Steps p.tables e below (s₁.setTop (mkF m 13 #[.val (.int p0), .val (.int p1), .unset, .unset, .unset, .unset] [(.int ((p1.toUInt32 >>> ((1 : Int32) &&& 31).toUInt32).toInt32))])) _
    refine XS.bipush X0.here hx rfl (hb hby at_13) ?_
    show Steps p.tables e below (s₁.setTop (mkF m 15 #[.val (.int p0), .val (.int p1), .unset, .unset, .unset, .unset] [(.int (15 : Int32)), (.int ((p1.toUInt32 >>> ((1 : Int32) &&& 31).toUInt32).toInt32))])) _
    refine XS.iand X0.here hx rfl (hb hby at_15) rfl ?_
    show Steps p.tables e below (s₁.setTop (mkF m 16 #[.val (.int p0), .val (.int p1), .unset, .unset, .unset, .unset] [(.int (((p1.toUInt32 >>> ((1 : Int32) &&& 31).toUInt32).toInt32) &&& (15 : Int32)))])) _
    rw [hi10]
    show Steps p.tables e below (s₁.setTop (mkF m 16 #[.val (.int p0), .val (.int p1), .unset, .unset, .unset, .unset] [(.int (10 : Int32))])) _
    refine XS.istoreN X0.here hx rfl (hb hby at_16) rfl (l' := #[.val (.int p0), .val (.int p1), .val (.int (10 : Int32)), .unset, .unset, .unset]) rfl ?_
    show Steps p.tables e below (s₁.setTop (mkF m 17 #[.val (.int p0), .val (.int p1), .val (.int (10 : Int32)), .unset, .unset, .unset] [])) _
    refine XS.iloadN X0.here hx rfl (hb hby at_17) rfl ?_
    show Steps p.tables e below (s₁.setTop (mkF m 18 #[.val (.int p0), .val (.int p1), .val (.int (10 : Int32)), .unset, .unset, .unset] [(.int (10 : Int32))])) _
    refine st1 _ ?_
    show Steps p.tables e below (T1.setTop (mkF m 21 #[.val (.int p0), .val (.int p1), .val (.int (10 : Int32)), .unset, .unset, .unset] [(.ref w_INT)])) _
    refine XS.astoreN X1.here hx rfl (hb hby at_21) rfl rfl (l' := #[.val (.int p0), .val (.int p1), .val (.int (10 : Int32)), .val (.ref w_INT), .unset, .unset]) rfl ?_
    show Steps p.tables e below (T1.setTop (mkF m 22 #[.val (.int p0), .val (.int p1), .val (.int (10 : Int32)), .val (.ref w_INT), .unset, .unset] [])) _
    refine XS.iloadN X1.here hx rfl (hb hby at_22) rfl ?_
    show Steps p.tables e below (T1.setTop (mkF m 23 #[.val (.int p0), .val (.int p1), .val (.int (10 : Int32)), .val (.ref w_INT), .unset, .unset] [(.int (10 : Int32))])) _
    refine XS.iconst X1.here hx rfl (hb hby at_23) ?_
    show Steps p.tables e below (T1.setTop (mkF m 24 #[.val (.int p0), .val (.int p1), .val (.int (10 : Int32)), .val (.ref w_INT), .unset, .unset] [(.int (2 : Int32)), (.int (10 : Int32))])) _
    refine XS.icmpNo X1.here hx rfl (hb hby at_24) rfl (feq (by decide : ¬ ((10 : Int32) = (2 : Int32)))).1 ?_
    show Steps p.tables e below (T1.setTop (mkF m 27 #[.val (.int p0), .val (.int p1), .val (.int (10 : Int32)), .val (.ref w_INT), .unset, .unset] [])) _
    refine XS.iloadN X1.here hx rfl (hb hby at_27) rfl ?_
    show Steps p.tables e below (T1.setTop (mkF m 28 #[.val (.int p0), .val (.int p1), .val (.int (10 : Int32)), .val (.ref w_INT), .unset, .unset] [(.int (10 : Int32))])) _
    refine XS.iconst X1.here hx rfl (hb hby at_28) ?_
    show Steps p.tables e below (T1.setTop (mkF m 29 #[.val (.int p0), .val (.int p1), .val (.int (10 : Int32)), .val (.ref w_INT), .unset, .unset] [(.int (4 : Int32)), (.int (10 : Int32))])) _
    refine XS.icmpNo X1.here hx rfl (hb hby at_29) rfl (flt (by decide : ¬ ((10 : Int32) < (4 : Int32)))).1 ?_
    show Steps p.tables e below (T1.setTop (mkF m 32 #[.val (.int p0), .val (.int p1), .val (.int (10 : Int32)), .val (.ref w_INT), .unset, .unset] [])) _
    refine XS.iloadN X1.here hx rfl (hb hby at_32) rfl ?_
    show Steps p.tables e below (T1.setTop (mkF m 33 #[.val (.int p0), .val (.int p1), .val (.int (10 : Int32)), .val (.ref w_INT), .unset, .unset] [(.int (10 : Int32))])) _
    refine XS.bipush X1.here hx rfl (hb hby at_33) ?_
    show Steps p.tables e below (T1.setTop (mkF m 35 #[.val (.int p0), .val (.int p1), .val (.int (10 : Int32)), .val (.ref w_INT), .unset, .unset] [(.int (11 : Int32)), (.int (10 : Int32))])) _
    refine XS.icmpNo X1.here hx rfl (hb hby at_35) rfl (flt (by decide : ¬ ((11 : Int32) < (10 : Int32)))).2.2.1 ?_
    show Steps p.tables e below (T1.setTop (mkF m 38 #[.val (.int p0), .val (.int p1), .val (.int (10 : Int32)), .val (.ref w_INT), .unset, .unset] [])) _
    refine XS.iconst X1.here hx rfl (hb hby at_38) ?_
    show Steps p.tables e below (T1.setTop (mkF m 39 #[.val (.int p0), .val (.int p1), .val (.int (10 : Int32)), .val (.ref w_INT), .unset, .unset] [(.int (1 : Int32))])) _
    refine XS.goto X1.here hx rfl (pc0 := 39) (pc' := 43) rfl (hb hby at_39) (by decide) (by decide) ?_
    show Steps p.tables e below (T1.setTop (mkF m 43 #[.val (.int p0), .val (.int p1), .val (.int (10 : Int32)), .val (.ref w_INT), .unset, .unset] [(.int (1 : Int32))])) _
    refine XS.istore X1.here hx rfl (hb hby at_43) rfl (l' := #[.val (.int p0), .val (.int p1), .val (.int (10 : Int32)), .val (.ref w_INT), .val (.int (1 : Int32)), .unset]) rfl ?_
    show Steps p.tables e below (T1.setTop (mkF m 45 #[.val (.int p0), .val (.int p1), .val (.int (10 : Int32)), .val (.ref w_INT), .val (.int (1 : Int32)), .unset] [])) _
    refine XS.iload X1.here hx rfl (hb hby at_45) rfl ?_
    show Steps p.tables e below (T1.setTop (mkF m 47 #[.val (.int p0), .val (.int p1), .val (.int (10 : Int32)), .val (.ref w_INT), .val (.int (1 : Int32)), .unset] [(.int (1 : Int32))])) _
    refine XS.ifYes X1.here hx rfl (pc0 := 47) (pc' := 60) rfl (hb hby at_47) rfl ((if0 _ _).trans (feq (by decide : ¬ ((1 : Int32) = (0 : Int32)))).2) (by decide) (by decide) ?_
    show Steps p.tables e below (T1.setTop (mkF m 60 #[.val (.int p0), .val (.int p1), .val (.int (10 : Int32)), .val (.ref w_INT), .val (.int (1 : Int32)), .unset] [])) _
    refine XS.aloadN X1.here hx rfl (hb hby at_60) rfl rfl ?_
    show Steps p.tables e below (T1.setTop (mkF m 61 #[.val (.int p0), .val (.int p1), .val (.int (10 : Int32)), .val (.ref w_INT), .val (.int (1 : Int32)), .unset] [(.ref w_INT)])) _
    refine XS.ifnonnullYes X1.here hx rfl (pc0 := 61) (pc' := 66) rfl (hb hby at_61) rfl (by decide) (by decide) ?_
    show Steps p.tables e below (T1.setTop (mkF m 66 #[.val (.int p0), .val (.int p1), .val (.int (10 : Int32)), .val (.ref w_INT), .val (.int (1 : Int32)), .unset] [])) _
    refine XS.iloadN X1.here hx rfl (hb hby at_66) rfl ?_
    show Steps p.tables e below (T1.setTop (mkF m 67 #[.val (.int p0), .val (.int p1), .val (.int (10 : Int32)), .val (.ref w_INT), .val (.int (1 : Int32)), .unset] [(.int (10 : Int32))])) _
    refine XS.iconst X1.here hx rfl (hb hby at_67) ?_
    show Steps p.tables e below (T1.setTop (mkF m 68 #[.val (.int p0), .val (.int p1), .val (.int (10 : Int32)), .val (.ref w_INT), .val (.int (1 : Int32)), .unset] [(.int (2 : Int32)), (.int (10 : Int32))])) _
    refine XS.icmpYes X1.here hx rfl (pc0 := 68) (pc' := 75) rfl (hb hby at_68) rfl (feq (by decide : ¬ ((10 : Int32) = (2 : Int32)))).2 (by decide) (by decide) ?_
    show Steps p.tables e below (T1.setTop (mkF m 75 #[.val (.int p0), .val (.int p1), .val (.int (10 : Int32)), .val (.ref w_INT), .val (.int (1 : Int32)), .unset] [])) _
    refine XS.iloadN X1.here hx rfl (hb hby at_75) rfl ?_
    show Steps p.tables e below (T1.setTop (mkF m 76 #[.val (.int p0), .val (.int p1), .val (.int (10 : Int32)), .val (.ref w_INT), .val (.int (1 : Int32)), .unset] [(.int (10 : Int32))])) _
    refine XS.iconst X1.here hx rfl (hb hby at_76) ?_
    show Steps p.tables e below (T1.setTop (mkF m 77 #[.val (.int p0), .val (.int p1), .val (.int (10 : Int32)), .val (.ref w_INT), .val (.int (1 : Int32)), .unset] [(.int (3 : Int32)), (.int (10 : Int32))])) _
    refine XS.isub X1.here hx rfl (hb hby at_77) rfl ?_
    show Steps p.tables e below (T1.setTop (mkF m 78 #[.val (.int p0), .val (.int p1), .val (.int (10 : Int32)), .val (.ref w_INT), .val (.int (1 : Int32)), .unset] [(.int ((10 : Int32) - (3 : Int32)))])) _
    rw [(show ((10 : Int32) - (3 : Int32)) = (7 : Int32) from by decide)]
    show Steps p.tables e below (T1.setTop (mkF m 78 #[.val (.int p0), .val (.int p1), .val (.int (10 : Int32)), .val (.ref w_INT), .val (.int (1 : Int32)), .unset] [(.int (7 : Int32))])) _
    refine XS.istore X1.here hx rfl (hb hby at_78) rfl (l' := #[.val (.int p0), .val (.int p1), .val (.int (10 : Int32)), .val (.ref w_INT), .val (.int (1 : Int32)), .val (.int (7 : Int32))]) rfl ?_
    show Steps p.tables e below (T1.setTop (mkF m 80 #[.val (.int p0), .val (.int p1), .val (.int (10 : Int32)), .val (.ref w_INT), .val (.int (1 : Int32)), .val (.int (7 : Int32))] [])) _
    refine XS.aloadN X1.here hx rfl (hb hby at_80) rfl rfl ?_
    show Steps p.tables e below (T1.setTop (mkF m 81 #[.val (.int p0), .val (.int p1), .val (.int (10 : Int32)), .val (.ref w_INT), .val (.int (1 : Int32)), .val (.int (7 : Int32))] [(.ref w_INT)])) _
    refine st2.trans ?_
    show Steps p.tables e below (T2.setTop (mkF m 84 #[.val (.int p0), .val (.int p1), .val (.int (10 : Int32)), .val (.ref w_INT), .val (.int (1 : Int32)), .val (.int (7 : Int32))] [(.int (7 : Int32))])) _
    refine XS.iload X2.here hx rfl (hb hby at_84) rfl ?_
    show Steps p.tables e below (T2.setTop (mkF m 86 #[.val (.int p0), .val (.int p1), .val (.int (10 : Int32)), .val (.ref w_INT), .val (.int (1 : Int32)), .val (.int (7 : Int32))] [(.int (7 : Int32)), (.int (7 : Int32))])) _
    refine XS.icmpNo X2.here hx rfl (hb hby at_86) rfl (teq (by decide : (7 : Int32) = (7 : Int32))).2 ?_
    show Steps p.tables e below (T2.setTop (mkF m 89 #[.val (.int p0), .val (.int p1), .val (.int (10 : Int32)), .val (.ref w_INT), .val (.int (1 : Int32)), .val (.int (7 : Int32))] [])) _
    refine XS.iconst X2.here hx rfl (hb hby at_89) ?_
    show Steps p.tables e below (T2.setTop (mkF m 90 #[.val (.int p0), .val (.int p1), .val (.int (10 : Int32)), .val (.ref w_INT), .val (.int (1 : Int32)), .val (.int (7 : Int32))] [(.int (1 : Int32))])) _
    refine XS.goto X2.here hx rfl (pc0 := 90) (pc' := 94) rfl (hb hby at_90) (by decide) (by decide) ?_
    show Steps p.tables e below (T2.setTop (mkF m 94 #[.val (.int p0), .val (.int p1), .val (.int (10 : Int32)), .val (.ref w_INT), .val (.int (1 : Int32)), .val (.int (7 : Int32))] [(.int (1 : Int32))])) _
    exact retOut X2 hx Bd.returns rfl (Or.inl ⟨rfl, Or.inr (Or.inl rfl), _, rfl⟩) (hb hby at_94) hr
  · exact ⟨rfl, N2⟩
set_option maxRecDepth 65536 in
set_option maxHeartbeats 40000000 in
theorem sel_11 (l : Launch) (Z : State) (a0 : Array Value) (hw : ∀ d ∈ tables_1, d.before a0 Z = true) (ws : List Jvm.Cond) (w_INT : Addr) (w_BYTE : Addr) (w_CHAR : Addr) (w_OBJECT : Addr) (w_FLOAT : Addr) (w_DOUBLE : Addr) (w_LONG : Addr) (w_SHORT : Addr) (w_BOOLEAN : Addr) (h0 : Heap) (n0 : Nat) (Z0 : n0 ≤ h0.size) (G : Glob Z h0 w_INT w_BYTE w_CHAR w_OBJECT w_FLOAT w_DOUBLE w_LONG w_SHORT w_BOOLEAN) (p0 p1 : Int32) (hs : (p1 &&& (1 : Int32)) = (0 : Int32)) (hi11 : (((p1.toUInt32 >>> ((1 : Int32) &&& 31).toUInt32).toInt32) &&& (15 : Int32)) = (11 : Int32)) :
    MetFree l x (head1 (Jvm.Cond.code x code maxLocals ret :: ws) room_1) (fun a U => a = #[(.int p0), (.int p1)] ∧ Z.Warmed39 U.vm ∧ U.heap = h0) (fun _ _ _ _ _ => True) (fun _ U o U' => ∃ v L, o = .returned v ∧ QL (some (.int (1 : Int32))) h0 n0 v U'.heap L ∧ FrameEnd U o U' L room_1.cells room_1.slots) := by
  refine MetFree.of_bodySF (plainFor_of_name pn_com_example_refleash_refleash_hprof_BasicTypeOfPinLaw) hisR ?_
  intro p e s m args below meth c s₁ Bd hml0 hP hK
  obtain ⟨rfl, hZ, hh⟩ := hP
  have hx := Bd.exec
  have hby := Bd.bytes
  have hml : c.maxLocals = 6 := hml0
  have hown : s.vm.findClass "com/example/refleash/refleash/hprof/BasicTypeOfPinLaw" = some m.cls := findClass_of_methodNamed Bd.named
  have X0 : Stand p l e room_1 s m #[(.int p0), (.int p1)] below meth c s₁ [] 0 0 := Stand.of_body Bd
  have e0 : s₁.heap = h0 := by rw [← hh, Bd.state]; rfl
  have N0 := Fr.nil n0
  have pre0 : ∀ t, Steps p.tables e below (s₁.setTop (mkF m 0 #[.val (.int p0), .val (.int p1), .unset, .unset, .unset, .unset] [])) t → Steps p.tables e below (s₁.setTop (entryFrame m #[(.int p0), (.int p1)] maxLocals)) t := fun t k => castTop (ef_0_II m p0 p1) k
  have G' := G
  obtain ⟨S_w_INT, E_w_INT, F_ordinal_w_INT, S_w_BYTE, E_w_BYTE, F_ordinal_w_BYTE, S_w_CHAR, E_w_CHAR, F_ordinal_w_CHAR, S_w_OBJECT, E_w_OBJECT, F_ordinal_w_OBJECT, S_w_FLOAT, E_w_FLOAT, F_ordinal_w_FLOAT, S_w_DOUBLE, E_w_DOUBLE, F_ordinal_w_DOUBLE, S_w_LONG, E_w_LONG, F_ordinal_w_LONG, S_w_SHORT, E_w_SHORT, F_ordinal_w_SHORT, S_w_BOOLEAN, E_w_BOOLEAN, F_ordinal_w_BOOLEAN⟩ := G'
  obtain ⟨_, _, ⟨T1, L1, k1, n1⟩, -, X1, ⟨Lc1, hQ1, l1, y1, z1⟩, st1⟩ := Jvm.LawKit.callS X0 hx (y := (⟨"com/example/refleash/refleash/hprof/BasicType", "of", "(I)Lcom/example/refleash/refleash/hprof/BasicType;"⟩ : MethodName)) hown (mvT hZ (hw _ (List.mem_of_getElem? (i := 0) rfl))) (mvT hZ (hw _ (List.mem_of_getElem? (i := 1) rfl))) (mvT hZ (hw _ (List.mem_of_getElem? (i := 2) rfl))) (mvT hZ (hw _ (List.mem_of_getElem? (i := 3) rfl))) (by decide) (backOf (W := 0) (c1_8 l Z a0 hw [] w_INT w_BYTE w_CHAR w_OBJECT w_FLOAT w_DOUBLE w_LONG w_SHORT w_BOOLEAN h0 n0 Z0 G) hZ (hw _ (List.mem_of_getElem? (i := 3) rfl)) (hw _ (List.mem_of_getElem? (i := 2) rfl)) (by decide) (by decide)) (g := (mkF m 18 #[.val (.int p0), .val (.int p1), .val (.int (11 : Int32)), .unset, .unset, .unset] [(.int (11 : Int32))])) rfl (by rw [hml]; rfl) (argsL := [(.int (11 : Int32))]) (rest := []) (lenOf pd__I_Lcom_example_refleash_refleash_hprof_BasicType_ rfl) rfl (by show 2 * 0 + _ ≤ _; exact Nat.le_of_eq rfl) (hb hby at_18) (fun _ _ => ⟨rfl, e0, (by decide : 0 + 0 ≤ _), (by decide : 0 + 0 ≤ _)⟩)
  dsimp only [Pt.U, Pt.locs, Pt.cells, Pt.slots] at X1 l1 y1 z1 st1 hQ1
  subst l1 y1 z1
  obtain ⟨rfl, N1q, e1⟩ := hQ1
  have N1 := Fr.app N0 N1q
  obtain ⟨cq2, kq2, q2a, q2b, q2c⟩ := isOf hZ e1 E_w_LONG
  obtain ⟨_, _, ⟨T2, L2, k2, n2⟩, -, X2, ⟨Lc2, hQ2, l2, y2, z2⟩, st2⟩ := X1.virtualBackUp hx (x := (⟨"com/example/refleash/refleash/hprof/BasicType", "ordinal", "()I"⟩ : MethodName)) (y := (⟨"java/lang/Enum", "ordinal", "()I"⟩ : MethodName)) hown (mvT hZ (hw _ (List.mem_of_getElem? (i := 6) rfl))) (mvT hZ (hw _ (List.mem_of_getElem? (i := 7) rfl))) (mvT hZ (hw _ (List.mem_of_getElem? (i := 8) rfl))) (by decide) (mvT hZ (hw _ (List.mem_of_getElem? (i := 10) rfl))) (mvT hZ (hw _ (List.mem_of_getElem? (i := 9) rfl))) (backOf (W := 0) (c2_8 l Z a0 hw [] w_INT w_BYTE w_CHAR w_OBJECT w_FLOAT w_DOUBLE w_LONG w_SHORT w_BOOLEAN h0 n0 Z0 G) hZ (hw _ (List.mem_of_getElem? (i := 12) rfl)) (hw _ (List.mem_of_getElem? (i := 11) rfl)) (by decide) (by decide)) q2a q2c (g := (mkF m 81 #[.val (.int p0), .val (.int p1), .val (.int (11 : Int32)), .val (.ref w_LONG), .val (.int (1 : Int32)), .val (.int (8 : Int32))] [(.ref w_LONG)])) rfl (by rw [hml]; rfl) (Steps.refl _) (argsL := []) (rest := []) (lenOf pd___I rfl) rfl (by show 2 * 0 + _ ≤ _; exact Nat.le_of_eq rfl) (hb hby at_81) (fun _ _ => ⟨rfl, e1, (by decide : 0 + 0 ≤ _), (by decide : 0 + 0 ≤ _)⟩)
  dsimp only [Pt.U, Pt.locs, Pt.cells, Pt.slots] at X2 l2 y2 z2 st2 hQ2
  subst l2 y2 z2
  obtain ⟨rfl, N2q, e2⟩ := hQ2
  have N2 := Fr.app N1 N2q
  obtain ⟨fs, hr, hrun, hended, hW, hsame⟩ := X2.leave (v := some (.int (1 : Int32))) (fun h => by rw [Bd.returns] at h; cases h)
  refine ⟨_, _, pre0 _ ?_, hrun, hended, _, _, rfl, ?_, ⟨_, rfl⟩, hW, hsame.mono (by decide) (by decide)⟩
  · show Steps p.tables e below (s₁.setTop (mkF m 0 #[.val (.int p0), .val (.int p1), .unset, .unset, .unset, .unset] [])) _
    refine XS.iloadN X0.here hx rfl (hb hby at_0) rfl ?_
    show Steps p.tables e below (s₁.setTop (mkF m 1 #[.val (.int p0), .val (.int p1), .unset, .unset, .unset, .unset] [(.int p1)])) _
    refine XS.iconst X0.here hx rfl (hb hby at_1) ?_
    show Steps p.tables e below (s₁.setTop (mkF m 2 #[.val (.int p0), .val (.int p1), .unset, .unset, .unset, .unset] [(.int (1 : Int32)), (.int p1)])) _
    refine XS.iand X0.here hx rfl (hb hby at_2) rfl ?_
    show Steps p.tables e below (s₁.setTop (mkF m 3 #[.val (.int p0), .val (.int p1), .unset, .unset, .unset, .unset] [(.int (p1 &&& (1 : Int32)))])) _
    refine XS.ifYes X0.here hx rfl (pc0 := 3) (pc' := 10) rfl (hb hby at_3) rfl ((if0 _ _).trans (teq (hs : (p1 &&& (1 : Int32)) = (0 : Int32))).1) (by decide) (by decide) ?_
    show Steps p.tables e below (s₁.setTop (mkF m 10 #[.val (.int p0), .val (.int p1), .unset, .unset, .unset, .unset] [])) _
    refine XS.iloadN X0.here hx rfl (hb hby at_10) rfl ?_
    show Steps p.tables e below (s₁.setTop (mkF m 11 #[.val (.int p0), .val (.int p1), .unset, .unset, .unset, .unset] [(.int p1)])) _
    refine XS.iconst X0.here hx rfl (hb hby at_11) ?_
    show Steps p.tables e below (s₁.setTop (mkF m 12 #[.val (.int p0), .val (.int p1), .unset, .unset, .unset, .unset] [(.int (1 : Int32)), (.int p1)])) _
    refine XS.iushr X0.here hx rfl (hb hby at_12) rfl ?_
    show Steps p.tables e below (s₁.setTop (mkF m 13 #[.val (.int p0), .val (.int p1), .unset, .unset, .unset, .unset] [(.int ((p1.toUInt32 >>> ((1 : Int32) &&& 31).toUInt32).toInt32))])) _
    refine XS.bipush X0.here hx rfl (hb hby at_13) ?_
    show Steps p.tables e below (s₁.setTop (mkF m 15 #[.val (.int p0), .val (.int p1), .unset, .unset, .unset, .unset] [(.int (15 : Int32)), (.int ((p1.toUInt32 >>> ((1 : Int32) &&& 31).toUInt32).toInt32))])) _
    refine XS.iand X0.here hx rfl (hb hby at_15) rfl ?_
    show Steps p.tables e below (s₁.setTop (mkF m 16 #[.val (.int p0), .val (.int p1), .unset, .unset, .unset, .unset] [(.int (((p1.toUInt32 >>> ((1 : Int32) &&& 31).toUInt32).toInt32) &&& (15 : Int32)))])) _
    rw [hi11]
    show Steps p.tables e below (s₁.setTop (mkF m 16 #[.val (.int p0), .val (.int p1), .unset, .unset, .unset, .unset] [(.int (11 : Int32))])) _
    refine XS.istoreN X0.here hx rfl (hb hby at_16) rfl (l' := #[.val (.int p0), .val (.int p1), .val (.int (11 : Int32)), .unset, .unset, .unset]) rfl ?_
    show Steps p.tables e below (s₁.setTop (mkF m 17 #[.val (.int p0), .val (.int p1), .val (.int (11 : Int32)), .unset, .unset, .unset] [])) _
    refine XS.iloadN X0.here hx rfl (hb hby at_17) rfl ?_
    show Steps p.tables e below (s₁.setTop (mkF m 18 #[.val (.int p0), .val (.int p1), .val (.int (11 : Int32)), .unset, .unset, .unset] [(.int (11 : Int32))])) _
    refine st1 _ ?_
    show Steps p.tables e below (T1.setTop (mkF m 21 #[.val (.int p0), .val (.int p1), .val (.int (11 : Int32)), .unset, .unset, .unset] [(.ref w_LONG)])) _
    refine XS.astoreN X1.here hx rfl (hb hby at_21) rfl rfl (l' := #[.val (.int p0), .val (.int p1), .val (.int (11 : Int32)), .val (.ref w_LONG), .unset, .unset]) rfl ?_
    show Steps p.tables e below (T1.setTop (mkF m 22 #[.val (.int p0), .val (.int p1), .val (.int (11 : Int32)), .val (.ref w_LONG), .unset, .unset] [])) _
    refine XS.iloadN X1.here hx rfl (hb hby at_22) rfl ?_
    show Steps p.tables e below (T1.setTop (mkF m 23 #[.val (.int p0), .val (.int p1), .val (.int (11 : Int32)), .val (.ref w_LONG), .unset, .unset] [(.int (11 : Int32))])) _
    refine XS.iconst X1.here hx rfl (hb hby at_23) ?_
    show Steps p.tables e below (T1.setTop (mkF m 24 #[.val (.int p0), .val (.int p1), .val (.int (11 : Int32)), .val (.ref w_LONG), .unset, .unset] [(.int (2 : Int32)), (.int (11 : Int32))])) _
    refine XS.icmpNo X1.here hx rfl (hb hby at_24) rfl (feq (by decide : ¬ ((11 : Int32) = (2 : Int32)))).1 ?_
    show Steps p.tables e below (T1.setTop (mkF m 27 #[.val (.int p0), .val (.int p1), .val (.int (11 : Int32)), .val (.ref w_LONG), .unset, .unset] [])) _
    refine XS.iloadN X1.here hx rfl (hb hby at_27) rfl ?_
    show Steps p.tables e below (T1.setTop (mkF m 28 #[.val (.int p0), .val (.int p1), .val (.int (11 : Int32)), .val (.ref w_LONG), .unset, .unset] [(.int (11 : Int32))])) _
    refine XS.iconst X1.here hx rfl (hb hby at_28) ?_
    show Steps p.tables e below (T1.setTop (mkF m 29 #[.val (.int p0), .val (.int p1), .val (.int (11 : Int32)), .val (.ref w_LONG), .unset, .unset] [(.int (4 : Int32)), (.int (11 : Int32))])) _
    refine XS.icmpNo X1.here hx rfl (hb hby at_29) rfl (flt (by decide : ¬ ((11 : Int32) < (4 : Int32)))).1 ?_
    show Steps p.tables e below (T1.setTop (mkF m 32 #[.val (.int p0), .val (.int p1), .val (.int (11 : Int32)), .val (.ref w_LONG), .unset, .unset] [])) _
    refine XS.iloadN X1.here hx rfl (hb hby at_32) rfl ?_
    show Steps p.tables e below (T1.setTop (mkF m 33 #[.val (.int p0), .val (.int p1), .val (.int (11 : Int32)), .val (.ref w_LONG), .unset, .unset] [(.int (11 : Int32))])) _
    refine XS.bipush X1.here hx rfl (hb hby at_33) ?_
    show Steps p.tables e below (T1.setTop (mkF m 35 #[.val (.int p0), .val (.int p1), .val (.int (11 : Int32)), .val (.ref w_LONG), .unset, .unset] [(.int (11 : Int32)), (.int (11 : Int32))])) _
    refine XS.icmpNo X1.here hx rfl (hb hby at_35) rfl (flt (by decide : ¬ ((11 : Int32) < (11 : Int32)))).2.2.1 ?_
    show Steps p.tables e below (T1.setTop (mkF m 38 #[.val (.int p0), .val (.int p1), .val (.int (11 : Int32)), .val (.ref w_LONG), .unset, .unset] [])) _
    refine XS.iconst X1.here hx rfl (hb hby at_38) ?_
    show Steps p.tables e below (T1.setTop (mkF m 39 #[.val (.int p0), .val (.int p1), .val (.int (11 : Int32)), .val (.ref w_LONG), .unset, .unset] [(.int (1 : Int32))])) _
    refine XS.goto X1.here hx rfl (pc0 := 39) (pc' := 43) rfl (hb hby at_39) (by decide) (by decide) ?_
    show Steps p.tables e below (T1.setTop (mkF m 43 #[.val (.int p0), .val (.int p1), .val (.int (11 : Int32)), .val (.ref w_LONG), .unset, .unset] [(.int (1 : Int32))])) _
    refine XS.istore X1.here hx rfl (hb hby at_43) rfl (l' := #[.val (.int p0), .val (.int p1), .val (.int (11 : Int32)), .val (.ref w_LONG), .val (.int (1 : Int32)), .unset]) rfl ?_
    show Steps p.tables e below (T1.setTop (mkF m 45 #[.val (.int p0), .val (.int p1), .val (.int (11 : Int32)), .val (.ref w_LONG), .val (.int (1 : Int32)), .unset] [])) _
    refine XS.iload X1.here hx rfl (hb hby at_45) rfl ?_
    show Steps p.tables e below (T1.setTop (mkF m 47 #[.val (.int p0), .val (.int p1), .val (.int (11 : Int32)), .val (.ref w_LONG), .val (.int (1 : Int32)), .unset] [(.int (1 : Int32))])) _
    refine XS.ifYes X1.here hx rfl (pc0 := 47) (pc' := 60) rfl (hb hby at_47) rfl ((if0 _ _).trans (feq (by decide : ¬ ((1 : Int32) = (0 : Int32)))).2) (by decide) (by decide) ?_
    show Steps p.tables e below (T1.setTop (mkF m 60 #[.val (.int p0), .val (.int p1), .val (.int (11 : Int32)), .val (.ref w_LONG), .val (.int (1 : Int32)), .unset] [])) _
    refine XS.aloadN X1.here hx rfl (hb hby at_60) rfl rfl ?_
    show Steps p.tables e below (T1.setTop (mkF m 61 #[.val (.int p0), .val (.int p1), .val (.int (11 : Int32)), .val (.ref w_LONG), .val (.int (1 : Int32)), .unset] [(.ref w_LONG)])) _
    refine XS.ifnonnullYes X1.here hx rfl (pc0 := 61) (pc' := 66) rfl (hb hby at_61) rfl (by decide) (by decide) ?_
    show Steps p.tables e below (T1.setTop (mkF m 66 #[.val (.int p0), .val (.int p1), .val (.int (11 : Int32)), .val (.ref w_LONG), .val (.int (1 : Int32)), .unset] [])) _
    refine XS.iloadN X1.here hx rfl (hb hby at_66) rfl ?_
    show Steps p.tables e below (T1.setTop (mkF m 67 #[.val (.int p0), .val (.int p1), .val (.int (11 : Int32)), .val (.ref w_LONG), .val (.int (1 : Int32)), .unset] [(.int (11 : Int32))])) _
    refine XS.iconst X1.here hx rfl (hb hby at_67) ?_
    show Steps p.tables e below (T1.setTop (mkF m 68 #[.val (.int p0), .val (.int p1), .val (.int (11 : Int32)), .val (.ref w_LONG), .val (.int (1 : Int32)), .unset] [(.int (2 : Int32)), (.int (11 : Int32))])) _
    refine XS.icmpYes X1.here hx rfl (pc0 := 68) (pc' := 75) rfl (hb hby at_68) rfl (feq (by decide : ¬ ((11 : Int32) = (2 : Int32)))).2 (by decide) (by decide) ?_
    show Steps p.tables e below (T1.setTop (mkF m 75 #[.val (.int p0), .val (.int p1), .val (.int (11 : Int32)), .val (.ref w_LONG), .val (.int (1 : Int32)), .unset] [])) _
    refine XS.iloadN X1.here hx rfl (hb hby at_75) rfl ?_
    show Steps p.tables e below (T1.setTop (mkF m 76 #[.val (.int p0), .val (.int p1), .val (.int (11 : Int32)), .val (.ref w_LONG), .val (.int (1 : Int32)), .unset] [(.int (11 : Int32))])) _
    refine XS.iconst X1.here hx rfl (hb hby at_76) ?_
    show Steps p.tables e below (T1.setTop (mkF m 77 #[.val (.int p0), .val (.int p1), .val (.int (11 : Int32)), .val (.ref w_LONG), .val (.int (1 : Int32)), .unset] [(.int (3 : Int32)), (.int (11 : Int32))])) _
    refine XS.isub X1.here hx rfl (hb hby at_77) rfl ?_
    show Steps p.tables e below (T1.setTop (mkF m 78 #[.val (.int p0), .val (.int p1), .val (.int (11 : Int32)), .val (.ref w_LONG), .val (.int (1 : Int32)), .unset] [(.int ((11 : Int32) - (3 : Int32)))])) _
    rw [(show ((11 : Int32) - (3 : Int32)) = (8 : Int32) from by decide)]
    show Steps p.tables e below (T1.setTop (mkF m 78 #[.val (.int p0), .val (.int p1), .val (.int (11 : Int32)), .val (.ref w_LONG), .val (.int (1 : Int32)), .unset] [(.int (8 : Int32))])) _
    refine XS.istore X1.here hx rfl (hb hby at_78) rfl (l' := #[.val (.int p0), .val (.int p1), .val (.int (11 : Int32)), .val (.ref w_LONG), .val (.int (1 : Int32)), .val (.int (8 : Int32))]) rfl ?_
    show Steps p.tables e below (T1.setTop (mkF m 80 #[.val (.int p0), .val (.int p1), .val (.int (11 : Int32)), .val (.ref w_LONG), .val (.int (1 : Int32)), .val (.int (8 : Int32))] [])) _
    refine XS.aloadN X1.here hx rfl (hb hby at_80) rfl rfl ?_
    show Steps p.tables e below (T1.setTop (mkF m 81 #[.val (.int p0), .val (.int p1), .val (.int (11 : Int32)), .val (.ref w_LONG), .val (.int (1 : Int32)), .val (.int (8 : Int32))] [(.ref w_LONG)])) _
    refine st2.trans ?_
    show Steps p.tables e below (T2.setTop (mkF m 84 #[.val (.int p0), .val (.int p1), .val (.int (11 : Int32)), .val (.ref w_LONG), .val (.int (1 : Int32)), .val (.int (8 : Int32))] [(.int (8 : Int32))])) _
    refine XS.iload X2.here hx rfl (hb hby at_84) rfl ?_
    show Steps p.tables e below (T2.setTop (mkF m 86 #[.val (.int p0), .val (.int p1), .val (.int (11 : Int32)), .val (.ref w_LONG), .val (.int (1 : Int32)), .val (.int (8 : Int32))] [(.int (8 : Int32)), (.int (8 : Int32))])) _
    refine XS.icmpNo X2.here hx rfl (hb hby at_86) rfl (teq (by decide : (8 : Int32) = (8 : Int32))).2 ?_
    show Steps p.tables e below (T2.setTop (mkF m 89 #[.val (.int p0), .val (.int p1), .val (.int (11 : Int32)), .val (.ref w_LONG), .val (.int (1 : Int32)), .val (.int (8 : Int32))] [])) _
    refine XS.iconst X2.here hx rfl (hb hby at_89) ?_
    show Steps p.tables e below (T2.setTop (mkF m 90 #[.val (.int p0), .val (.int p1), .val (.int (11 : Int32)), .val (.ref w_LONG), .val (.int (1 : Int32)), .val (.int (8 : Int32))] [(.int (1 : Int32))])) _
    refine XS.goto X2.here hx rfl (pc0 := 90) (pc' := 94) rfl (hb hby at_90) (by decide) (by decide) ?_
    show Steps p.tables e below (T2.setTop (mkF m 94 #[.val (.int p0), .val (.int p1), .val (.int (11 : Int32)), .val (.ref w_LONG), .val (.int (1 : Int32)), .val (.int (8 : Int32))] [(.int (1 : Int32))])) _
    exact retOut X2 hx Bd.returns rfl (Or.inl ⟨rfl, Or.inr (Or.inl rfl), _, rfl⟩) (hb hby at_94) hr
  · exact ⟨rfl, N2⟩
set_option maxRecDepth 65536 in
set_option maxHeartbeats 40000000 in
theorem c1_14 (l : Launch) (Z : State) (a0 : Array Value) (hw : ∀ d ∈ tables_1, d.before a0 Z = true) (ws : List Jvm.Cond) (w_INT : Addr) (w_BYTE : Addr) (w_CHAR : Addr) (w_OBJECT : Addr) (w_FLOAT : Addr) (w_DOUBLE : Addr) (w_LONG : Addr) (w_SHORT : Addr) (w_BOOLEAN : Addr) (h0 : Heap) (n0 : Nat) (Z0 : n0 ≤ h0.size) (G : Glob Z h0 w_INT w_BYTE w_CHAR w_OBJECT w_FLOAT w_DOUBLE w_LONG w_SHORT w_BOOLEAN)  :
    MetFree l (⟨"com/example/refleash/refleash/hprof/BasicType", "of", "(I)Lcom/example/refleash/refleash/hprof/BasicType;"⟩ : MethodName) (head1 (Jvm.Cond.code (⟨"com/example/refleash/refleash/hprof/BasicType", "of", "(I)Lcom/example/refleash/refleash/hprof/BasicType;"⟩ : MethodName) prog_56_method_4_code 1 (some (.object "com/example/refleash/refleash/hprof/BasicType")) :: ws) ({ frames := 0, cells := 0, slots := 0, locals := 0 } : Room)) (fun a U => a = #[(.int (12 : Int32))] ∧ Z.Warmed39 U.vm ∧ U.heap = h0) (fun _ _ _ _ _ => True) (fun _ U o U' => ∃ v L, o = .returned v ∧ QR (some .null) h0 n0 v U'.heap L ∧ FrameEnd U o U' L ({ frames := 0, cells := 0, slots := 0, locals := 0 } : Room).cells ({ frames := 0, cells := 0, slots := 0, locals := 0 } : Room).slots) := by
  refine MetFree.of_bodySF (plainFor_of_name pn_com_example_refleash_refleash_hprof_BasicType) hisR ?_
  intro p e s m args below meth c s₁ Bd hml0 hP hK
  obtain ⟨rfl, hZ, hh⟩ := hP
  have hx := Bd.exec
  have hby := Bd.bytes
  have hml : c.maxLocals = 1 := hml0
  have hown : s.vm.findClass "com/example/refleash/refleash/hprof/BasicType" = some m.cls := findClass_of_methodNamed Bd.named
  have X0 : Stand p l e ({ frames := 0, cells := 0, slots := 0, locals := 0 } : Room) s m #[(.int (12 : Int32))] below meth c s₁ [] 0 0 := Stand.of_body Bd
  have e0 : s₁.heap = h0 := by rw [← hh, Bd.state]; rfl
  have N0 := Fr.nil n0
  have pre0 : ∀ t, Steps p.tables e below (s₁.setTop (mkF m 0 #[.val (.int (12 : Int32))] [])) t → Steps p.tables e below (s₁.setTop (entryFrame m #[(.int (12 : Int32))] 1)) t := fun t k => castTop (ef_1_I m (12 : Int32)) k
  have G' := G
  obtain ⟨S_w_INT, E_w_INT, F_ordinal_w_INT, S_w_BYTE, E_w_BYTE, F_ordinal_w_BYTE, S_w_CHAR, E_w_CHAR, F_ordinal_w_CHAR, S_w_OBJECT, E_w_OBJECT, F_ordinal_w_OBJECT, S_w_FLOAT, E_w_FLOAT, F_ordinal_w_FLOAT, S_w_DOUBLE, E_w_DOUBLE, F_ordinal_w_DOUBLE, S_w_LONG, E_w_LONG, F_ordinal_w_LONG, S_w_SHORT, E_w_SHORT, F_ordinal_w_SHORT, S_w_BOOLEAN, E_w_BOOLEAN, F_ordinal_w_BOOLEAN⟩ := G'
  obtain ⟨fs, hr, hrun, hended, hW, hsame⟩ := X0.leave (v := some .null) (fun h => by rw [Bd.returns] at h; cases h)
  refine ⟨_, _, pre0 _ ?_, hrun, hended, _, _, rfl, ?_, ⟨_, rfl⟩, hW, hsame.mono (by decide) (by decide)⟩
  · show Steps p.tables e below (s₁.setTop (mkF m 0 #[.val (.int (12 : Int32))] [])) _
    refine XS.iloadN X0.here hx rfl (hb hby d1_0) rfl ?_
    show Steps p.tables e below (s₁.setTop (mkF m 1 #[.val (.int (12 : Int32))] [(.int (12 : Int32))])) _
    refine XS.tswOut X0.here hx rfl (pc0 := 1) (pc' := 110) rfl (hb hby d1_1) rfl (by decide) (by decide) (by decide) ?_
    show Steps p.tables e below (s₁.setTop (mkF m 110 #[.val (.int (12 : Int32))] [])) _
    refine XS.aconstNull X0.here hx rfl (hb hby d1_110) ?_
    show Steps p.tables e below (s₁.setTop (mkF m 111 #[.val (.int (12 : Int32))] [.null])) _
    exact retOut X0 hx Bd.returns rfl (Or.inr (Or.inr (Or.inr (Or.inr ⟨rfl, rfl, rfl⟩)))) (hb hby d1_111) hr
  · show QR _ h0 n0 _ s₁.heap _
    rw [e0]
    exact ⟨rfl, N0, rfl⟩
set_option maxRecDepth 65536 in
set_option maxHeartbeats 40000000 in
theorem sel_12 (l : Launch) (Z : State) (a0 : Array Value) (hw : ∀ d ∈ tables_1, d.before a0 Z = true) (ws : List Jvm.Cond) (w_INT : Addr) (w_BYTE : Addr) (w_CHAR : Addr) (w_OBJECT : Addr) (w_FLOAT : Addr) (w_DOUBLE : Addr) (w_LONG : Addr) (w_SHORT : Addr) (w_BOOLEAN : Addr) (h0 : Heap) (n0 : Nat) (Z0 : n0 ≤ h0.size) (G : Glob Z h0 w_INT w_BYTE w_CHAR w_OBJECT w_FLOAT w_DOUBLE w_LONG w_SHORT w_BOOLEAN) (p0 p1 : Int32) (hs : (p1 &&& (1 : Int32)) = (0 : Int32)) (hi12 : (((p1.toUInt32 >>> ((1 : Int32) &&& 31).toUInt32).toInt32) &&& (15 : Int32)) = (12 : Int32)) :
    MetFree l x (head1 (Jvm.Cond.code x code maxLocals ret :: ws) room_1) (fun a U => a = #[(.int p0), (.int p1)] ∧ Z.Warmed39 U.vm ∧ U.heap = h0) (fun _ _ _ _ _ => True) (fun _ U o U' => ∃ v L, o = .returned v ∧ QL (some (.int (1 : Int32))) h0 n0 v U'.heap L ∧ FrameEnd U o U' L room_1.cells room_1.slots) := by
  refine MetFree.of_bodySF (plainFor_of_name pn_com_example_refleash_refleash_hprof_BasicTypeOfPinLaw) hisR ?_
  intro p e s m args below meth c s₁ Bd hml0 hP hK
  obtain ⟨rfl, hZ, hh⟩ := hP
  have hx := Bd.exec
  have hby := Bd.bytes
  have hml : c.maxLocals = 6 := hml0
  have hown : s.vm.findClass "com/example/refleash/refleash/hprof/BasicTypeOfPinLaw" = some m.cls := findClass_of_methodNamed Bd.named
  have X0 : Stand p l e room_1 s m #[(.int p0), (.int p1)] below meth c s₁ [] 0 0 := Stand.of_body Bd
  have e0 : s₁.heap = h0 := by rw [← hh, Bd.state]; rfl
  have N0 := Fr.nil n0
  have pre0 : ∀ t, Steps p.tables e below (s₁.setTop (mkF m 0 #[.val (.int p0), .val (.int p1), .unset, .unset, .unset, .unset] [])) t → Steps p.tables e below (s₁.setTop (entryFrame m #[(.int p0), (.int p1)] maxLocals)) t := fun t k => castTop (ef_0_II m p0 p1) k
  have G' := G
  obtain ⟨S_w_INT, E_w_INT, F_ordinal_w_INT, S_w_BYTE, E_w_BYTE, F_ordinal_w_BYTE, S_w_CHAR, E_w_CHAR, F_ordinal_w_CHAR, S_w_OBJECT, E_w_OBJECT, F_ordinal_w_OBJECT, S_w_FLOAT, E_w_FLOAT, F_ordinal_w_FLOAT, S_w_DOUBLE, E_w_DOUBLE, F_ordinal_w_DOUBLE, S_w_LONG, E_w_LONG, F_ordinal_w_LONG, S_w_SHORT, E_w_SHORT, F_ordinal_w_SHORT, S_w_BOOLEAN, E_w_BOOLEAN, F_ordinal_w_BOOLEAN⟩ := G'
  obtain ⟨_, _, ⟨T1, L1, k1, n1⟩, -, X1, ⟨Lc1, hQ1, l1, y1, z1⟩, st1⟩ := Jvm.LawKit.callS X0 hx (y := (⟨"com/example/refleash/refleash/hprof/BasicType", "of", "(I)Lcom/example/refleash/refleash/hprof/BasicType;"⟩ : MethodName)) hown (mvT hZ (hw _ (List.mem_of_getElem? (i := 0) rfl))) (mvT hZ (hw _ (List.mem_of_getElem? (i := 1) rfl))) (mvT hZ (hw _ (List.mem_of_getElem? (i := 2) rfl))) (mvT hZ (hw _ (List.mem_of_getElem? (i := 3) rfl))) (by decide) (backOf (W := 0) (c1_14 l Z a0 hw [] w_INT w_BYTE w_CHAR w_OBJECT w_FLOAT w_DOUBLE w_LONG w_SHORT w_BOOLEAN h0 n0 Z0 G) hZ (hw _ (List.mem_of_getElem? (i := 3) rfl)) (hw _ (List.mem_of_getElem? (i := 2) rfl)) (by decide) (by decide)) (g := (mkF m 18 #[.val (.int p0), .val (.int p1), .val (.int (12 : Int32)), .unset, .unset, .unset] [(.int (12 : Int32))])) rfl (by rw [hml]; rfl) (argsL := [(.int (12 : Int32))]) (rest := []) (lenOf pd__I_Lcom_example_refleash_refleash_hprof_BasicType_ rfl) rfl (by show 2 * 0 + _ ≤ _; exact Nat.le_of_eq rfl) (hb hby at_18) (fun _ _ => ⟨rfl, e0, (by decide : 0 + 0 ≤ _), (by decide : 0 + 0 ≤ _)⟩)
  dsimp only [Pt.U, Pt.locs, Pt.cells, Pt.slots] at X1 l1 y1 z1 st1 hQ1
  subst l1 y1 z1
  obtain ⟨rfl, N1q, e1⟩ := hQ1
  have N1 := Fr.app N0 N1q
  obtain ⟨fs, hr, hrun, hended, hW, hsame⟩ := X1.leave (v := some (.int (1 : Int32))) (fun h => by rw [Bd.returns] at h; cases h)
  refine ⟨_, _, pre0 _ ?_, hrun, hended, _, _, rfl, ?_, ⟨_, rfl⟩, hW, hsame.mono (by decide) (by decide)⟩
  · show Steps p.tables e below (s₁.setTop (mkF m 0 #[.val (.int p0), .val (.int p1), .unset, .unset, .unset, .unset] [])) _
    refine XS.iloadN X0.here hx rfl (hb hby at_0) rfl ?_
    show Steps p.tables e below (s₁.setTop (mkF m 1 #[.val (.int p0), .val (.int p1), .unset, .unset, .unset, .unset] [(.int p1)])) _
    refine XS.iconst X0.here hx rfl (hb hby at_1) ?_
    show Steps p.tables e below (s₁.setTop (mkF m 2 #[.val (.int p0), .val (.int p1), .unset, .unset, .unset, .unset] [(.int (1 : Int32)), (.int p1)])) _
    refine XS.iand X0.here hx rfl (hb hby at_2) rfl ?_
    show Steps p.tables e below (s₁.setTop (mkF m 3 #[.val (.int p0), .val (.int p1), .unset, .unset, .unset, .unset] [(.int (p1 &&& (1 : Int32)))])) _
    refine XS.ifYes X0.here hx rfl (pc0 := 3) (pc' := 10) rfl (hb hby at_3) rfl ((if0 _ _).trans (teq (hs : (p1 &&& (1 : Int32)) = (0 : Int32))).1) (by decide) (by decide) ?_
    show Steps p.tables e below (s₁.setTop (mkF m 10 #[.val (.int p0), .val (.int p1), .unset, .unset, .unset, .unset] [])) _
    refine XS.iloadN X0.here hx rfl (hb hby at_10) rfl ?_
    show Steps p.tables e below (s₁.setTop (mkF m 11 #[.val (.int p0), .val (.int p1), .unset, .unset, .unset, .unset] [(.int p1)])) _
    refine XS.iconst X0.here hx rfl (hb hby at_11) ?_
    show Steps p.tables e below (s₁.setTop (mkF m 12 #[.val (.int p0), .val (.int p1), .unset, .unset, .unset, .unset] [(.int (1 : Int32)), (.int p1)])) _
    refine XS.iushr X0.here hx rfl (hb hby at_12) rfl ?_
    show Steps p.tables e below (s₁.setTop (mkF m 13 #[.val (.int p0), .val (.int p1), .unset, .unset, .unset, .unset] [(.int ((p1.toUInt32 >>> ((1 : Int32) &&& 31).toUInt32).toInt32))])) _
    refine XS.bipush X0.here hx rfl (hb hby at_13) ?_
    show Steps p.tables e below (s₁.setTop (mkF m 15 #[.val (.int p0), .val (.int p1), .unset, .unset, .unset, .unset] [(.int (15 : Int32)), (.int ((p1.toUInt32 >>> ((1 : Int32) &&& 31).toUInt32).toInt32))])) _
    refine XS.iand X0.here hx rfl (hb hby at_15) rfl ?_
    show Steps p.tables e below (s₁.setTop (mkF m 16 #[.val (.int p0), .val (.int p1), .unset, .unset, .unset, .unset] [(.int (((p1.toUInt32 >>> ((1 : Int32) &&& 31).toUInt32).toInt32) &&& (15 : Int32)))])) _
    rw [hi12]
    show Steps p.tables e below (s₁.setTop (mkF m 16 #[.val (.int p0), .val (.int p1), .unset, .unset, .unset, .unset] [(.int (12 : Int32))])) _
    refine XS.istoreN X0.here hx rfl (hb hby at_16) rfl (l' := #[.val (.int p0), .val (.int p1), .val (.int (12 : Int32)), .unset, .unset, .unset]) rfl ?_
    show Steps p.tables e below (s₁.setTop (mkF m 17 #[.val (.int p0), .val (.int p1), .val (.int (12 : Int32)), .unset, .unset, .unset] [])) _
    refine XS.iloadN X0.here hx rfl (hb hby at_17) rfl ?_
    show Steps p.tables e below (s₁.setTop (mkF m 18 #[.val (.int p0), .val (.int p1), .val (.int (12 : Int32)), .unset, .unset, .unset] [(.int (12 : Int32))])) _
    refine st1 _ ?_
    show Steps p.tables e below (T1.setTop (mkF m 21 #[.val (.int p0), .val (.int p1), .val (.int (12 : Int32)), .unset, .unset, .unset] [.null])) _
    refine XS.astoreN X1.here hx rfl (hb hby at_21) rfl rfl (l' := #[.val (.int p0), .val (.int p1), .val (.int (12 : Int32)), .val .null, .unset, .unset]) rfl ?_
    show Steps p.tables e below (T1.setTop (mkF m 22 #[.val (.int p0), .val (.int p1), .val (.int (12 : Int32)), .val .null, .unset, .unset] [])) _
    refine XS.iloadN X1.here hx rfl (hb hby at_22) rfl ?_
    show Steps p.tables e below (T1.setTop (mkF m 23 #[.val (.int p0), .val (.int p1), .val (.int (12 : Int32)), .val .null, .unset, .unset] [(.int (12 : Int32))])) _
    refine XS.iconst X1.here hx rfl (hb hby at_23) ?_
    show Steps p.tables e below (T1.setTop (mkF m 24 #[.val (.int p0), .val (.int p1), .val (.int (12 : Int32)), .val .null, .unset, .unset] [(.int (2 : Int32)), (.int (12 : Int32))])) _
    refine XS.icmpNo X1.here hx rfl (hb hby at_24) rfl (feq (by decide : ¬ ((12 : Int32) = (2 : Int32)))).1 ?_
    show Steps p.tables e below (T1.setTop (mkF m 27 #[.val (.int p0), .val (.int p1), .val (.int (12 : Int32)), .val .null, .unset, .unset] [])) _
    refine XS.iloadN X1.here hx rfl (hb hby at_27) rfl ?_
    show Steps p.tables e below (T1.setTop (mkF m 28 #[.val (.int p0), .val (.int p1), .val (.int (12 : Int32)), .val .null, .unset, .unset] [(.int (12 : Int32))])) _
    refine XS.iconst X1.here hx rfl (hb hby at_28) ?_
    show Steps p.tables e below (T1.setTop (mkF m 29 #[.val (.int p0), .val (.int p1), .val (.int (12 : Int32)), .val .null, .unset, .unset] [(.int (4 : Int32)), (.int (12 : Int32))])) _
    refine XS.icmpNo X1.here hx rfl (hb hby at_29) rfl (flt (by decide : ¬ ((12 : Int32) < (4 : Int32)))).1 ?_
    show Steps p.tables e below (T1.setTop (mkF m 32 #[.val (.int p0), .val (.int p1), .val (.int (12 : Int32)), .val .null, .unset, .unset] [])) _
    refine XS.iloadN X1.here hx rfl (hb hby at_32) rfl ?_
    show Steps p.tables e below (T1.setTop (mkF m 33 #[.val (.int p0), .val (.int p1), .val (.int (12 : Int32)), .val .null, .unset, .unset] [(.int (12 : Int32))])) _
    refine XS.bipush X1.here hx rfl (hb hby at_33) ?_
    show Steps p.tables e below (T1.setTop (mkF m 35 #[.val (.int p0), .val (.int p1), .val (.int (12 : Int32)), .val .null, .unset, .unset] [(.int (11 : Int32)), (.int (12 : Int32))])) _
    refine XS.icmpYes X1.here hx rfl (pc0 := 35) (pc' := 42) rfl (hb hby at_35) rfl (tlt (by decide : (11 : Int32) < (12 : Int32))).2.2.1 (by decide) (by decide) ?_
    show Steps p.tables e below (T1.setTop (mkF m 42 #[.val (.int p0), .val (.int p1), .val (.int (12 : Int32)), .val .null, .unset, .unset] [])) _
    refine XS.iconst X1.here hx rfl (hb hby at_42) ?_
    show Steps p.tables e below (T1.setTop (mkF m 43 #[.val (.int p0), .val (.int p1), .val (.int (12 : Int32)), .val .null, .unset, .unset] [(.int (0 : Int32))])) _
    refine XS.istore X1.here hx rfl (hb hby at_43) rfl (l' := #[.val (.int p0), .val (.int p1), .val (.int (12 : Int32)), .val .null, .val (.int (0 : Int32)), .unset]) rfl ?_
    show Steps p.tables e below (T1.setTop (mkF m 45 #[.val (.int p0), .val (.int p1), .val (.int (12 : Int32)), .val .null, .val (.int (0 : Int32)), .unset] [])) _
    refine XS.iload X1.here hx rfl (hb hby at_45) rfl ?_
    show Steps p.tables e below (T1.setTop (mkF m 47 #[.val (.int p0), .val (.int p1), .val (.int (12 : Int32)), .val .null, .val (.int (0 : Int32)), .unset] [(.int (0 : Int32))])) _
    refine XS.ifNo X1.here hx rfl (hb hby at_47) rfl ((if0 _ _).trans (teq (by decide : (0 : Int32) = (0 : Int32))).2) ?_
    show Steps p.tables e below (T1.setTop (mkF m 50 #[.val (.int p0), .val (.int p1), .val (.int (12 : Int32)), .val .null, .val (.int (0 : Int32)), .unset] [])) _
    refine XS.aloadN X1.here hx rfl (hb hby at_50) rfl rfl ?_
    show Steps p.tables e below (T1.setTop (mkF m 51 #[.val (.int p0), .val (.int p1), .val (.int (12 : Int32)), .val .null, .val (.int (0 : Int32)), .unset] [.null])) _
    refine XS.ifnonnullNo X1.here hx rfl (hb hby at_51) rfl ?_
    show Steps p.tables e below (T1.setTop (mkF m 54 #[.val (.int p0), .val (.int p1), .val (.int (12 : Int32)), .val .null, .val (.int (0 : Int32)), .unset] [])) _
    refine XS.iconst X1.here hx rfl (hb hby at_54) ?_
    show Steps p.tables e below (T1.setTop (mkF m 55 #[.val (.int p0), .val (.int p1), .val (.int (12 : Int32)), .val .null, .val (.int (0 : Int32)), .unset] [(.int (1 : Int32))])) _
    refine XS.goto X1.here hx rfl (pc0 := 55) (pc' := 59) rfl (hb hby at_55) (by decide) (by decide) ?_
    show Steps p.tables e below (T1.setTop (mkF m 59 #[.val (.int p0), .val (.int p1), .val (.int (12 : Int32)), .val .null, .val (.int (0 : Int32)), .unset] [(.int (1 : Int32))])) _
    exact retOut X1 hx Bd.returns rfl (Or.inl ⟨rfl, Or.inr (Or.inl rfl), _, rfl⟩) (hb hby at_59) hr
  · exact ⟨rfl, N1⟩
set_option maxRecDepth 65536 in
set_option maxHeartbeats 40000000 in
theorem c1_15 (l : Launch) (Z : State) (a0 : Array Value) (hw : ∀ d ∈ tables_1, d.before a0 Z = true) (ws : List Jvm.Cond) (w_INT : Addr) (w_BYTE : Addr) (w_CHAR : Addr) (w_OBJECT : Addr) (w_FLOAT : Addr) (w_DOUBLE : Addr) (w_LONG : Addr) (w_SHORT : Addr) (w_BOOLEAN : Addr) (h0 : Heap) (n0 : Nat) (Z0 : n0 ≤ h0.size) (G : Glob Z h0 w_INT w_BYTE w_CHAR w_OBJECT w_FLOAT w_DOUBLE w_LONG w_SHORT w_BOOLEAN)  :
    MetFree l (⟨"com/example/refleash/refleash/hprof/BasicType", "of", "(I)Lcom/example/refleash/refleash/hprof/BasicType;"⟩ : MethodName) (head1 (Jvm.Cond.code (⟨"com/example/refleash/refleash/hprof/BasicType", "of", "(I)Lcom/example/refleash/refleash/hprof/BasicType;"⟩ : MethodName) prog_56_method_4_code 1 (some (.object "com/example/refleash/refleash/hprof/BasicType")) :: ws) ({ frames := 0, cells := 0, slots := 0, locals := 0 } : Room)) (fun a U => a = #[(.int (13 : Int32))] ∧ Z.Warmed39 U.vm ∧ U.heap = h0) (fun _ _ _ _ _ => True) (fun _ U o U' => ∃ v L, o = .returned v ∧ QR (some .null) h0 n0 v U'.heap L ∧ FrameEnd U o U' L ({ frames := 0, cells := 0, slots := 0, locals := 0 } : Room).cells ({ frames := 0, cells := 0, slots := 0, locals := 0 } : Room).slots) := by
  refine MetFree.of_bodySF (plainFor_of_name pn_com_example_refleash_refleash_hprof_BasicType) hisR ?_
  intro p e s m args below meth c s₁ Bd hml0 hP hK
  obtain ⟨rfl, hZ, hh⟩ := hP
  have hx := Bd.exec
  have hby := Bd.bytes
  have hml : c.maxLocals = 1 := hml0
  have hown : s.vm.findClass "com/example/refleash/refleash/hprof/BasicType" = some m.cls := findClass_of_methodNamed Bd.named
  have X0 : Stand p l e ({ frames := 0, cells := 0, slots := 0, locals := 0 } : Room) s m #[(.int (13 : Int32))] below meth c s₁ [] 0 0 := Stand.of_body Bd
  have e0 : s₁.heap = h0 := by rw [← hh, Bd.state]; rfl
  have N0 := Fr.nil n0
  have pre0 : ∀ t, Steps p.tables e below (s₁.setTop (mkF m 0 #[.val (.int (13 : Int32))] [])) t → Steps p.tables e below (s₁.setTop (entryFrame m #[(.int (13 : Int32))] 1)) t := fun t k => castTop (ef_1_I m (13 : Int32)) k
  have G' := G
  obtain ⟨S_w_INT, E_w_INT, F_ordinal_w_INT, S_w_BYTE, E_w_BYTE, F_ordinal_w_BYTE, S_w_CHAR, E_w_CHAR, F_ordinal_w_CHAR, S_w_OBJECT, E_w_OBJECT, F_ordinal_w_OBJECT, S_w_FLOAT, E_w_FLOAT, F_ordinal_w_FLOAT, S_w_DOUBLE, E_w_DOUBLE, F_ordinal_w_DOUBLE, S_w_LONG, E_w_LONG, F_ordinal_w_LONG, S_w_SHORT, E_w_SHORT, F_ordinal_w_SHORT, S_w_BOOLEAN, E_w_BOOLEAN, F_ordinal_w_BOOLEAN⟩ := G'
  obtain ⟨fs, hr, hrun, hended, hW, hsame⟩ := X0.leave (v := some .null) (fun h => by rw [Bd.returns] at h; cases h)
  refine ⟨_, _, pre0 _ ?_, hrun, hended, _, _, rfl, ?_, ⟨_, rfl⟩, hW, hsame.mono (by decide) (by decide)⟩
  · show Steps p.tables e below (s₁.setTop (mkF m 0 #[.val (.int (13 : Int32))] [])) _
    refine XS.iloadN X0.here hx rfl (hb hby d1_0) rfl ?_
    show Steps p.tables e below (s₁.setTop (mkF m 1 #[.val (.int (13 : Int32))] [(.int (13 : Int32))])) _
    refine XS.tswOut X0.here hx rfl (pc0 := 1) (pc' := 110) rfl (hb hby d1_1) rfl (by decide) (by decide) (by decide) ?_
    show Steps p.tables e below (s₁.setTop (mkF m 110 #[.val (.int (13 : Int32))] [])) _
    refine XS.aconstNull X0.here hx rfl (hb hby d1_110) ?_
    show Steps p.tables e below (s₁.setTop (mkF m 111 #[.val (.int (13 : Int32))] [.null])) _
    exact retOut X0 hx Bd.returns rfl (Or.inr (Or.inr (Or.inr (Or.inr ⟨rfl, rfl, rfl⟩)))) (hb hby d1_111) hr
  · show QR _ h0 n0 _ s₁.heap _
    rw [e0]
    exact ⟨rfl, N0, rfl⟩
set_option maxRecDepth 65536 in
set_option maxHeartbeats 40000000 in
theorem sel_13 (l : Launch) (Z : State) (a0 : Array Value) (hw : ∀ d ∈ tables_1, d.before a0 Z = true) (ws : List Jvm.Cond) (w_INT : Addr) (w_BYTE : Addr) (w_CHAR : Addr) (w_OBJECT : Addr) (w_FLOAT : Addr) (w_DOUBLE : Addr) (w_LONG : Addr) (w_SHORT : Addr) (w_BOOLEAN : Addr) (h0 : Heap) (n0 : Nat) (Z0 : n0 ≤ h0.size) (G : Glob Z h0 w_INT w_BYTE w_CHAR w_OBJECT w_FLOAT w_DOUBLE w_LONG w_SHORT w_BOOLEAN) (p0 p1 : Int32) (hs : (p1 &&& (1 : Int32)) = (0 : Int32)) (hi13 : (((p1.toUInt32 >>> ((1 : Int32) &&& 31).toUInt32).toInt32) &&& (15 : Int32)) = (13 : Int32)) :
    MetFree l x (head1 (Jvm.Cond.code x code maxLocals ret :: ws) room_1) (fun a U => a = #[(.int p0), (.int p1)] ∧ Z.Warmed39 U.vm ∧ U.heap = h0) (fun _ _ _ _ _ => True) (fun _ U o U' => ∃ v L, o = .returned v ∧ QL (some (.int (1 : Int32))) h0 n0 v U'.heap L ∧ FrameEnd U o U' L room_1.cells room_1.slots) := by
  refine MetFree.of_bodySF (plainFor_of_name pn_com_example_refleash_refleash_hprof_BasicTypeOfPinLaw) hisR ?_
  intro p e s m args below meth c s₁ Bd hml0 hP hK
  obtain ⟨rfl, hZ, hh⟩ := hP
  have hx := Bd.exec
  have hby := Bd.bytes
  have hml : c.maxLocals = 6 := hml0
  have hown : s.vm.findClass "com/example/refleash/refleash/hprof/BasicTypeOfPinLaw" = some m.cls := findClass_of_methodNamed Bd.named
  have X0 : Stand p l e room_1 s m #[(.int p0), (.int p1)] below meth c s₁ [] 0 0 := Stand.of_body Bd
  have e0 : s₁.heap = h0 := by rw [← hh, Bd.state]; rfl
  have N0 := Fr.nil n0
  have pre0 : ∀ t, Steps p.tables e below (s₁.setTop (mkF m 0 #[.val (.int p0), .val (.int p1), .unset, .unset, .unset, .unset] [])) t → Steps p.tables e below (s₁.setTop (entryFrame m #[(.int p0), (.int p1)] maxLocals)) t := fun t k => castTop (ef_0_II m p0 p1) k
  have G' := G
  obtain ⟨S_w_INT, E_w_INT, F_ordinal_w_INT, S_w_BYTE, E_w_BYTE, F_ordinal_w_BYTE, S_w_CHAR, E_w_CHAR, F_ordinal_w_CHAR, S_w_OBJECT, E_w_OBJECT, F_ordinal_w_OBJECT, S_w_FLOAT, E_w_FLOAT, F_ordinal_w_FLOAT, S_w_DOUBLE, E_w_DOUBLE, F_ordinal_w_DOUBLE, S_w_LONG, E_w_LONG, F_ordinal_w_LONG, S_w_SHORT, E_w_SHORT, F_ordinal_w_SHORT, S_w_BOOLEAN, E_w_BOOLEAN, F_ordinal_w_BOOLEAN⟩ := G'
  obtain ⟨_, _, ⟨T1, L1, k1, n1⟩, -, X1, ⟨Lc1, hQ1, l1, y1, z1⟩, st1⟩ := Jvm.LawKit.callS X0 hx (y := (⟨"com/example/refleash/refleash/hprof/BasicType", "of", "(I)Lcom/example/refleash/refleash/hprof/BasicType;"⟩ : MethodName)) hown (mvT hZ (hw _ (List.mem_of_getElem? (i := 0) rfl))) (mvT hZ (hw _ (List.mem_of_getElem? (i := 1) rfl))) (mvT hZ (hw _ (List.mem_of_getElem? (i := 2) rfl))) (mvT hZ (hw _ (List.mem_of_getElem? (i := 3) rfl))) (by decide) (backOf (W := 0) (c1_15 l Z a0 hw [] w_INT w_BYTE w_CHAR w_OBJECT w_FLOAT w_DOUBLE w_LONG w_SHORT w_BOOLEAN h0 n0 Z0 G) hZ (hw _ (List.mem_of_getElem? (i := 3) rfl)) (hw _ (List.mem_of_getElem? (i := 2) rfl)) (by decide) (by decide)) (g := (mkF m 18 #[.val (.int p0), .val (.int p1), .val (.int (13 : Int32)), .unset, .unset, .unset] [(.int (13 : Int32))])) rfl (by rw [hml]; rfl) (argsL := [(.int (13 : Int32))]) (rest := []) (lenOf pd__I_Lcom_example_refleash_refleash_hprof_BasicType_ rfl) rfl (by show 2 * 0 + _ ≤ _; exact Nat.le_of_eq rfl) (hb hby at_18) (fun _ _ => ⟨rfl, e0, (by decide : 0 + 0 ≤ _), (by decide : 0 + 0 ≤ _)⟩)
  dsimp only [Pt.U, Pt.locs, Pt.cells, Pt.slots] at X1 l1 y1 z1 st1 hQ1
  subst l1 y1 z1
  obtain ⟨rfl, N1q, e1⟩ := hQ1
  have N1 := Fr.app N0 N1q
  obtain ⟨fs, hr, hrun, hended, hW, hsame⟩ := X1.leave (v := some (.int (1 : Int32))) (fun h => by rw [Bd.returns] at h; cases h)
  refine ⟨_, _, pre0 _ ?_, hrun, hended, _, _, rfl, ?_, ⟨_, rfl⟩, hW, hsame.mono (by decide) (by decide)⟩
  · show Steps p.tables e below (s₁.setTop (mkF m 0 #[.val (.int p0), .val (.int p1), .unset, .unset, .unset, .unset] [])) _
    refine XS.iloadN X0.here hx rfl (hb hby at_0) rfl ?_
    show Steps p.tables e below (s₁.setTop (mkF m 1 #[.val (.int p0), .val (.int p1), .unset, .unset, .unset, .unset] [(.int p1)])) _
    refine XS.iconst X0.here hx rfl (hb hby at_1) ?_
    show Steps p.tables e below (s₁.setTop (mkF m 2 #[.val (.int p0), .val (.int p1), .unset, .unset, .unset, .unset] [(.int (1 : Int32)), (.int p1)])) _
    refine XS.iand X0.here hx rfl (hb hby at_2) rfl ?_
    show Steps p.tables e below (s₁.setTop (mkF m 3 #[.val (.int p0), .val (.int p1), .unset, .unset, .unset, .unset] [(.int (p1 &&& (1 : Int32)))])) _
    refine XS.ifYes X0.here hx rfl (pc0 := 3) (pc' := 10) rfl (hb hby at_3) rfl ((if0 _ _).trans (teq (hs : (p1 &&& (1 : Int32)) = (0 : Int32))).1) (by decide) (by decide) ?_
    show Steps p.tables e below (s₁.setTop (mkF m 10 #[.val (.int p0), .val (.int p1), .unset, .unset, .unset, .unset] [])) _
    refine XS.iloadN X0.here hx rfl (hb hby at_10) rfl ?_
    show Steps p.tables e below (s₁.setTop (mkF m 11 #[.val (.int p0), .val (.int p1), .unset, .unset, .unset, .unset] [(.int p1)])) _
    refine XS.iconst X0.here hx rfl (hb hby at_11) ?_
    show Steps p.tables e below (s₁.setTop (mkF m 12 #[.val (.int p0), .val (.int p1), .unset, .unset, .unset, .unset] [(.int (1 : Int32)), (.int p1)])) _
    refine XS.iushr X0.here hx rfl (hb hby at_12) rfl ?_
    show Steps p.tables e below (s₁.setTop (mkF m 13 #[.val (.int p0), .val (.int p1), .unset, .unset, .unset, .unset] [(.int ((p1.toUInt32 >>> ((1 : Int32) &&& 31).toUInt32).toInt32))])) _
    refine XS.bipush X0.here hx rfl (hb hby at_13) ?_
    show Steps p.tables e below (s₁.setTop (mkF m 15 #[.val (.int p0), .val (.int p1), .unset, .unset, .unset, .unset] [(.int (15 : Int32)), (.int ((p1.toUInt32 >>> ((1 : Int32) &&& 31).toUInt32).toInt32))])) _
    refine XS.iand X0.here hx rfl (hb hby at_15) rfl ?_
    show Steps p.tables e below (s₁.setTop (mkF m 16 #[.val (.int p0), .val (.int p1), .unset, .unset, .unset, .unset] [(.int (((p1.toUInt32 >>> ((1 : Int32) &&& 31).toUInt32).toInt32) &&& (15 : Int32)))])) _
    rw [hi13]
    show Steps p.tables e below (s₁.setTop (mkF m 16 #[.val (.int p0), .val (.int p1), .unset, .unset, .unset, .unset] [(.int (13 : Int32))])) _
    refine XS.istoreN X0.here hx rfl (hb hby at_16) rfl (l' := #[.val (.int p0), .val (.int p1), .val (.int (13 : Int32)), .unset, .unset, .unset]) rfl ?_
    show Steps p.tables e below (s₁.setTop (mkF m 17 #[.val (.int p0), .val (.int p1), .val (.int (13 : Int32)), .unset, .unset, .unset] [])) _
    refine XS.iloadN X0.here hx rfl (hb hby at_17) rfl ?_
    show Steps p.tables e below (s₁.setTop (mkF m 18 #[.val (.int p0), .val (.int p1), .val (.int (13 : Int32)), .unset, .unset, .unset] [(.int (13 : Int32))])) _
    refine st1 _ ?_
    show Steps p.tables e below (T1.setTop (mkF m 21 #[.val (.int p0), .val (.int p1), .val (.int (13 : Int32)), .unset, .unset, .unset] [.null])) _
    refine XS.astoreN X1.here hx rfl (hb hby at_21) rfl rfl (l' := #[.val (.int p0), .val (.int p1), .val (.int (13 : Int32)), .val .null, .unset, .unset]) rfl ?_
    show Steps p.tables e below (T1.setTop (mkF m 22 #[.val (.int p0), .val (.int p1), .val (.int (13 : Int32)), .val .null, .unset, .unset] [])) _
    refine XS.iloadN X1.here hx rfl (hb hby at_22) rfl ?_
    show Steps p.tables e below (T1.setTop (mkF m 23 #[.val (.int p0), .val (.int p1), .val (.int (13 : Int32)), .val .null, .unset, .unset] [(.int (13 : Int32))])) _
    refine XS.iconst X1.here hx rfl (hb hby at_23) ?_
    show Steps p.tables e below (T1.setTop (mkF m 24 #[.val (.int p0), .val (.int p1), .val (.int (13 : Int32)), .val .null, .unset, .unset] [(.int (2 : Int32)), (.int (13 : Int32))])) _
    refine XS.icmpNo X1.here hx rfl (hb hby at_24) rfl (feq (by decide : ¬ ((13 : Int32) = (2 : Int32)))).1 ?_
    show Steps p.tables e below (T1.setTop (mkF m 27 #[.val (.int p0), .val (.int p1), .val (.int (13 : Int32)), .val .null, .unset, .unset] [])) _
    refine XS.iloadN X1.here hx rfl (hb hby at_27) rfl ?_
    show Steps p.tables e below (T1.setTop (mkF m 28 #[.val (.int p0), .val (.int p1), .val (.int (13 : Int32)), .val .null, .unset, .unset] [(.int (13 : Int32))])) _
    refine XS.iconst X1.here hx rfl (hb hby at_28) ?_
    show Steps p.tables e below (T1.setTop (mkF m 29 #[.val (.int p0), .val (.int p1), .val (.int (13 : Int32)), .val .null, .unset, .unset] [(.int (4 : Int32)), (.int (13 : Int32))])) _
    refine XS.icmpNo X1.here hx rfl (hb hby at_29) rfl (flt (by decide : ¬ ((13 : Int32) < (4 : Int32)))).1 ?_
    show Steps p.tables e below (T1.setTop (mkF m 32 #[.val (.int p0), .val (.int p1), .val (.int (13 : Int32)), .val .null, .unset, .unset] [])) _
    refine XS.iloadN X1.here hx rfl (hb hby at_32) rfl ?_
    show Steps p.tables e below (T1.setTop (mkF m 33 #[.val (.int p0), .val (.int p1), .val (.int (13 : Int32)), .val .null, .unset, .unset] [(.int (13 : Int32))])) _
    refine XS.bipush X1.here hx rfl (hb hby at_33) ?_
    show Steps p.tables e below (T1.setTop (mkF m 35 #[.val (.int p0), .val (.int p1), .val (.int (13 : Int32)), .val .null, .unset, .unset] [(.int (11 : Int32)), (.int (13 : Int32))])) _
    refine XS.icmpYes X1.here hx rfl (pc0 := 35) (pc' := 42) rfl (hb hby at_35) rfl (tlt (by decide : (11 : Int32) < (13 : Int32))).2.2.1 (by decide) (by decide) ?_
    show Steps p.tables e below (T1.setTop (mkF m 42 #[.val (.int p0), .val (.int p1), .val (.int (13 : Int32)), .val .null, .unset, .unset] [])) _
    refine XS.iconst X1.here hx rfl (hb hby at_42) ?_
    show Steps p.tables e below (T1.setTop (mkF m 43 #[.val (.int p0), .val (.int p1), .val (.int (13 : Int32)), .val .null, .unset, .unset] [(.int (0 : Int32))])) _
    refine XS.istore X1.here hx rfl (hb hby at_43) rfl (l' := #[.val (.int p0), .val (.int p1), .val (.int (13 : Int32)), .val .null, .val (.int (0 : Int32)), .unset]) rfl ?_
    show Steps p.tables e below (T1.setTop (mkF m 45 #[.val (.int p0), .val (.int p1), .val (.int (13 : Int32)), .val .null, .val (.int (0 : Int32)), .unset] [])) _
    refine XS.iload X1.here hx rfl (hb hby at_45) rfl ?_
    show Steps p.tables e below (T1.setTop (mkF m 47 #[.val (.int p0), .val (.int p1), .val (.int (13 : Int32)), .val .null, .val (.int (0 : Int32)), .unset] [(.int (0 : Int32))])) _
    refine XS.ifNo X1.here hx rfl (hb hby at_47) rfl ((if0 _ _).trans (teq (by decide : (0 : Int32) = (0 : Int32))).2) ?_
    show Steps p.tables e below (T1.setTop (mkF m 50 #[.val (.int p0), .val (.int p1), .val (.int (13 : Int32)), .val .null, .val (.int (0 : Int32)), .unset] [])) _
    refine XS.aloadN X1.here hx rfl (hb hby at_50) rfl rfl ?_
    show Steps p.tables e below (T1.setTop (mkF m 51 #[.val (.int p0), .val (.int p1), .val (.int (13 : Int32)), .val .null, .val (.int (0 : Int32)), .unset] [.null])) _
    refine XS.ifnonnullNo X1.here hx rfl (hb hby at_51) rfl ?_
    show Steps p.tables e below (T1.setTop (mkF m 54 #[.val (.int p0), .val (.int p1), .val (.int (13 : Int32)), .val .null, .val (.int (0 : Int32)), .unset] [])) _
    refine XS.iconst X1.here hx rfl (hb hby at_54) ?_
    show Steps p.tables e below (T1.setTop (mkF m 55 #[.val (.int p0), .val (.int p1), .val (.int (13 : Int32)), .val .null, .val (.int (0 : Int32)), .unset] [(.int (1 : Int32))])) _
    refine XS.goto X1.here hx rfl (pc0 := 55) (pc' := 59) rfl (hb hby at_55) (by decide) (by decide) ?_
    show Steps p.tables e below (T1.setTop (mkF m 59 #[.val (.int p0), .val (.int p1), .val (.int (13 : Int32)), .val .null, .val (.int (0 : Int32)), .unset] [(.int (1 : Int32))])) _
    exact retOut X1 hx Bd.returns rfl (Or.inl ⟨rfl, Or.inr (Or.inl rfl), _, rfl⟩) (hb hby at_59) hr
  · exact ⟨rfl, N1⟩
set_option maxRecDepth 65536 in
set_option maxHeartbeats 40000000 in
theorem c1_16 (l : Launch) (Z : State) (a0 : Array Value) (hw : ∀ d ∈ tables_1, d.before a0 Z = true) (ws : List Jvm.Cond) (w_INT : Addr) (w_BYTE : Addr) (w_CHAR : Addr) (w_OBJECT : Addr) (w_FLOAT : Addr) (w_DOUBLE : Addr) (w_LONG : Addr) (w_SHORT : Addr) (w_BOOLEAN : Addr) (h0 : Heap) (n0 : Nat) (Z0 : n0 ≤ h0.size) (G : Glob Z h0 w_INT w_BYTE w_CHAR w_OBJECT w_FLOAT w_DOUBLE w_LONG w_SHORT w_BOOLEAN)  :
    MetFree l (⟨"com/example/refleash/refleash/hprof/BasicType", "of", "(I)Lcom/example/refleash/refleash/hprof/BasicType;"⟩ : MethodName) (head1 (Jvm.Cond.code (⟨"com/example/refleash/refleash/hprof/BasicType", "of", "(I)Lcom/example/refleash/refleash/hprof/BasicType;"⟩ : MethodName) prog_56_method_4_code 1 (some (.object "com/example/refleash/refleash/hprof/BasicType")) :: ws) ({ frames := 0, cells := 0, slots := 0, locals := 0 } : Room)) (fun a U => a = #[(.int (14 : Int32))] ∧ Z.Warmed39 U.vm ∧ U.heap = h0) (fun _ _ _ _ _ => True) (fun _ U o U' => ∃ v L, o = .returned v ∧ QR (some .null) h0 n0 v U'.heap L ∧ FrameEnd U o U' L ({ frames := 0, cells := 0, slots := 0, locals := 0 } : Room).cells ({ frames := 0, cells := 0, slots := 0, locals := 0 } : Room).slots) := by
  refine MetFree.of_bodySF (plainFor_of_name pn_com_example_refleash_refleash_hprof_BasicType) hisR ?_
  intro p e s m args below meth c s₁ Bd hml0 hP hK
  obtain ⟨rfl, hZ, hh⟩ := hP
  have hx := Bd.exec
  have hby := Bd.bytes
  have hml : c.maxLocals = 1 := hml0
  have hown : s.vm.findClass "com/example/refleash/refleash/hprof/BasicType" = some m.cls := findClass_of_methodNamed Bd.named
  have X0 : Stand p l e ({ frames := 0, cells := 0, slots := 0, locals := 0 } : Room) s m #[(.int (14 : Int32))] below meth c s₁ [] 0 0 := Stand.of_body Bd
  have e0 : s₁.heap = h0 := by rw [← hh, Bd.state]; rfl
  have N0 := Fr.nil n0
  have pre0 : ∀ t, Steps p.tables e below (s₁.setTop (mkF m 0 #[.val (.int (14 : Int32))] [])) t → Steps p.tables e below (s₁.setTop (entryFrame m #[(.int (14 : Int32))] 1)) t := fun t k => castTop (ef_1_I m (14 : Int32)) k
  have G' := G
  obtain ⟨S_w_INT, E_w_INT, F_ordinal_w_INT, S_w_BYTE, E_w_BYTE, F_ordinal_w_BYTE, S_w_CHAR, E_w_CHAR, F_ordinal_w_CHAR, S_w_OBJECT, E_w_OBJECT, F_ordinal_w_OBJECT, S_w_FLOAT, E_w_FLOAT, F_ordinal_w_FLOAT, S_w_DOUBLE, E_w_DOUBLE, F_ordinal_w_DOUBLE, S_w_LONG, E_w_LONG, F_ordinal_w_LONG, S_w_SHORT, E_w_SHORT, F_ordinal_w_SHORT, S_w_BOOLEAN, E_w_BOOLEAN, F_ordinal_w_BOOLEAN⟩ := G'
  obtain ⟨fs, hr, hrun, hended, hW, hsame⟩ := X0.leave (v := some .null) (fun h => by rw [Bd.returns] at h; cases h)
  refine ⟨_, _, pre0 _ ?_, hrun, hended, _, _, rfl, ?_, ⟨_, rfl⟩, hW, hsame.mono (by decide) (by decide)⟩
  · show Steps p.tables e below (s₁.setTop (mkF m 0 #[.val (.int (14 : Int32))] [])) _
    refine XS.iloadN X0.here hx rfl (hb hby d1_0) rfl ?_
    show Steps p.tables e below (s₁.setTop (mkF m 1 #[.val (.int (14 : Int32))] [(.int (14 : Int32))])) _
    refine XS.tswOut X0.here hx rfl (pc0 := 1) (pc' := 110) rfl (hb hby d1_1) rfl (by decide) (by decide) (by decide) ?_
    show Steps p.tables e below (s₁.setTop (mkF m 110 #[.val (.int (14 : Int32))] [])) _
    refine XS.aconstNull X0.here hx rfl (hb hby d1_110) ?_
    show Steps p.tables e below (s₁.setTop (mkF m 111 #[.val (.int (14 : Int32))] [.null])) _
    exact retOut X0 hx Bd.returns rfl (Or.inr (Or.inr (Or.inr (Or.inr ⟨rfl, rfl, rfl⟩)))) (hb hby d1_111) hr
  · show QR _ h0 n0 _ s₁.heap _
    rw [e0]
    exact ⟨rfl, N0, rfl⟩
set_option maxRecDepth 65536 in
set_option maxHeartbeats 40000000 in
theorem sel_14 (l : Launch) (Z : State) (a0 : Array Value) (hw : ∀ d ∈ tables_1, d.before a0 Z = true) (ws : List Jvm.Cond) (w_INT : Addr) (w_BYTE : Addr) (w_CHAR : Addr) (w_OBJECT : Addr) (w_FLOAT : Addr) (w_DOUBLE : Addr) (w_LONG : Addr) (w_SHORT : Addr) (w_BOOLEAN : Addr) (h0 : Heap) (n0 : Nat) (Z0 : n0 ≤ h0.size) (G : Glob Z h0 w_INT w_BYTE w_CHAR w_OBJECT w_FLOAT w_DOUBLE w_LONG w_SHORT w_BOOLEAN) (p0 p1 : Int32) (hs : (p1 &&& (1 : Int32)) = (0 : Int32)) (hi14 : (((p1.toUInt32 >>> ((1 : Int32) &&& 31).toUInt32).toInt32) &&& (15 : Int32)) = (14 : Int32)) :
    MetFree l x (head1 (Jvm.Cond.code x code maxLocals ret :: ws) room_1) (fun a U => a = #[(.int p0), (.int p1)] ∧ Z.Warmed39 U.vm ∧ U.heap = h0) (fun _ _ _ _ _ => True) (fun _ U o U' => ∃ v L, o = .returned v ∧ QL (some (.int (1 : Int32))) h0 n0 v U'.heap L ∧ FrameEnd U o U' L room_1.cells room_1.slots) := by
  refine MetFree.of_bodySF (plainFor_of_name pn_com_example_refleash_refleash_hprof_BasicTypeOfPinLaw) hisR ?_
  intro p e s m args below meth c s₁ Bd hml0 hP hK
  obtain ⟨rfl, hZ, hh⟩ := hP
  have hx := Bd.exec
  have hby := Bd.bytes
  have hml : c.maxLocals = 6 := hml0
  have hown : s.vm.findClass "com/example/refleash/refleash/hprof/BasicTypeOfPinLaw" = some m.cls := findClass_of_methodNamed Bd.named
  have X0 : Stand p l e room_1 s m #[(.int p0), (.int p1)] below meth c s₁ [] 0 0 := Stand.of_body Bd
  have e0 : s₁.heap = h0 := by rw [← hh, Bd.state]; rfl
  have N0 := Fr.nil n0
  have pre0 : ∀ t, Steps p.tables e below (s₁.setTop (mkF m 0 #[.val (.int p0), .val (.int p1), .unset, .unset, .unset, .unset] [])) t → Steps p.tables e below (s₁.setTop (entryFrame m #[(.int p0), (.int p1)] maxLocals)) t := fun t k => castTop (ef_0_II m p0 p1) k
  have G' := G
  obtain ⟨S_w_INT, E_w_INT, F_ordinal_w_INT, S_w_BYTE, E_w_BYTE, F_ordinal_w_BYTE, S_w_CHAR, E_w_CHAR, F_ordinal_w_CHAR, S_w_OBJECT, E_w_OBJECT, F_ordinal_w_OBJECT, S_w_FLOAT, E_w_FLOAT, F_ordinal_w_FLOAT, S_w_DOUBLE, E_w_DOUBLE, F_ordinal_w_DOUBLE, S_w_LONG, E_w_LONG, F_ordinal_w_LONG, S_w_SHORT, E_w_SHORT, F_ordinal_w_SHORT, S_w_BOOLEAN, E_w_BOOLEAN, F_ordinal_w_BOOLEAN⟩ := G'
  obtain ⟨_, _, ⟨T1, L1, k1, n1⟩, -, X1, ⟨Lc1, hQ1, l1, y1, z1⟩, st1⟩ := Jvm.LawKit.callS X0 hx (y := (⟨"com/example/refleash/refleash/hprof/BasicType", "of", "(I)Lcom/example/refleash/refleash/hprof/BasicType;"⟩ : MethodName)) hown (mvT hZ (hw _ (List.mem_of_getElem? (i := 0) rfl))) (mvT hZ (hw _ (List.mem_of_getElem? (i := 1) rfl))) (mvT hZ (hw _ (List.mem_of_getElem? (i := 2) rfl))) (mvT hZ (hw _ (List.mem_of_getElem? (i := 3) rfl))) (by decide) (backOf (W := 0) (c1_16 l Z a0 hw [] w_INT w_BYTE w_CHAR w_OBJECT w_FLOAT w_DOUBLE w_LONG w_SHORT w_BOOLEAN h0 n0 Z0 G) hZ (hw _ (List.mem_of_getElem? (i := 3) rfl)) (hw _ (List.mem_of_getElem? (i := 2) rfl)) (by decide) (by decide)) (g := (mkF m 18 #[.val (.int p0), .val (.int p1), .val (.int (14 : Int32)), .unset, .unset, .unset] [(.int (14 : Int32))])) rfl (by rw [hml]; rfl) (argsL := [(.int (14 : Int32))]) (rest := []) (lenOf pd__I_Lcom_example_refleash_refleash_hprof_BasicType_ rfl) rfl (by show 2 * 0 + _ ≤ _; exact Nat.le_of_eq rfl) (hb hby at_18) (fun _ _ => ⟨rfl, e0, (by decide : 0 + 0 ≤ _), (by decide : 0 + 0 ≤ _)⟩)
  dsimp only [Pt.U, Pt.locs, Pt.cells, Pt.slots] at X1 l1 y1 z1 st1 hQ1
  subst l1 y1 z1
  obtain ⟨rfl, N1q, e1⟩ := hQ1
  have N1 := Fr.app N0 N1q
  obtain ⟨fs, hr, hrun, hended, hW, hsame⟩ := X1.leave (v := some (.int (1 : Int32))) (fun h => by rw [Bd.returns] at h; cases h)
  refine ⟨_, _, pre0 _ ?_, hrun, hended, _, _, rfl, ?_, ⟨_, rfl⟩, hW, hsame.mono (by decide) (by decide)⟩
  · show Steps p.tables e below (s₁.setTop (mkF m 0 #[.val (.int p0), .val (.int p1), .unset, .unset, .unset, .unset] [])) _
    refine XS.iloadN X0.here hx rfl (hb hby at_0) rfl ?_
    show Steps p.tables e below (s₁.setTop (mkF m 1 #[.val (.int p0), .val (.int p1), .unset, .unset, .unset, .unset] [(.int p1)])) _
    refine XS.iconst X0.here hx rfl (hb hby at_1) ?_
    show Steps p.tables e below (s₁.setTop (mkF m 2 #[.val (.int p0), .val (.int p1), .unset, .unset, .unset, .unset] [(.int (1 : Int32)), (.int p1)])) _
    refine XS.iand X0.here hx rfl (hb hby at_2) rfl ?_
    show Steps p.tables e below (s₁.setTop (mkF m 3 #[.val (.int p0), .val (.int p1), .unset, .unset, .unset, .unset] [(.int (p1 &&& (1 : Int32)))])) _
    refine XS.ifYes X0.here hx rfl (pc0 := 3) (pc' := 10) rfl (hb hby at_3) rfl ((if0 _ _).trans (teq (hs : (p1 &&& (1 : Int32)) = (0 : Int32))).1) (by decide) (by decide) ?_
    show Steps p.tables e below (s₁.setTop (mkF m 10 #[.val (.int p0), .val (.int p1), .unset, .unset, .unset, .unset] [])) _
    refine XS.iloadN X0.here hx rfl (hb hby at_10) rfl ?_
    show Steps p.tables e below (s₁.setTop (mkF m 11 #[.val (.int p0), .val (.int p1), .unset, .unset, .unset, .unset] [(.int p1)])) _
    refine XS.iconst X0.here hx rfl (hb hby at_11) ?_
    show Steps p.tables e below (s₁.setTop (mkF m 12 #[.val (.int p0), .val (.int p1), .unset, .unset, .unset, .unset] [(.int (1 : Int32)), (.int p1)])) _
    refine XS.iushr X0.here hx rfl (hb hby at_12) rfl ?_
    show Steps p.tables e below (s₁.setTop (mkF m 13 #[.val (.int p0), .val (.int p1), .unset, .unset, .unset, .unset] [(.int ((p1.toUInt32 >>> ((1 : Int32) &&& 31).toUInt32).toInt32))])) _
    refine XS.bipush X0.here hx rfl (hb hby at_13) ?_
    show Steps p.tables e below (s₁.setTop (mkF m 15 #[.val (.int p0), .val (.int p1), .unset, .unset, .unset, .unset] [(.int (15 : Int32)), (.int ((p1.toUInt32 >>> ((1 : Int32) &&& 31).toUInt32).toInt32))])) _
    refine XS.iand X0.here hx rfl (hb hby at_15) rfl ?_
    show Steps p.tables e below (s₁.setTop (mkF m 16 #[.val (.int p0), .val (.int p1), .unset, .unset, .unset, .unset] [(.int (((p1.toUInt32 >>> ((1 : Int32) &&& 31).toUInt32).toInt32) &&& (15 : Int32)))])) _
    rw [hi14]
    show Steps p.tables e below (s₁.setTop (mkF m 16 #[.val (.int p0), .val (.int p1), .unset, .unset, .unset, .unset] [(.int (14 : Int32))])) _
    refine XS.istoreN X0.here hx rfl (hb hby at_16) rfl (l' := #[.val (.int p0), .val (.int p1), .val (.int (14 : Int32)), .unset, .unset, .unset]) rfl ?_
    show Steps p.tables e below (s₁.setTop (mkF m 17 #[.val (.int p0), .val (.int p1), .val (.int (14 : Int32)), .unset, .unset, .unset] [])) _
    refine XS.iloadN X0.here hx rfl (hb hby at_17) rfl ?_
    show Steps p.tables e below (s₁.setTop (mkF m 18 #[.val (.int p0), .val (.int p1), .val (.int (14 : Int32)), .unset, .unset, .unset] [(.int (14 : Int32))])) _
    refine st1 _ ?_
    show Steps p.tables e below (T1.setTop (mkF m 21 #[.val (.int p0), .val (.int p1), .val (.int (14 : Int32)), .unset, .unset, .unset] [.null])) _
    refine XS.astoreN X1.here hx rfl (hb hby at_21) rfl rfl (l' := #[.val (.int p0), .val (.int p1), .val (.int (14 : Int32)), .val .null, .unset, .unset]) rfl ?_
    show Steps p.tables e below (T1.setTop (mkF m 22 #[.val (.int p0), .val (.int p1), .val (.int (14 : Int32)), .val .null, .unset, .unset] [])) _
    refine XS.iloadN X1.here hx rfl (hb hby at_22) rfl ?_
    show Steps p.tables e below (T1.setTop (mkF m 23 #[.val (.int p0), .val (.int p1), .val (.int (14 : Int32)), .val .null, .unset, .unset] [(.int (14 : Int32))])) _
    refine XS.iconst X1.here hx rfl (hb hby at_23) ?_
    show Steps p.tables e below (T1.setTop (mkF m 24 #[.val (.int p0), .val (.int p1), .val (.int (14 : Int32)), .val .null, .unset, .unset] [(.int (2 : Int32)), (.int (14 : Int32))])) _
    refine XS.icmpNo X1.here hx rfl (hb hby at_24) rfl (feq (by decide : ¬ ((14 : Int32) = (2 : Int32)))).1 ?_
    show Steps p.tables e below (T1.setTop (mkF m 27 #[.val (.int p0), .val (.int p1), .val (.int (14 : Int32)), .val .null, .unset, .unset] [])) _
    refine XS.iloadN X1.here hx rfl (hb hby at_27) rfl ?_
    show Steps p.tables e below (T1.setTop (mkF m 28 #[.val (.int p0), .val (.int p1), .val (.int (14 : Int32)), .val .null, .unset, .unset] [(.int (14 : Int32))])) _
    refine XS.iconst X1.here hx rfl (hb hby at_28) ?_
    show Steps p.tables e below (T1.setTop (mkF m 29 #[.val (.int p0), .val (.int p1), .val (.int (14 : Int32)), .val .null, .unset, .unset] [(.int (4 : Int32)), (.int (14 : Int32))])) _
    refine XS.icmpNo X1.here hx rfl (hb hby at_29) rfl (flt (by decide : ¬ ((14 : Int32) < (4 : Int32)))).1 ?_
    show Steps p.tables e below (T1.setTop (mkF m 32 #[.val (.int p0), .val (.int p1), .val (.int (14 : Int32)), .val .null, .unset, .unset] [])) _
    refine XS.iloadN X1.here hx rfl (hb hby at_32) rfl ?_
    show Steps p.tables e below (T1.setTop (mkF m 33 #[.val (.int p0), .val (.int p1), .val (.int (14 : Int32)), .val .null, .unset, .unset] [(.int (14 : Int32))])) _
    refine XS.bipush X1.here hx rfl (hb hby at_33) ?_
    show Steps p.tables e below (T1.setTop (mkF m 35 #[.val (.int p0), .val (.int p1), .val (.int (14 : Int32)), .val .null, .unset, .unset] [(.int (11 : Int32)), (.int (14 : Int32))])) _
    refine XS.icmpYes X1.here hx rfl (pc0 := 35) (pc' := 42) rfl (hb hby at_35) rfl (tlt (by decide : (11 : Int32) < (14 : Int32))).2.2.1 (by decide) (by decide) ?_
    show Steps p.tables e below (T1.setTop (mkF m 42 #[.val (.int p0), .val (.int p1), .val (.int (14 : Int32)), .val .null, .unset, .unset] [])) _
    refine XS.iconst X1.here hx rfl (hb hby at_42) ?_
    show Steps p.tables e below (T1.setTop (mkF m 43 #[.val (.int p0), .val (.int p1), .val (.int (14 : Int32)), .val .null, .unset, .unset] [(.int (0 : Int32))])) _
    refine XS.istore X1.here hx rfl (hb hby at_43) rfl (l' := #[.val (.int p0), .val (.int p1), .val (.int (14 : Int32)), .val .null, .val (.int (0 : Int32)), .unset]) rfl ?_
    show Steps p.tables e below (T1.setTop (mkF m 45 #[.val (.int p0), .val (.int p1), .val (.int (14 : Int32)), .val .null, .val (.int (0 : Int32)), .unset] [])) _
    refine XS.iload X1.here hx rfl (hb hby at_45) rfl ?_
    show Steps p.tables e below (T1.setTop (mkF m 47 #[.val (.int p0), .val (.int p1), .val (.int (14 : Int32)), .val .null, .val (.int (0 : Int32)), .unset] [(.int (0 : Int32))])) _
    refine XS.ifNo X1.here hx rfl (hb hby at_47) rfl ((if0 _ _).trans (teq (by decide : (0 : Int32) = (0 : Int32))).2) ?_
    show Steps p.tables e below (T1.setTop (mkF m 50 #[.val (.int p0), .val (.int p1), .val (.int (14 : Int32)), .val .null, .val (.int (0 : Int32)), .unset] [])) _
    refine XS.aloadN X1.here hx rfl (hb hby at_50) rfl rfl ?_
    show Steps p.tables e below (T1.setTop (mkF m 51 #[.val (.int p0), .val (.int p1), .val (.int (14 : Int32)), .val .null, .val (.int (0 : Int32)), .unset] [.null])) _
    refine XS.ifnonnullNo X1.here hx rfl (hb hby at_51) rfl ?_
    show Steps p.tables e below (T1.setTop (mkF m 54 #[.val (.int p0), .val (.int p1), .val (.int (14 : Int32)), .val .null, .val (.int (0 : Int32)), .unset] [])) _
    refine XS.iconst X1.here hx rfl (hb hby at_54) ?_
    show Steps p.tables e below (T1.setTop (mkF m 55 #[.val (.int p0), .val (.int p1), .val (.int (14 : Int32)), .val .null, .val (.int (0 : Int32)), .unset] [(.int (1 : Int32))])) _
    refine XS.goto X1.here hx rfl (pc0 := 55) (pc' := 59) rfl (hb hby at_55) (by decide) (by decide) ?_
    show Steps p.tables e below (T1.setTop (mkF m 59 #[.val (.int p0), .val (.int p1), .val (.int (14 : Int32)), .val .null, .val (.int (0 : Int32)), .unset] [(.int (1 : Int32))])) _
    exact retOut X1 hx Bd.returns rfl (Or.inl ⟨rfl, Or.inr (Or.inl rfl), _, rfl⟩) (hb hby at_59) hr
  · exact ⟨rfl, N1⟩
set_option maxRecDepth 65536 in
set_option maxHeartbeats 40000000 in
theorem c1_17 (l : Launch) (Z : State) (a0 : Array Value) (hw : ∀ d ∈ tables_1, d.before a0 Z = true) (ws : List Jvm.Cond) (w_INT : Addr) (w_BYTE : Addr) (w_CHAR : Addr) (w_OBJECT : Addr) (w_FLOAT : Addr) (w_DOUBLE : Addr) (w_LONG : Addr) (w_SHORT : Addr) (w_BOOLEAN : Addr) (h0 : Heap) (n0 : Nat) (Z0 : n0 ≤ h0.size) (G : Glob Z h0 w_INT w_BYTE w_CHAR w_OBJECT w_FLOAT w_DOUBLE w_LONG w_SHORT w_BOOLEAN)  :
    MetFree l (⟨"com/example/refleash/refleash/hprof/BasicType", "of", "(I)Lcom/example/refleash/refleash/hprof/BasicType;"⟩ : MethodName) (head1 (Jvm.Cond.code (⟨"com/example/refleash/refleash/hprof/BasicType", "of", "(I)Lcom/example/refleash/refleash/hprof/BasicType;"⟩ : MethodName) prog_56_method_4_code 1 (some (.object "com/example/refleash/refleash/hprof/BasicType")) :: ws) ({ frames := 0, cells := 0, slots := 0, locals := 0 } : Room)) (fun a U => a = #[(.int (15 : Int32))] ∧ Z.Warmed39 U.vm ∧ U.heap = h0) (fun _ _ _ _ _ => True) (fun _ U o U' => ∃ v L, o = .returned v ∧ QR (some .null) h0 n0 v U'.heap L ∧ FrameEnd U o U' L ({ frames := 0, cells := 0, slots := 0, locals := 0 } : Room).cells ({ frames := 0, cells := 0, slots := 0, locals := 0 } : Room).slots) := by
  refine MetFree.of_bodySF (plainFor_of_name pn_com_example_refleash_refleash_hprof_BasicType) hisR ?_
  intro p e s m args below meth c s₁ Bd hml0 hP hK
  obtain ⟨rfl, hZ, hh⟩ := hP
  have hx := Bd.exec
  have hby := Bd.bytes
  have hml : c.maxLocals = 1 := hml0
  have hown : s.vm.findClass "com/example/refleash/refleash/hprof/BasicType" = some m.cls := findClass_of_methodNamed Bd.named
  have X0 : Stand p l e ({ frames := 0, cells := 0, slots := 0, locals := 0 } : Room) s m #[(.int (15 : Int32))] below meth c s₁ [] 0 0 := Stand.of_body Bd
  have e0 : s₁.heap = h0 := by rw [← hh, Bd.state]; rfl
  have N0 := Fr.nil n0
  have pre0 : ∀ t, Steps p.tables e below (s₁.setTop (mkF m 0 #[.val (.int (15 : Int32))] [])) t → Steps p.tables e below (s₁.setTop (entryFrame m #[(.int (15 : Int32))] 1)) t := fun t k => castTop (ef_1_I m (15 : Int32)) k
  have G' := G
  obtain ⟨S_w_INT, E_w_INT, F_ordinal_w_INT, S_w_BYTE, E_w_BYTE, F_ordinal_w_BYTE, S_w_CHAR, E_w_CHAR, F_ordinal_w_CHAR, S_w_OBJECT, E_w_OBJECT, F_ordinal_w_OBJECT, S_w_FLOAT, E_w_FLOAT, F_ordinal_w_FLOAT, S_w_DOUBLE, E_w_DOUBLE, F_ordinal_w_DOUBLE, S_w_LONG, E_w_LONG, F_ordinal_w_LONG, S_w_SHORT, E_w_SHORT, F_ordinal_w_SHORT, S_w_BOOLEAN, E_w_BOOLEAN, F_ordinal_w_BOOLEAN⟩ := G'
  obtain ⟨fs, hr, hrun, hended, hW, hsame⟩ := X0.leave (v := some .null) (fun h => by rw [Bd.returns] at h; cases h)
  refine ⟨_, _, pre0 _ ?_, hrun, hended, _, _, rfl, ?_, ⟨_, rfl⟩, hW, hsame.mono (by decide) (by decide)⟩
  · show Steps p.tables e below (s₁.setTop (mkF m 0 #[.val (.int (15 : Int32))] [])) _
    refine XS.iloadN X0.here hx rfl (hb hby d1_0) rfl ?_
    show Steps p.tables e below (s₁.setTop (mkF m 1 #[.val (.int (15 : Int32))] [(.int (15 : Int32))])) _
    refine XS.tswOut X0.here hx rfl (pc0 := 1) (pc' := 110) rfl (hb hby d1_1) rfl (by decide) (by decide) (by decide) ?_
    show Steps p.tables e below (s₁.setTop (mkF m 110 #[.val (.int (15 : Int32))] [])) _
    refine XS.aconstNull X0.here hx rfl (hb hby d1_110) ?_
    show Steps p.tables e below (s₁.setTop (mkF m 111 #[.val (.int (15 : Int32))] [.null])) _
    exact retOut X0 hx Bd.returns rfl (Or.inr (Or.inr (Or.inr (Or.inr ⟨rfl, rfl, rfl⟩)))) (hb hby d1_111) hr
  · show QR _ h0 n0 _ s₁.heap _
    rw [e0]
    exact ⟨rfl, N0, rfl⟩
set_option maxRecDepth 65536 in
set_option maxHeartbeats 40000000 in
theorem sel_15 (l : Launch) (Z : State) (a0 : Array Value) (hw : ∀ d ∈ tables_1, d.before a0 Z = true) (ws : List Jvm.Cond) (w_INT : Addr) (w_BYTE : Addr) (w_CHAR : Addr) (w_OBJECT : Addr) (w_FLOAT : Addr) (w_DOUBLE : Addr) (w_LONG : Addr) (w_SHORT : Addr) (w_BOOLEAN : Addr) (h0 : Heap) (n0 : Nat) (Z0 : n0 ≤ h0.size) (G : Glob Z h0 w_INT w_BYTE w_CHAR w_OBJECT w_FLOAT w_DOUBLE w_LONG w_SHORT w_BOOLEAN) (p0 p1 : Int32) (hs : (p1 &&& (1 : Int32)) = (0 : Int32)) (hi15 : (((p1.toUInt32 >>> ((1 : Int32) &&& 31).toUInt32).toInt32) &&& (15 : Int32)) = (15 : Int32)) :
    MetFree l x (head1 (Jvm.Cond.code x code maxLocals ret :: ws) room_1) (fun a U => a = #[(.int p0), (.int p1)] ∧ Z.Warmed39 U.vm ∧ U.heap = h0) (fun _ _ _ _ _ => True) (fun _ U o U' => ∃ v L, o = .returned v ∧ QL (some (.int (1 : Int32))) h0 n0 v U'.heap L ∧ FrameEnd U o U' L room_1.cells room_1.slots) := by
  refine MetFree.of_bodySF (plainFor_of_name pn_com_example_refleash_refleash_hprof_BasicTypeOfPinLaw) hisR ?_
  intro p e s m args below meth c s₁ Bd hml0 hP hK
  obtain ⟨rfl, hZ, hh⟩ := hP
  have hx := Bd.exec
  have hby := Bd.bytes
  have hml : c.maxLocals = 6 := hml0
  have hown : s.vm.findClass "com/example/refleash/refleash/hprof/BasicTypeOfPinLaw" = some m.cls := findClass_of_methodNamed Bd.named
  have X0 : Stand p l e room_1 s m #[(.int p0), (.int p1)] below meth c s₁ [] 0 0 := Stand.of_body Bd
  have e0 : s₁.heap = h0 := by rw [← hh, Bd.state]; rfl
  have N0 := Fr.nil n0
  have pre0 : ∀ t, Steps p.tables e below (s₁.setTop (mkF m 0 #[.val (.int p0), .val (.int p1), .unset, .unset, .unset, .unset] [])) t → Steps p.tables e below (s₁.setTop (entryFrame m #[(.int p0), (.int p1)] maxLocals)) t := fun t k => castTop (ef_0_II m p0 p1) k
  have G' := G
  obtain ⟨S_w_INT, E_w_INT, F_ordinal_w_INT, S_w_BYTE, E_w_BYTE, F_ordinal_w_BYTE, S_w_CHAR, E_w_CHAR, F_ordinal_w_CHAR, S_w_OBJECT, E_w_OBJECT, F_ordinal_w_OBJECT, S_w_FLOAT, E_w_FLOAT, F_ordinal_w_FLOAT, S_w_DOUBLE, E_w_DOUBLE, F_ordinal_w_DOUBLE, S_w_LONG, E_w_LONG, F_ordinal_w_LONG, S_w_SHORT, E_w_SHORT, F_ordinal_w_SHORT, S_w_BOOLEAN, E_w_BOOLEAN, F_ordinal_w_BOOLEAN⟩ := G'
  obtain ⟨_, _, ⟨T1, L1, k1, n1⟩, -, X1, ⟨Lc1, hQ1, l1, y1, z1⟩, st1⟩ := Jvm.LawKit.callS X0 hx (y := (⟨"com/example/refleash/refleash/hprof/BasicType", "of", "(I)Lcom/example/refleash/refleash/hprof/BasicType;"⟩ : MethodName)) hown (mvT hZ (hw _ (List.mem_of_getElem? (i := 0) rfl))) (mvT hZ (hw _ (List.mem_of_getElem? (i := 1) rfl))) (mvT hZ (hw _ (List.mem_of_getElem? (i := 2) rfl))) (mvT hZ (hw _ (List.mem_of_getElem? (i := 3) rfl))) (by decide) (backOf (W := 0) (c1_17 l Z a0 hw [] w_INT w_BYTE w_CHAR w_OBJECT w_FLOAT w_DOUBLE w_LONG w_SHORT w_BOOLEAN h0 n0 Z0 G) hZ (hw _ (List.mem_of_getElem? (i := 3) rfl)) (hw _ (List.mem_of_getElem? (i := 2) rfl)) (by decide) (by decide)) (g := (mkF m 18 #[.val (.int p0), .val (.int p1), .val (.int (15 : Int32)), .unset, .unset, .unset] [(.int (15 : Int32))])) rfl (by rw [hml]; rfl) (argsL := [(.int (15 : Int32))]) (rest := []) (lenOf pd__I_Lcom_example_refleash_refleash_hprof_BasicType_ rfl) rfl (by show 2 * 0 + _ ≤ _; exact Nat.le_of_eq rfl) (hb hby at_18) (fun _ _ => ⟨rfl, e0, (by decide : 0 + 0 ≤ _), (by decide : 0 + 0 ≤ _)⟩)
  dsimp only [Pt.U, Pt.locs, Pt.cells, Pt.slots] at X1 l1 y1 z1 st1 hQ1
  subst l1 y1 z1
  obtain ⟨rfl, N1q, e1⟩ := hQ1
  have N1 := Fr.app N0 N1q
  obtain ⟨fs, hr, hrun, hended, hW, hsame⟩ := X1.leave (v := some (.int (1 : Int32))) (fun h => by rw [Bd.returns] at h; cases h)
  refine ⟨_, _, pre0 _ ?_, hrun, hended, _, _, rfl, ?_, ⟨_, rfl⟩, hW, hsame.mono (by decide) (by decide)⟩
  · show Steps p.tables e below (s₁.setTop (mkF m 0 #[.val (.int p0), .val (.int p1), .unset, .unset, .unset, .unset] [])) _
    refine XS.iloadN X0.here hx rfl (hb hby at_0) rfl ?_
    show Steps p.tables e below (s₁.setTop (mkF m 1 #[.val (.int p0), .val (.int p1), .unset, .unset, .unset, .unset] [(.int p1)])) _
    refine XS.iconst X0.here hx rfl (hb hby at_1) ?_
    show Steps p.tables e below (s₁.setTop (mkF m 2 #[.val (.int p0), .val (.int p1), .unset, .unset, .unset, .unset] [(.int (1 : Int32)), (.int p1)])) _
    refine XS.iand X0.here hx rfl (hb hby at_2) rfl ?_
    show Steps p.tables e below (s₁.setTop (mkF m 3 #[.val (.int p0), .val (.int p1), .unset, .unset, .unset, .unset] [(.int (p1 &&& (1 : Int32)))])) _
    refine XS.ifYes X0.here hx rfl (pc0 := 3) (pc' := 10) rfl (hb hby at_3) rfl ((if0 _ _).trans (teq (hs : (p1 &&& (1 : Int32)) = (0 : Int32))).1) (by decide) (by decide) ?_
    show Steps p.tables e below (s₁.setTop (mkF m 10 #[.val (.int p0), .val (.int p1), .unset, .unset, .unset, .unset] [])) _
    refine XS.iloadN X0.here hx rfl (hb hby at_10) rfl ?_
    show Steps p.tables e below (s₁.setTop (mkF m 11 #[.val (.int p0), .val (.int p1), .unset, .unset, .unset, .unset] [(.int p1)])) _
    refine XS.iconst X0.here hx rfl (hb hby at_11) ?_
    show Steps p.tables e below (s₁.setTop (mkF m 12 #[.val (.int p0), .val (.int p1), .unset, .unset, .unset, .unset] [(.int (1 : Int32)), (.int p1)])) _
    refine XS.iushr X0.here hx rfl (hb hby at_12) rfl ?_
    show Steps p.tables e below (s₁.setTop (mkF m 13 #[.val (.int p0), .val (.int p1), .unset, .unset, .unset, .unset] [(.int ((p1.toUInt32 >>> ((1 : Int32) &&& 31).toUInt32).toInt32))])) _
    refine XS.bipush X0.here hx rfl (hb hby at_13) ?_
    show Steps p.tables e below (s₁.setTop (mkF m 15 #[.val (.int p0), .val (.int p1), .unset, .unset, .unset, .unset] [(.int (15 : Int32)), (.int ((p1.toUInt32 >>> ((1 : Int32) &&& 31).toUInt32).toInt32))])) _
    refine XS.iand X0.here hx rfl (hb hby at_15) rfl ?_
    show Steps p.tables e below (s₁.setTop (mkF m 16 #[.val (.int p0), .val (.int p1), .unset, .unset, .unset, .unset] [(.int (((p1.toUInt32 >>> ((1 : Int32) &&& 31).toUInt32).toInt32) &&& (15 : Int32)))])) _
    rw [hi15]
    show Steps p.tables e below (s₁.setTop (mkF m 16 #[.val (.int p0), .val (.int p1), .unset, .unset, .unset, .unset] [(.int (15 : Int32))])) _
    refine XS.istoreN X0.here hx rfl (hb hby at_16) rfl (l' := #[.val (.int p0), .val (.int p1), .val (.int (15 : Int32)), .unset, .unset, .unset]) rfl ?_
    show Steps p.tables e below (s₁.setTop (mkF m 17 #[.val (.int p0), .val (.int p1), .val (.int (15 : Int32)), .unset, .unset, .unset] [])) _
    refine XS.iloadN X0.here hx rfl (hb hby at_17) rfl ?_
    show Steps p.tables e below (s₁.setTop (mkF m 18 #[.val (.int p0), .val (.int p1), .val (.int (15 : Int32)), .unset, .unset, .unset] [(.int (15 : Int32))])) _
    refine st1 _ ?_
    show Steps p.tables e below (T1.setTop (mkF m 21 #[.val (.int p0), .val (.int p1), .val (.int (15 : Int32)), .unset, .unset, .unset] [.null])) _
    refine XS.astoreN X1.here hx rfl (hb hby at_21) rfl rfl (l' := #[.val (.int p0), .val (.int p1), .val (.int (15 : Int32)), .val .null, .unset, .unset]) rfl ?_
    show Steps p.tables e below (T1.setTop (mkF m 22 #[.val (.int p0), .val (.int p1), .val (.int (15 : Int32)), .val .null, .unset, .unset] [])) _
    refine XS.iloadN X1.here hx rfl (hb hby at_22) rfl ?_
    show Steps p.tables e below (T1.setTop (mkF m 23 #[.val (.int p0), .val (.int p1), .val (.int (15 : Int32)), .val .null, .unset, .unset] [(.int (15 : Int32))])) _
    refine XS.iconst X1.here hx rfl (hb hby at_23) ?_
    show Steps p.tables e below (T1.setTop (mkF m 24 #[.val (.int p0), .val (.int p1), .val (.int (15 : Int32)), .val .null, .unset, .unset] [(.int (2 : Int32)), (.int (15 : Int32))])) _
    refine XS.icmpNo X1.here hx rfl (hb hby at_24) rfl (feq (by decide : ¬ ((15 : Int32) = (2 : Int32)))).1 ?_
    show Steps p.tables e below (T1.setTop (mkF m 27 #[.val (.int p0), .val (.int p1), .val (.int (15 : Int32)), .val .null, .unset, .unset] [])) _
    refine XS.iloadN X1.here hx rfl (hb hby at_27) rfl ?_
    show Steps p.tables e below (T1.setTop (mkF m 28 #[.val (.int p0), .val (.int p1), .val (.int (15 : Int32)), .val .null, .unset, .unset] [(.int (15 : Int32))])) _
    refine XS.iconst X1.here hx rfl (hb hby at_28) ?_
    show Steps p.tables e below (T1.setTop (mkF m 29 #[.val (.int p0), .val (.int p1), .val (.int (15 : Int32)), .val .null, .unset, .unset] [(.int (4 : Int32)), (.int (15 : Int32))])) _
    refine XS.icmpNo X1.here hx rfl (hb hby at_29) rfl (flt (by decide : ¬ ((15 : Int32) < (4 : Int32)))).1 ?_
    show Steps p.tables e below (T1.setTop (mkF m 32 #[.val (.int p0), .val (.int p1), .val (.int (15 : Int32)), .val .null, .unset, .unset] [])) _
    refine XS.iloadN X1.here hx rfl (hb hby at_32) rfl ?_
    show Steps p.tables e below (T1.setTop (mkF m 33 #[.val (.int p0), .val (.int p1), .val (.int (15 : Int32)), .val .null, .unset, .unset] [(.int (15 : Int32))])) _
    refine XS.bipush X1.here hx rfl (hb hby at_33) ?_
    show Steps p.tables e below (T1.setTop (mkF m 35 #[.val (.int p0), .val (.int p1), .val (.int (15 : Int32)), .val .null, .unset, .unset] [(.int (11 : Int32)), (.int (15 : Int32))])) _
    refine XS.icmpYes X1.here hx rfl (pc0 := 35) (pc' := 42) rfl (hb hby at_35) rfl (tlt (by decide : (11 : Int32) < (15 : Int32))).2.2.1 (by decide) (by decide) ?_
    show Steps p.tables e below (T1.setTop (mkF m 42 #[.val (.int p0), .val (.int p1), .val (.int (15 : Int32)), .val .null, .unset, .unset] [])) _
    refine XS.iconst X1.here hx rfl (hb hby at_42) ?_
    show Steps p.tables e below (T1.setTop (mkF m 43 #[.val (.int p0), .val (.int p1), .val (.int (15 : Int32)), .val .null, .unset, .unset] [(.int (0 : Int32))])) _
    refine XS.istore X1.here hx rfl (hb hby at_43) rfl (l' := #[.val (.int p0), .val (.int p1), .val (.int (15 : Int32)), .val .null, .val (.int (0 : Int32)), .unset]) rfl ?_
    show Steps p.tables e below (T1.setTop (mkF m 45 #[.val (.int p0), .val (.int p1), .val (.int (15 : Int32)), .val .null, .val (.int (0 : Int32)), .unset] [])) _
    refine XS.iload X1.here hx rfl (hb hby at_45) rfl ?_
    show Steps p.tables e below (T1.setTop (mkF m 47 #[.val (.int p0), .val (.int p1), .val (.int (15 : Int32)), .val .null, .val (.int (0 : Int32)), .unset] [(.int (0 : Int32))])) _
    refine XS.ifNo X1.here hx rfl (hb hby at_47) rfl ((if0 _ _).trans (teq (by decide : (0 : Int32) = (0 : Int32))).2) ?_
    show Steps p.tables e below (T1.setTop (mkF m 50 #[.val (.int p0), .val (.int p1), .val (.int (15 : Int32)), .val .null, .val (.int (0 : Int32)), .unset] [])) _
    refine XS.aloadN X1.here hx rfl (hb hby at_50) rfl rfl ?_
    show Steps p.tables e below (T1.setTop (mkF m 51 #[.val (.int p0), .val (.int p1), .val (.int (15 : Int32)), .val .null, .val (.int (0 : Int32)), .unset] [.null])) _
    refine XS.ifnonnullNo X1.here hx rfl (hb hby at_51) rfl ?_
    show Steps p.tables e below (T1.setTop (mkF m 54 #[.val (.int p0), .val (.int p1), .val (.int (15 : Int32)), .val .null, .val (.int (0 : Int32)), .unset] [])) _
    refine XS.iconst X1.here hx rfl (hb hby at_54) ?_
    show Steps p.tables e below (T1.setTop (mkF m 55 #[.val (.int p0), .val (.int p1), .val (.int (15 : Int32)), .val .null, .val (.int (0 : Int32)), .unset] [(.int (1 : Int32))])) _
    refine XS.goto X1.here hx rfl (pc0 := 55) (pc' := 59) rfl (hb hby at_55) (by decide) (by decide) ?_
    show Steps p.tables e below (T1.setTop (mkF m 59 #[.val (.int p0), .val (.int p1), .val (.int (15 : Int32)), .val .null, .val (.int (0 : Int32)), .unset] [(.int (1 : Int32))])) _
    exact retOut X1 hx Bd.returns rfl (Or.inl ⟨rfl, Or.inr (Or.inl rfl), _, rfl⟩) (hb hby at_59) hr
  · exact ⟨rfl, N1⟩
theorem own_raw (p : Int32) : p = (2 : Int32) ∨ p = (4 : Int32) ∨ p = (5 : Int32) ∨ p = (6 : Int32) ∨ p = (7 : Int32) ∨ p = (8 : Int32) ∨ p = (9 : Int32) ∨ p = (10 : Int32) ∨ p = (11 : Int32) ∨ p = (3 : Int32) ∨ p < 2 ∨ 11 < p := by
  simp only [← Int32.toInt_inj, Int32.lt_iff_toInt_lt]
  have h2 : ((2 : Int32)).toInt = 2 := by decide
  have h3 : ((3 : Int32)).toInt = 3 := by decide
  have h4 : ((4 : Int32)).toInt = 4 := by decide
  have h5 : ((5 : Int32)).toInt = 5 := by decide
  have h6 : ((6 : Int32)).toInt = 6 := by decide
  have h7 : ((7 : Int32)).toInt = 7 := by decide
  have h8 : ((8 : Int32)).toInt = 8 := by decide
  have h9 : ((9 : Int32)).toInt = 9 := by decide
  have h10 : ((10 : Int32)).toInt = 10 := by decide
  have h11 : ((11 : Int32)).toInt = 11 := by decide
  omega
set_option maxRecDepth 65536 in
set_option maxHeartbeats 40000000 in
theorem comes_1 {Post : Tables → Env → Array Value → State → Outcome → State → Prop} (hpost : ∀ tb e args s v u, (limb_1_1.after args s (.returned v) u = true ∧ limb_1_2.after args s (.returned v) u = true) → FrameEnd s (.returned v) u (Jvm.fieldLocs frame_1_writes args s ++ Jvm.arrayLocs frame_1_arrays args s ++ Jvm.staticLocs frame_1_statics s) 0 0 → Post tb e args s (.returned v) u) :
    ArmFor flags0 classFile x code maxLocals ret World_1 tables_1 room_1 Calls_1 rest_1 Pre_1 Post := by
  intro l hfl _ _ p e ha hc hk s m args below hf hA hF happ hP
  obtain ⟨hcalls, hrest, hpre⟩ := hP
  obtain ⟨-, -, -, hnamed, -, -, -, hat⟩ := (Spec.applies_iff hf).mp happ
  obtain ⟨hg, n⟩ := and_e (Cond.before_iff.mp (show (Jvm.Cond.and given_1 narrow_1).before args s = true from hpre))
  obtain ⟨gc, q0⟩ := and_e hg
  obtain ⟨g0, g1⟩ := and_e q0
  obtain ⟨w0, w1, rfl⟩ : ∃ w0 w1 : Value, args = #[w0, w1] := by
    have hs : args.size = 2 := by simpa [Cond.value, given_1] using gc
    obtain ⟨L⟩ := args
    match L, hs with
    | [w0, w1], _ => exact ⟨w0, w1, rfl⟩
  have hw := fun d (hd : d ∈ tables_1) => atoms_spec (ws := Jvm.Cond.code x code maxLocals ret :: tables_1) hat d (List.mem_cons_of_mem _ hd)
  obtain ⟨i0, ei0⟩ := is_v g0
  obtain rfl : w0 = (.int i0) := Option.some.inj ei0
  obtain ⟨i1, ei1⟩ := is_v g1
  obtain rfl : w1 = (.int i1) := Option.some.inj ei1
  obtain ⟨n1, n2⟩ := and_e n
  obtain ⟨n21, n22⟩ := and_e n2
  obtain ⟨n221, n222⟩ := and_e n22
  obtain ⟨n2221, n2222⟩ := and_e n222
  obtain ⟨n22221, n22222⟩ := and_e n2222
  obtain ⟨n222221, n222222⟩ := and_e n22222
  obtain ⟨n2222221, n2222222⟩ := and_e n222222
  obtain ⟨n22222221, n22222222⟩ := and_e n2222222
  obtain ⟨n222222221, n222222222⟩ := and_e n22222222
  obtain ⟨n2222222221, n2222222222⟩ := and_e n222222222
  obtain ⟨n22222222221, n22222222222⟩ := and_e n2222222222
  obtain ⟨n222222222221, n222222222222⟩ := and_e n22222222222
  obtain ⟨n2222222222221, n2222222222222⟩ := and_e n222222222222
  obtain ⟨n22222222222221, n22222222222222⟩ := and_e n2222222222222
  obtain ⟨n222222222222221, n222222222222222⟩ := and_e n22222222222222
  obtain ⟨n2222222222222221, n2222222222222222⟩ := and_e n222222222222222
  obtain ⟨n22222222222222221, n22222222222222222⟩ := and_e n2222222222222222
  obtain ⟨w_INT, v_w_INT⟩ := exa_v n1
  have S_w_INT : Sta s s.heap "com/example/refleash/refleash/hprof/BasicType" "INT" "Lcom/example/refleash/refleash/hprof/BasicType;" (.ref w_INT) := Sta.start v_w_INT (Or.inr ⟨(hw _ (List.mem_of_getElem? (i := 2) rfl)), (hw _ (List.mem_of_getElem? (i := 5) rfl))⟩)
  have E_w_INT := Exa.start v_w_INT n1
  have F_ordinal_w_INT := own_fld v_w_INT n21
  obtain ⟨w_BYTE, v_w_BYTE⟩ := exa_v n221
  have S_w_BYTE : Sta s s.heap "com/example/refleash/refleash/hprof/BasicType" "BYTE" "Lcom/example/refleash/refleash/hprof/BasicType;" (.ref w_BYTE) := Sta.start v_w_BYTE (Or.inr ⟨(hw _ (List.mem_of_getElem? (i := 2) rfl)), (hw _ (List.mem_of_getElem? (i := 16) rfl))⟩)
  have E_w_BYTE := Exa.start v_w_BYTE n221
  have F_ordinal_w_BYTE := own_fld v_w_BYTE n2221
  obtain ⟨w_CHAR, v_w_CHAR⟩ := exa_v n22221
  have S_w_CHAR : Sta s s.heap "com/example/refleash/refleash/hprof/BasicType" "CHAR" "Lcom/example/refleash/refleash/hprof/BasicType;" (.ref w_CHAR) := Sta.start v_w_CHAR (Or.inr ⟨(hw _ (List.mem_of_getElem? (i := 2) rfl)), (hw _ (List.mem_of_getElem? (i := 18) rfl))⟩)
  have E_w_CHAR := Exa.start v_w_CHAR n22221
  have F_ordinal_w_CHAR := own_fld v_w_CHAR n222221
  obtain ⟨w_OBJECT, v_w_OBJECT⟩ := exa_v n2222221
  have S_w_OBJECT : Sta s s.heap "com/example/refleash/refleash/hprof/BasicType" "OBJECT" "Lcom/example/refleash/refleash/hprof/BasicType;" (.ref w_OBJECT) := Sta.start v_w_OBJECT (Or.inr ⟨(hw _ (List.mem_of_getElem? (i := 2) rfl)), (hw _ (List.mem_of_getElem? (i := 20) rfl))⟩)
  have E_w_OBJECT := Exa.start v_w_OBJECT n2222221
  have F_ordinal_w_OBJECT := own_fld v_w_OBJECT n22222221
  obtain ⟨w_FLOAT, v_w_FLOAT⟩ := exa_v n222222221
  have S_w_FLOAT : Sta s s.heap "com/example/refleash/refleash/hprof/BasicType" "FLOAT" "Lcom/example/refleash/refleash/hprof/BasicType;" (.ref w_FLOAT) := Sta.start v_w_FLOAT (Or.inr ⟨(hw _ (List.mem_of_getElem? (i := 2) rfl)), (hw _ (List.mem_of_getElem? (i := 22) rfl))⟩)
  have E_w_FLOAT := Exa.start v_w_FLOAT n222222221
  have F_ordinal_w_FLOAT := own_fld v_w_FLOAT n2222222221
  obtain ⟨w_DOUBLE, v_w_DOUBLE⟩ := exa_v n22222222221
  have S_w_DOUBLE : Sta s s.heap "com/example/refleash/refleash/hprof/BasicType" "DOUBLE" "Lcom/example/refleash/refleash/hprof/BasicType;" (.ref w_DOUBLE) := Sta.start v_w_DOUBLE (Or.inr ⟨(hw _ (List.mem_of_getElem? (i := 2) rfl)), (hw _ (List.mem_of_getElem? (i := 24) rfl))⟩)
  have E_w_DOUBLE := Exa.start v_w_DOUBLE n22222222221
  have F_ordinal_w_DOUBLE := own_fld v_w_DOUBLE n222222222221
  obtain ⟨w_LONG, v_w_LONG⟩ := exa_v n2222222222221
  have S_w_LONG : Sta s s.heap "com/example/refleash/refleash/hprof/BasicType" "LONG" "Lcom/example/refleash/refleash/hprof/BasicType;" (.ref w_LONG) := Sta.start v_w_LONG (Or.inr ⟨(hw _ (List.mem_of_getElem? (i := 2) rfl)), (hw _ (List.mem_of_getElem? (i := 26) rfl))⟩)
  have E_w_LONG := Exa.start v_w_LONG n2222222222221
  have F_ordinal_w_LONG := own_fld v_w_LONG n22222222222221
  obtain ⟨w_SHORT, v_w_SHORT⟩ := exa_v n222222222222221
  have S_w_SHORT : Sta s s.heap "com/example/refleash/refleash/hprof/BasicType" "SHORT" "Lcom/example/refleash/refleash/hprof/BasicType;" (.ref w_SHORT) := Sta.start v_w_SHORT (Or.inr ⟨(hw _ (List.mem_of_getElem? (i := 2) rfl)), (hw _ (List.mem_of_getElem? (i := 28) rfl))⟩)
  have E_w_SHORT := Exa.start v_w_SHORT n222222222222221
  have F_ordinal_w_SHORT := own_fld v_w_SHORT n2222222222222221
  obtain ⟨w_BOOLEAN, v_w_BOOLEAN⟩ := exa_v n22222222222222221
  have S_w_BOOLEAN : Sta s s.heap "com/example/refleash/refleash/hprof/BasicType" "BOOLEAN" "Lcom/example/refleash/refleash/hprof/BasicType;" (.ref w_BOOLEAN) := Sta.start v_w_BOOLEAN (Or.inr ⟨(hw _ (List.mem_of_getElem? (i := 2) rfl)), (hw _ (List.mem_of_getElem? (i := 30) rfl))⟩)
  have E_w_BOOLEAN := Exa.start v_w_BOOLEAN n22222222222222221
  have F_ordinal_w_BOOLEAN := own_fld v_w_BOOLEAN n22222222222222222
  have G : Glob s s.heap w_INT w_BYTE w_CHAR w_OBJECT w_FLOAT w_DOUBLE w_LONG w_SHORT w_BOOLEAN := ⟨S_w_INT, E_w_INT, F_ordinal_w_INT, S_w_BYTE, E_w_BYTE, F_ordinal_w_BYTE, S_w_CHAR, E_w_CHAR, F_ordinal_w_CHAR, S_w_OBJECT, E_w_OBJECT, F_ordinal_w_OBJECT, S_w_FLOAT, E_w_FLOAT, F_ordinal_w_FLOAT, S_w_DOUBLE, E_w_DOUBLE, F_ordinal_w_DOUBLE, S_w_LONG, E_w_LONG, F_ordinal_w_LONG, S_w_SHORT, E_w_SHORT, F_ordinal_w_SHORT, S_w_BOOLEAN, E_w_BOOLEAN, F_ordinal_w_BOOLEAN⟩
  by_cases hs : (i1 &&& (1 : Int32)) = (0 : Int32)
  · rcases own_cases_and16 ((i1.toUInt32 >>> ((1 : Int32) &&& 31).toUInt32).toInt32) with hi | hi | hi | hi | hi | hi | hi | hi | hi | hi | hi | hi | hi | hi | hi | hi
    · obtain ⟨n, o, h1, h2, h3, _, L, rfl, ⟨rfl, N⟩, hq⟩ := sel_0 l s _ hw tables_1 w_INT w_BYTE w_CHAR w_OBJECT w_FLOAT w_DOUBLE w_LONG w_SHORT w_BOOLEAN s.heap s.heap.size (Nat.le_refl _) G i0 i1 hs hi p e ha hc hk s m _ below hf ((Spec.applies_iff_loose hf).mp happ).1 ⟨rfl, State.Warmed39.refl s, rfl⟩ trivial
      exact ⟨n, _, h1, h2, h3, hpost _ _ _ _ _ _ ⟨Cond.after_iff.mpr rfl, Cond.after_iff.mpr (eq_i res_at (Term.int_eval (1)) rfl)⟩ ⟨hq.1, hq.2.1, (hq.2.2.sift fun y hy => Or.inr (N y hy)).mono (by decide) (by decide)⟩⟩
    · obtain ⟨n, o, h1, h2, h3, _, L, rfl, ⟨rfl, N⟩, hq⟩ := sel_1 l s _ hw tables_1 w_INT w_BYTE w_CHAR w_OBJECT w_FLOAT w_DOUBLE w_LONG w_SHORT w_BOOLEAN s.heap s.heap.size (Nat.le_refl _) G i0 i1 hs hi p e ha hc hk s m _ below hf ((Spec.applies_iff_loose hf).mp happ).1 ⟨rfl, State.Warmed39.refl s, rfl⟩ trivial
      exact ⟨n, _, h1, h2, h3, hpost _ _ _ _ _ _ ⟨Cond.after_iff.mpr rfl, Cond.after_iff.mpr (eq_i res_at (Term.int_eval (1)) rfl)⟩ ⟨hq.1, hq.2.1, (hq.2.2.sift fun y hy => Or.inr (N y hy)).mono (by decide) (by decide)⟩⟩
    · obtain ⟨n, o, h1, h2, h3, _, L, rfl, ⟨rfl, N⟩, hq⟩ := sel_2 l s _ hw tables_1 w_INT w_BYTE w_CHAR w_OBJECT w_FLOAT w_DOUBLE w_LONG w_SHORT w_BOOLEAN s.heap s.heap.size (Nat.le_refl _) G i0 i1 hs hi p e ha hc hk s m _ below hf ((Spec.applies_iff_loose hf).mp happ).1 ⟨rfl, State.Warmed39.refl s, rfl⟩ trivial
      exact ⟨n, _, h1, h2, h3, hpost _ _ _ _ _ _ ⟨Cond.after_iff.mpr rfl, Cond.after_iff.mpr (eq_i res_at (Term.int_eval (1)) rfl)⟩ ⟨hq.1, hq.2.1, (hq.2.2.sift fun y hy => Or.inr (N y hy)).mono (by decide) (by decide)⟩⟩
    · obtain ⟨n, o, h1, h2, h3, _, L, rfl, ⟨rfl, N⟩, hq⟩ := sel_3 l s _ hw tables_1 w_INT w_BYTE w_CHAR w_OBJECT w_FLOAT w_DOUBLE w_LONG w_SHORT w_BOOLEAN s.heap s.heap.size (Nat.le_refl _) G i0 i1 hs hi p e ha hc hk s m _ below hf ((Spec.applies_iff_loose hf).mp happ).1 ⟨rfl, State.Warmed39.refl s, rfl⟩ trivial
      exact ⟨n, _, h1, h2, h3, hpost _ _ _ _ _ _ ⟨Cond.after_iff.mpr rfl, Cond.after_iff.mpr (eq_i res_at (Term.int_eval (1)) rfl)⟩ ⟨hq.1, hq.2.1, (hq.2.2.sift fun y hy => Or.inr (N y hy)).mono (by decide) (by decide)⟩⟩
    · obtain ⟨n, o, h1, h2, h3, _, L, rfl, ⟨rfl, N⟩, hq⟩ := sel_4 l s _ hw tables_1 w_INT w_BYTE w_CHAR w_OBJECT w_FLOAT w_DOUBLE w_LONG w_SHORT w_BOOLEAN s.heap s.heap.size (Nat.le_refl _) G i0 i1 hs hi p e ha hc hk s m _ below hf ((Spec.applies_iff_loose hf).mp happ).1 ⟨rfl, State.Warmed39.refl s, rfl⟩ trivial
      exact ⟨n, _, h1, h2, h3, hpost _ _ _ _ _ _ ⟨Cond.after_iff.mpr rfl, Cond.after_iff.mpr (eq_i res_at (Term.int_eval (1)) rfl)⟩ ⟨hq.1, hq.2.1, (hq.2.2.sift fun y hy => Or.inr (N y hy)).mono (by decide) (by decide)⟩⟩
    · obtain ⟨n, o, h1, h2, h3, _, L, rfl, ⟨rfl, N⟩, hq⟩ := sel_5 l s _ hw tables_1 w_INT w_BYTE w_CHAR w_OBJECT w_FLOAT w_DOUBLE w_LONG w_SHORT w_BOOLEAN s.heap s.heap.size (Nat.le_refl _) G i0 i1 hs hi p e ha hc hk s m _ below hf ((Spec.applies_iff_loose hf).mp happ).1 ⟨rfl, State.Warmed39.refl s, rfl⟩ trivial
      exact ⟨n, _, h1, h2, h3, hpost _ _ _ _ _ _ ⟨Cond.after_iff.mpr rfl, Cond.after_iff.mpr (eq_i res_at (Term.int_eval (1)) rfl)⟩ ⟨hq.1, hq.2.1, (hq.2.2.sift fun y hy => Or.inr (N y hy)).mono (by decide) (by decide)⟩⟩
    · obtain ⟨n, o, h1, h2, h3, _, L, rfl, ⟨rfl, N⟩, hq⟩ := sel_6 l s _ hw tables_1 w_INT w_BYTE w_CHAR w_OBJECT w_FLOAT w_DOUBLE w_LONG w_SHORT w_BOOLEAN s.heap s.heap.size (Nat.le_refl _) G i0 i1 hs hi p e ha hc hk s m _ below hf ((Spec.applies_iff_loose hf).mp happ).1 ⟨rfl, State.Warmed39.refl s, rfl⟩ trivial
      exact ⟨n, _, h1, h2, h3, hpost _ _ _ _ _ _ ⟨Cond.after_iff.mpr rfl, Cond.after_iff.mpr (eq_i res_at (Term.int_eval (1)) rfl)⟩ ⟨hq.1, hq.2.1, (hq.2.2.sift fun y hy => Or.inr (N y hy)).mono (by decide) (by decide)⟩⟩
    · obtain ⟨n, o, h1, h2, h3, _, L, rfl, ⟨rfl, N⟩, hq⟩ := sel_7 l s _ hw tables_1 w_INT w_BYTE w_CHAR w_OBJECT w_FLOAT w_DOUBLE w_LONG w_SHORT w_BOOLEAN s.heap s.heap.size (Nat.le_refl _) G i0 i1 hs hi p e ha hc hk s m _ below hf ((Spec.applies_iff_loose hf).mp happ).1 ⟨rfl, State.Warmed39.refl s, rfl⟩ trivial
      exact ⟨n, _, h1, h2, h3, hpost _ _ _ _ _ _ ⟨Cond.after_iff.mpr rfl, Cond.after_iff.mpr (eq_i res_at (Term.int_eval (1)) rfl)⟩ ⟨hq.1, hq.2.1, (hq.2.2.sift fun y hy => Or.inr (N y hy)).mono (by decide) (by decide)⟩⟩
    · obtain ⟨n, o, h1, h2, h3, _, L, rfl, ⟨rfl, N⟩, hq⟩ := sel_8 l s _ hw tables_1 w_INT w_BYTE w_CHAR w_OBJECT w_FLOAT w_DOUBLE w_LONG w_SHORT w_BOOLEAN s.heap s.heap.size (Nat.le_refl _) G i0 i1 hs hi p e ha hc hk s m _ below hf ((Spec.applies_iff_loose hf).mp happ).1 ⟨rfl, State.Warmed39.refl s, rfl⟩ trivial
      exact ⟨n, _, h1, h2, h3, hpost _ _ _ _ _ _ ⟨Cond.after_iff.mpr rfl, Cond.after_iff.mpr (eq_i res_at (Term.int_eval (1)) rfl)⟩ ⟨hq.1, hq.2.1, (hq.2.2.sift fun y hy => Or.inr (N y hy)).mono (by decide) (by decide)⟩⟩
    · obtain ⟨n, o, h1, h2, h3, _, L, rfl, ⟨rfl, N⟩, hq⟩ := sel_9 l s _ hw tables_1 w_INT w_BYTE w_CHAR w_OBJECT w_FLOAT w_DOUBLE w_LONG w_SHORT w_BOOLEAN s.heap s.heap.size (Nat.le_refl _) G i0 i1 hs hi p e ha hc hk s m _ below hf ((Spec.applies_iff_loose hf).mp happ).1 ⟨rfl, State.Warmed39.refl s, rfl⟩ trivial
      exact ⟨n, _, h1, h2, h3, hpost _ _ _ _ _ _ ⟨Cond.after_iff.mpr rfl, Cond.after_iff.mpr (eq_i res_at (Term.int_eval (1)) rfl)⟩ ⟨hq.1, hq.2.1, (hq.2.2.sift fun y hy => Or.inr (N y hy)).mono (by decide) (by decide)⟩⟩
    · obtain ⟨n, o, h1, h2, h3, _, L, rfl, ⟨rfl, N⟩, hq⟩ := sel_10 l s _ hw tables_1 w_INT w_BYTE w_CHAR w_OBJECT w_FLOAT w_DOUBLE w_LONG w_SHORT w_BOOLEAN s.heap s.heap.size (Nat.le_refl _) G i0 i1 hs hi p e ha hc hk s m _ below hf ((Spec.applies_iff_loose hf).mp happ).1 ⟨rfl, State.Warmed39.refl s, rfl⟩ trivial
      exact ⟨n, _, h1, h2, h3, hpost _ _ _ _ _ _ ⟨Cond.after_iff.mpr rfl, Cond.after_iff.mpr (eq_i res_at (Term.int_eval (1)) rfl)⟩ ⟨hq.1, hq.2.1, (hq.2.2.sift fun y hy => Or.inr (N y hy)).mono (by decide) (by decide)⟩⟩
    · obtain ⟨n, o, h1, h2, h3, _, L, rfl, ⟨rfl, N⟩, hq⟩ := sel_11 l s _ hw tables_1 w_INT w_BYTE w_CHAR w_OBJECT w_FLOAT w_DOUBLE w_LONG w_SHORT w_BOOLEAN s.heap s.heap.size (Nat.le_refl _) G i0 i1 hs hi p e ha hc hk s m _ below hf ((Spec.applies_iff_loose hf).mp happ).1 ⟨rfl, State.Warmed39.refl s, rfl⟩ trivial
      exact ⟨n, _, h1, h2, h3, hpost _ _ _ _ _ _ ⟨Cond.after_iff.mpr rfl, Cond.after_iff.mpr (eq_i res_at (Term.int_eval (1)) rfl)⟩ ⟨hq.1, hq.2.1, (hq.2.2.sift fun y hy => Or.inr (N y hy)).mono (by decide) (by decide)⟩⟩
    · obtain ⟨n, o, h1, h2, h3, _, L, rfl, ⟨rfl, N⟩, hq⟩ := sel_12 l s _ hw tables_1 w_INT w_BYTE w_CHAR w_OBJECT w_FLOAT w_DOUBLE w_LONG w_SHORT w_BOOLEAN s.heap s.heap.size (Nat.le_refl _) G i0 i1 hs hi p e ha hc hk s m _ below hf ((Spec.applies_iff_loose hf).mp happ).1 ⟨rfl, State.Warmed39.refl s, rfl⟩ trivial
      exact ⟨n, _, h1, h2, h3, hpost _ _ _ _ _ _ ⟨Cond.after_iff.mpr rfl, Cond.after_iff.mpr (eq_i res_at (Term.int_eval (1)) rfl)⟩ ⟨hq.1, hq.2.1, (hq.2.2.sift fun y hy => Or.inr (N y hy)).mono (by decide) (by decide)⟩⟩
    · obtain ⟨n, o, h1, h2, h3, _, L, rfl, ⟨rfl, N⟩, hq⟩ := sel_13 l s _ hw tables_1 w_INT w_BYTE w_CHAR w_OBJECT w_FLOAT w_DOUBLE w_LONG w_SHORT w_BOOLEAN s.heap s.heap.size (Nat.le_refl _) G i0 i1 hs hi p e ha hc hk s m _ below hf ((Spec.applies_iff_loose hf).mp happ).1 ⟨rfl, State.Warmed39.refl s, rfl⟩ trivial
      exact ⟨n, _, h1, h2, h3, hpost _ _ _ _ _ _ ⟨Cond.after_iff.mpr rfl, Cond.after_iff.mpr (eq_i res_at (Term.int_eval (1)) rfl)⟩ ⟨hq.1, hq.2.1, (hq.2.2.sift fun y hy => Or.inr (N y hy)).mono (by decide) (by decide)⟩⟩
    · obtain ⟨n, o, h1, h2, h3, _, L, rfl, ⟨rfl, N⟩, hq⟩ := sel_14 l s _ hw tables_1 w_INT w_BYTE w_CHAR w_OBJECT w_FLOAT w_DOUBLE w_LONG w_SHORT w_BOOLEAN s.heap s.heap.size (Nat.le_refl _) G i0 i1 hs hi p e ha hc hk s m _ below hf ((Spec.applies_iff_loose hf).mp happ).1 ⟨rfl, State.Warmed39.refl s, rfl⟩ trivial
      exact ⟨n, _, h1, h2, h3, hpost _ _ _ _ _ _ ⟨Cond.after_iff.mpr rfl, Cond.after_iff.mpr (eq_i res_at (Term.int_eval (1)) rfl)⟩ ⟨hq.1, hq.2.1, (hq.2.2.sift fun y hy => Or.inr (N y hy)).mono (by decide) (by decide)⟩⟩
    · obtain ⟨n, o, h1, h2, h3, _, L, rfl, ⟨rfl, N⟩, hq⟩ := sel_15 l s _ hw tables_1 w_INT w_BYTE w_CHAR w_OBJECT w_FLOAT w_DOUBLE w_LONG w_SHORT w_BOOLEAN s.heap s.heap.size (Nat.le_refl _) G i0 i1 hs hi p e ha hc hk s m _ below hf ((Spec.applies_iff_loose hf).mp happ).1 ⟨rfl, State.Warmed39.refl s, rfl⟩ trivial
      exact ⟨n, _, h1, h2, h3, hpost _ _ _ _ _ _ ⟨Cond.after_iff.mpr rfl, Cond.after_iff.mpr (eq_i res_at (Term.int_eval (1)) rfl)⟩ ⟨hq.1, hq.2.1, (hq.2.2.sift fun y hy => Or.inr (N y hy)).mono (by decide) (by decide)⟩⟩
  · rcases own_raw i0 with rfl | rfl | rfl | rfl | rfl | rfl | rfl | rfl | rfl | rfl | hr | hr
    · obtain ⟨n, o, h1, h2, h3, _, L, rfl, ⟨rfl, N⟩, hq⟩ := raw_2 l s _ hw tables_1 w_INT w_BYTE w_CHAR w_OBJECT w_FLOAT w_DOUBLE w_LONG w_SHORT w_BOOLEAN s.heap s.heap.size (Nat.le_refl _) G i1 hs p e ha hc hk s m _ below hf ((Spec.applies_iff_loose hf).mp happ).1 ⟨rfl, State.Warmed39.refl s, rfl⟩ trivial
      exact ⟨n, _, h1, h2, h3, hpost _ _ _ _ _ _ ⟨Cond.after_iff.mpr rfl, Cond.after_iff.mpr (eq_i res_at (Term.int_eval (1)) rfl)⟩ ⟨hq.1, hq.2.1, (hq.2.2.sift fun y hy => Or.inr (N y hy)).mono (by decide) (by decide)⟩⟩
    · obtain ⟨n, o, h1, h2, h3, _, L, rfl, ⟨rfl, N⟩, hq⟩ := raw_4 l s _ hw tables_1 w_INT w_BYTE w_CHAR w_OBJECT w_FLOAT w_DOUBLE w_LONG w_SHORT w_BOOLEAN s.heap s.heap.size (Nat.le_refl _) G i1 hs p e ha hc hk s m _ below hf ((Spec.applies_iff_loose hf).mp happ).1 ⟨rfl, State.Warmed39.refl s, rfl⟩ trivial
      exact ⟨n, _, h1, h2, h3, hpost _ _ _ _ _ _ ⟨Cond.after_iff.mpr rfl, Cond.after_iff.mpr (eq_i res_at (Term.int_eval (1)) rfl)⟩ ⟨hq.1, hq.2.1, (hq.2.2.sift fun y hy => Or.inr (N y hy)).mono (by decide) (by decide)⟩⟩
    · obtain ⟨n, o, h1, h2, h3, _, L, rfl, ⟨rfl, N⟩, hq⟩ := raw_5 l s _ hw tables_1 w_INT w_BYTE w_CHAR w_OBJECT w_FLOAT w_DOUBLE w_LONG w_SHORT w_BOOLEAN s.heap s.heap.size (Nat.le_refl _) G i1 hs p e ha hc hk s m _ below hf ((Spec.applies_iff_loose hf).mp happ).1 ⟨rfl, State.Warmed39.refl s, rfl⟩ trivial
      exact ⟨n, _, h1, h2, h3, hpost _ _ _ _ _ _ ⟨Cond.after_iff.mpr rfl, Cond.after_iff.mpr (eq_i res_at (Term.int_eval (1)) rfl)⟩ ⟨hq.1, hq.2.1, (hq.2.2.sift fun y hy => Or.inr (N y hy)).mono (by decide) (by decide)⟩⟩
    · obtain ⟨n, o, h1, h2, h3, _, L, rfl, ⟨rfl, N⟩, hq⟩ := raw_6 l s _ hw tables_1 w_INT w_BYTE w_CHAR w_OBJECT w_FLOAT w_DOUBLE w_LONG w_SHORT w_BOOLEAN s.heap s.heap.size (Nat.le_refl _) G i1 hs p e ha hc hk s m _ below hf ((Spec.applies_iff_loose hf).mp happ).1 ⟨rfl, State.Warmed39.refl s, rfl⟩ trivial
      exact ⟨n, _, h1, h2, h3, hpost _ _ _ _ _ _ ⟨Cond.after_iff.mpr rfl, Cond.after_iff.mpr (eq_i res_at (Term.int_eval (1)) rfl)⟩ ⟨hq.1, hq.2.1, (hq.2.2.sift fun y hy => Or.inr (N y hy)).mono (by decide) (by decide)⟩⟩
    · obtain ⟨n, o, h1, h2, h3, _, L, rfl, ⟨rfl, N⟩, hq⟩ := raw_7 l s _ hw tables_1 w_INT w_BYTE w_CHAR w_OBJECT w_FLOAT w_DOUBLE w_LONG w_SHORT w_BOOLEAN s.heap s.heap.size (Nat.le_refl _) G i1 hs p e ha hc hk s m _ below hf ((Spec.applies_iff_loose hf).mp happ).1 ⟨rfl, State.Warmed39.refl s, rfl⟩ trivial
      exact ⟨n, _, h1, h2, h3, hpost _ _ _ _ _ _ ⟨Cond.after_iff.mpr rfl, Cond.after_iff.mpr (eq_i res_at (Term.int_eval (1)) rfl)⟩ ⟨hq.1, hq.2.1, (hq.2.2.sift fun y hy => Or.inr (N y hy)).mono (by decide) (by decide)⟩⟩
    · obtain ⟨n, o, h1, h2, h3, _, L, rfl, ⟨rfl, N⟩, hq⟩ := raw_8 l s _ hw tables_1 w_INT w_BYTE w_CHAR w_OBJECT w_FLOAT w_DOUBLE w_LONG w_SHORT w_BOOLEAN s.heap s.heap.size (Nat.le_refl _) G i1 hs p e ha hc hk s m _ below hf ((Spec.applies_iff_loose hf).mp happ).1 ⟨rfl, State.Warmed39.refl s, rfl⟩ trivial
      exact ⟨n, _, h1, h2, h3, hpost _ _ _ _ _ _ ⟨Cond.after_iff.mpr rfl, Cond.after_iff.mpr (eq_i res_at (Term.int_eval (1)) rfl)⟩ ⟨hq.1, hq.2.1, (hq.2.2.sift fun y hy => Or.inr (N y hy)).mono (by decide) (by decide)⟩⟩
    · obtain ⟨n, o, h1, h2, h3, _, L, rfl, ⟨rfl, N⟩, hq⟩ := raw_9 l s _ hw tables_1 w_INT w_BYTE w_CHAR w_OBJECT w_FLOAT w_DOUBLE w_LONG w_SHORT w_BOOLEAN s.heap s.heap.size (Nat.le_refl _) G i1 hs p e ha hc hk s m _ below hf ((Spec.applies_iff_loose hf).mp happ).1 ⟨rfl, State.Warmed39.refl s, rfl⟩ trivial
      exact ⟨n, _, h1, h2, h3, hpost _ _ _ _ _ _ ⟨Cond.after_iff.mpr rfl, Cond.after_iff.mpr (eq_i res_at (Term.int_eval (1)) rfl)⟩ ⟨hq.1, hq.2.1, (hq.2.2.sift fun y hy => Or.inr (N y hy)).mono (by decide) (by decide)⟩⟩
    · obtain ⟨n, o, h1, h2, h3, _, L, rfl, ⟨rfl, N⟩, hq⟩ := raw_10 l s _ hw tables_1 w_INT w_BYTE w_CHAR w_OBJECT w_FLOAT w_DOUBLE w_LONG w_SHORT w_BOOLEAN s.heap s.heap.size (Nat.le_refl _) G i1 hs p e ha hc hk s m _ below hf ((Spec.applies_iff_loose hf).mp happ).1 ⟨rfl, State.Warmed39.refl s, rfl⟩ trivial
      exact ⟨n, _, h1, h2, h3, hpost _ _ _ _ _ _ ⟨Cond.after_iff.mpr rfl, Cond.after_iff.mpr (eq_i res_at (Term.int_eval (1)) rfl)⟩ ⟨hq.1, hq.2.1, (hq.2.2.sift fun y hy => Or.inr (N y hy)).mono (by decide) (by decide)⟩⟩
    · obtain ⟨n, o, h1, h2, h3, _, L, rfl, ⟨rfl, N⟩, hq⟩ := raw_11 l s _ hw tables_1 w_INT w_BYTE w_CHAR w_OBJECT w_FLOAT w_DOUBLE w_LONG w_SHORT w_BOOLEAN s.heap s.heap.size (Nat.le_refl _) G i1 hs p e ha hc hk s m _ below hf ((Spec.applies_iff_loose hf).mp happ).1 ⟨rfl, State.Warmed39.refl s, rfl⟩ trivial
      exact ⟨n, _, h1, h2, h3, hpost _ _ _ _ _ _ ⟨Cond.after_iff.mpr rfl, Cond.after_iff.mpr (eq_i res_at (Term.int_eval (1)) rfl)⟩ ⟨hq.1, hq.2.1, (hq.2.2.sift fun y hy => Or.inr (N y hy)).mono (by decide) (by decide)⟩⟩
    · obtain ⟨n, o, h1, h2, h3, _, L, rfl, ⟨rfl, N⟩, hq⟩ := raw_3 l s _ hw tables_1 w_INT w_BYTE w_CHAR w_OBJECT w_FLOAT w_DOUBLE w_LONG w_SHORT w_BOOLEAN s.heap s.heap.size (Nat.le_refl _) G i1 hs p e ha hc hk s m _ below hf ((Spec.applies_iff_loose hf).mp happ).1 ⟨rfl, State.Warmed39.refl s, rfl⟩ trivial
      exact ⟨n, _, h1, h2, h3, hpost _ _ _ _ _ _ ⟨Cond.after_iff.mpr rfl, Cond.after_iff.mpr (eq_i res_at (Term.int_eval (1)) rfl)⟩ ⟨hq.1, hq.2.1, (hq.2.2.sift fun y hy => Or.inr (N y hy)).mono (by decide) (by decide)⟩⟩
    · obtain ⟨n, o, h1, h2, h3, _, L, rfl, ⟨rfl, N⟩, hq⟩ := raw_lo l s _ hw tables_1 w_INT w_BYTE w_CHAR w_OBJECT w_FLOAT w_DOUBLE w_LONG w_SHORT w_BOOLEAN s.heap s.heap.size (Nat.le_refl _) G i0 i1 hs hr p e ha hc hk s m _ below hf ((Spec.applies_iff_loose hf).mp happ).1 ⟨rfl, State.Warmed39.refl s, rfl⟩ trivial
      exact ⟨n, _, h1, h2, h3, hpost _ _ _ _ _ _ ⟨Cond.after_iff.mpr rfl, Cond.after_iff.mpr (eq_i res_at (Term.int_eval (1)) rfl)⟩ ⟨hq.1, hq.2.1, (hq.2.2.sift fun y hy => Or.inr (N y hy)).mono (by decide) (by decide)⟩⟩
    · obtain ⟨n, o, h1, h2, h3, _, L, rfl, ⟨rfl, N⟩, hq⟩ := raw_hi l s _ hw tables_1 w_INT w_BYTE w_CHAR w_OBJECT w_FLOAT w_DOUBLE w_LONG w_SHORT w_BOOLEAN s.heap s.heap.size (Nat.le_refl _) G i0 i1 hs hr p e ha hc hk s m _ below hf ((Spec.applies_iff_loose hf).mp happ).1 ⟨rfl, State.Warmed39.refl s, rfl⟩ trivial
      exact ⟨n, _, h1, h2, h3, hpost _ _ _ _ _ _ ⟨Cond.after_iff.mpr rfl, Cond.after_iff.mpr (eq_i res_at (Term.int_eval (1)) rfl)⟩ ⟨hq.1, hq.2.1, (hq.2.2.sift fun y hy => Or.inr (N y hy)).mono (by decide) (by decide)⟩⟩
theorem main_1_1 : Claimed_1_1 := comes_1 fun _ _ _ _ _ _ h hF => ⟨h.1, hF⟩
theorem main_1_2 : Claimed_1_2 := comes_1 fun _ _ _ _ _ _ h hF => ⟨h.2, hF⟩
end Jvm.Pilot.@@N@@
namespace Jvm.Pilot.@@N@@
open Jvm Jvm.ClassFile Sem Op Lib Jvm.Free Jvm.Stand Jvm.Pilot.@@N@@.Jvm.D
/-! MADE BY PROGRAM (witnessworld.py) out of the Statement's table words and the real class files: 12 classes; the members and pool entries that the words name. The judged class is class 1, her method 1. -/
namespace start1
open Jvm.ClassFile
def u (s : String) : CpInfo := .utf8 (stringToUtf16 s)
/-- a pool by its gaps: so many unusable entries, then the entry; so many at the end -/
def gap : Nat → List CpInfo → List CpInfo
  | 0, r => r
  | n + 1, r => .unusable :: gap n r
def poolList (es : List (Nat × CpInfo)) (last : Nat) : List CpInfo := es.foldr (fun e r => gap e.1 (e.2 :: r)) (gap last [])
def pool (es : List (Nat × CpInfo)) (last : Nat) : Array CpInfo := ⟨poolList es last⟩
def fileOf (pool : Array CpInfo) (this : Nat) (attrs : Array Attribute := #[]) (ms : Array MethodInfo := #[]) (fl : Nat := 33) (sup : Nat := 0) (ifs : Array Nat := #[]) (fds : Array FieldInfo := #[]) : ClassFile where
  minorVersion := 0
  majorVersion := 65
  constantPool := pool
  accessFlags := fl
  thisClass := this
  superClass := sup
  interfaces := ifs
  fields := fds
  methods := ms
  attributes := attrs
def plain (name : String) (sup : Option ClassId) : Class where
  name := name
  kind := .ordinary
  loader := none
  accessFlags := 33
  super := sup
  interfaces := #[]
  cf := none
  fields := #[]
  methods := #[]
  instanceTypes := #[]
  staticTypes := #[]
  resolved := #[]
  callSites := []
  init := .initialized
  statics := none
  mirror := none

def pool0 : Array CpInfo := pool [(5, u "<init>"), (0, u "()V"), (1, .class_ 10), (1, u "java/lang/Object")] 113

def k0m0 : Method := { name := "<init>", desc := "()V", sig := { parameters := [], returnType := none }, accessFlags := 1, code := none }
/-- java/lang/Object -/
def k0 : Class := { plain "java/lang/Object" none with
  accessFlags := 33
  interfaces := #[]
  cf := some (fileOf pool0 8 #[] #[{ accessFlags := 1, nameIndex := 5, descriptorIndex := 6, attributes := #[] }] 33 0 #[] #[])
  fields := #[]
  methods := #[k0m0]
  instanceTypes := #[]
  staticTypes := #[]
  resolved := Array.replicate 124 none
  statics := none }

def pool1 : Array CpInfo := pool [(2, .class_ 4), (1, u "java/lang/Object"), (0, u "<init>"), (0, u "()V"), (0, .methodref 8 9), (0, .class_ 10), (0, .nameAndType 11 12), (0, u "com/example/refleash/refleash/hprof/BasicType"), (0, u "of"), (0, u "(I)Lcom/example/refleash/refleash/hprof/BasicType;"), (0, .methodref 8 14), (0, .nameAndType 15 16), (0, u "ordinal"), (0, u "()I"), (0, .class_ 18), (0, u "com/example/refleash/refleash/hprof/BasicTypeOfPinLaw"), (2, u "law"), (0, u "(II)Z")] 3

def k1m0 : Method := { name := "<init>", desc := "()V", sig := { parameters := [], returnType := none }, accessFlags := 1, code := none }
def k1c1 : Code := { maxStack := 2, maxLocals := 6, code := code, exceptionTable := #[], attributes := #[] }
def k1m1 : Method := { name := "law", desc := "(II)Z", sig := { parameters := [.int, .int], returnType := some .boolean }, accessFlags := 9, code := some k1c1 }
/-- com/example/refleash/refleash/hprof/BasicTypeOfPinLaw -/
def k1 : Class := { plain "com/example/refleash/refleash/hprof/BasicTypeOfPinLaw" (some 0) with
  accessFlags := 49
  interfaces := #[]
  cf := some (fileOf pool1 17 #[] #[{ accessFlags := 1, nameIndex := 5, descriptorIndex := 6, attributes := #[] }, { accessFlags := 9, nameIndex := 21, descriptorIndex := 22, attributes := #[] }] 49 2 #[] #[])
  fields := #[]
  methods := #[k1m0, k1m1]
  instanceTypes := #[]
  staticTypes := #[]
  resolved := Array.replicate 26 none
  statics := none }

def pool2 : Array CpInfo := pool [(1, .class_ 2), (0, u "java/lang/constant/Constable"), (0, .class_ 4), (0, u "java/lang/Object")] 6

/-- java/lang/constant/Constable -/
def k2 : Class := { plain "java/lang/constant/Constable" (some 0) with
  accessFlags := 1537
  interfaces := #[]
  cf := some (fileOf pool2 1 #[] #[] 1537 3 #[] #[])
  fields := #[]
  methods := #[]
  instanceTypes := #[]
  staticTypes := #[]
  resolved := Array.replicate 11 none
  statics := none }

def pool3 : Array CpInfo := pool [(1, .class_ 2), (0, u "java/lang/Comparable"), (0, .class_ 4), (0, u "java/lang/Object")] 7

/-- java/lang/Comparable -/
def k3 : Class := { plain "java/lang/Comparable" (some 0) with
  accessFlags := 1537
  interfaces := #[]
  cf := some (fileOf pool3 1 #[] #[] 1537 3 #[] #[])
  fields := #[]
  methods := #[]
  instanceTypes := #[]
  staticTypes := #[]
  resolved := Array.replicate 12 none
  statics := none }

def pool4 : Array CpInfo := pool [(1, .class_ 2), (0, u "java/io/Serializable"), (0, .class_ 4), (0, u "java/lang/Object")] 2

/-- java/io/Serializable -/
def k4 : Class := { plain "java/io/Serializable" (some 0) with
  accessFlags := 1537
  interfaces := #[]
  cf := some (fileOf pool4 1 #[] #[] 1537 3 #[] #[])
  fields := #[]
  methods := #[]
  instanceTypes := #[]
  staticTypes := #[]
  resolved := Array.replicate 7 none
  statics := none }

def pool5 : Array CpInfo := pool [(2, .class_ 4), (1, u "java/lang/Enum"), (0, u "name"), (0, u "Ljava/lang/String;"), (0, .fieldref 2 8), (0, .nameAndType 9 10), (0, u "ordinal"), (0, u "I"), (1, .class_ 14), (1, u "java/lang/Object"), (4, u "hash"), (86, .class_ 108), (1, u "java/lang/Enum$EnumDesc"), (2, .class_ 112), (0, u "java/lang/constant/Constable"), (0, .class_ 114), (0, u "java/lang/Comparable"), (0, .class_ 116), (0, u "java/io/Serializable"), (9, u "()I")] 77

def k5c0 : Code := { maxStack := 1, maxLocals := 1, code := jdk_37_method_2_code, exceptionTable := #[], attributes := #[] }
def k5m0 : Method := { name := "ordinal", desc := "()I", sig := { parameters := [], returnType := some .int }, accessFlags := 17, code := some k5c0 }
/-- java/lang/Enum -/
def k5 : Class := { plain "java/lang/Enum" (some 0) with
  accessFlags := 1057
  interfaces := #[2, 3, 4]
  cf := some (fileOf pool5 2 #[.nestMembers #[106]] #[{ accessFlags := 17, nameIndex := 9, descriptorIndex := 126, attributes := #[] }] 1057 12 #[111, 113, 115] #[{ accessFlags := 18, nameIndex := 5, descriptorIndex := 6, attributes := #[] }, { accessFlags := 18, nameIndex := 9, descriptorIndex := 10, attributes := #[] }, { accessFlags := 2, nameIndex := 19, descriptorIndex := 10, attributes := #[] }])
  fields := #[{ name := "name", type := (.object "java/lang/String"), accessFlags := 18, slot := 0, constantValue := 0 }, { name := "ordinal", type := .int, accessFlags := 18, slot := 1, constantValue := 0 }, { name := "hash", type := .int, accessFlags := 2, slot := 2, constantValue := 0 }]
  methods := #[k5m0]
  instanceTypes := #[(.object "java/lang/String"), .int, .int]
  staticTypes := #[]
  resolved := Array.replicate 204 none
  statics := none }

def pool6 : Array CpInfo := pool [(1, .class_ 2), (0, u "com/example/refleash/refleash/hprof/BasicType"), (0, .fieldref 1 4), (0, .nameAndType 5 6), (0, u "OBJECT"), (0, u "Lcom/example/refleash/refleash/hprof/BasicType;"), (0, .fieldref 1 8), (0, .nameAndType 9 6), (0, u "BOOLEAN"), (0, .fieldref 1 11), (0, .nameAndType 12 6), (0, u "CHAR"), (0, .fieldref 1 14), (0, .nameAndType 15 6), (0, u "FLOAT"), (0, .fieldref 1 17), (0, .nameAndType 18 6), (0, u "DOUBLE"), (0, .fieldref 1 20), (0, .nameAndType 21 6), (0, u "BYTE"), (0, .fieldref 1 23), (0, .nameAndType 24 6), (0, u "SHORT"), (0, .fieldref 1 26), (0, .nameAndType 27 6), (0, u "INT"), (0, .fieldref 1 29), (0, .nameAndType 30 6), (0, u "LONG"), (2, u "$VALUES"), (0, u "[Lcom/example/refleash/refleash/hprof/BasicType;"), (6, .class_ 43), (1, u "java/lang/Enum"), (81, u "of"), (0, u "(I)Lcom/example/refleash/refleash/hprof/BasicType;")] 8

def k6c0 : Code := { maxStack := 1, maxLocals := 1, code := prog_56_method_4_code, exceptionTable := #[], attributes := #[] }
def k6m0 : Method := { name := "of", desc := "(I)Lcom/example/refleash/refleash/hprof/BasicType;", sig := { parameters := [.int], returnType := some (.object "com/example/refleash/refleash/hprof/BasicType") }, accessFlags := 8, code := some k6c0 }
/-- com/example/refleash/refleash/hprof/BasicType -/
def k6 : Class := { plain "com/example/refleash/refleash/hprof/BasicType" (some 5) with
  accessFlags := 16433
  interfaces := #[]
  cf := some (fileOf pool6 1 #[] #[{ accessFlags := 8, nameIndex := 125, descriptorIndex := 126, attributes := #[] }] 16433 41 #[] #[{ accessFlags := 16409, nameIndex := 5, descriptorIndex := 6, attributes := #[] }, { accessFlags := 16409, nameIndex := 9, descriptorIndex := 6, attributes := #[] }, { accessFlags := 16409, nameIndex := 12, descriptorIndex := 6, attributes := #[] }, { accessFlags := 16409, nameIndex := 15, descriptorIndex := 6, attributes := #[] }, { accessFlags := 16409, nameIndex := 18, descriptorIndex := 6, attributes := #[] }, { accessFlags := 16409, nameIndex := 21, descriptorIndex := 6, attributes := #[] }, { accessFlags := 16409, nameIndex := 24, descriptorIndex := 6, attributes := #[] }, { accessFlags := 16409, nameIndex := 27, descriptorIndex := 6, attributes := #[] }, { accessFlags := 16409, nameIndex := 30, descriptorIndex := 6, attributes := #[] }, { accessFlags := 4122, nameIndex := 33, descriptorIndex := 34, attributes := #[] }])
  fields := #[{ name := "OBJECT", type := (.object "com/example/refleash/refleash/hprof/BasicType"), accessFlags := 16409, slot := 0, constantValue := 0 }, { name := "BOOLEAN", type := (.object "com/example/refleash/refleash/hprof/BasicType"), accessFlags := 16409, slot := 1, constantValue := 0 }, { name := "CHAR", type := (.object "com/example/refleash/refleash/hprof/BasicType"), accessFlags := 16409, slot := 2, constantValue := 0 }, { name := "FLOAT", type := (.object "com/example/refleash/refleash/hprof/BasicType"), accessFlags := 16409, slot := 3, constantValue := 0 }, { name := "DOUBLE", type := (.object "com/example/refleash/refleash/hprof/BasicType"), accessFlags := 16409, slot := 4, constantValue := 0 }, { name := "BYTE", type := (.object "com/example/refleash/refleash/hprof/BasicType"), accessFlags := 16409, slot := 5, constantValue := 0 }, { name := "SHORT", type := (.object "com/example/refleash/refleash/hprof/BasicType"), accessFlags := 16409, slot := 6, constantValue := 0 }, { name := "INT", type := (.object "com/example/refleash/refleash/hprof/BasicType"), accessFlags := 16409, slot := 7, constantValue := 0 }, { name := "LONG", type := (.object "com/example/refleash/refleash/hprof/BasicType"), accessFlags := 16409, slot := 8, constantValue := 0 }, { name := "$VALUES", type := (.array (.object "com/example/refleash/refleash/hprof/BasicType")), accessFlags := 4122, slot := 9, constantValue := 0 }]
  methods := #[k6m0]
  instanceTypes := #[(.object "java/lang/String"), .int, .int]
  staticTypes := #[(.object "com/example/refleash/refleash/hprof/BasicType"), (.object "com/example/refleash/refleash/hprof/BasicType"), (.object "com/example/refleash/refleash/hprof/BasicType"), (.object "com/example/refleash/refleash/hprof/BasicType"), (.object "com/example/refleash/refleash/hprof/BasicType"), (.object "com/example/refleash/refleash/hprof/BasicType"), (.object "com/example/refleash/refleash/hprof/BasicType"), (.object "com/example/refleash/refleash/hprof/BasicType"), (.object "com/example/refleash/refleash/hprof/BasicType"), (.array (.object "com/example/refleash/refleash/hprof/BasicType"))]
  resolved := Array.replicate 135 none
  statics := some 0 }

def pool7 : Array CpInfo := pool [(1, u "java/lang/Cloneable"), (0, .class_ 1), (0, u "java/lang/Object"), (0, .class_ 3)] 3

/-- java/lang/Cloneable -/
def k7 : Class := { plain "java/lang/Cloneable" (some 0) with
  accessFlags := 1537
  interfaces := #[]
  cf := some (fileOf pool7 2 #[] #[] 1537 4 #[] #[])
  fields := #[]
  methods := #[]
  instanceTypes := #[]
  staticTypes := #[]
  resolved := Array.replicate 8 none
  statics := none }

/-- the primitive byte -/
def k8 : Class := { plain "byte" none with kind := .primitive 'B', accessFlags := 0x411 }
/-- [B -/
def k9 : Class := { plain "[B" (some 0) with kind := .array 8 .byte, interfaces := #[7, 4], accessFlags := 1041 }

/-- the primitive int -/
def k10 : Class := { plain "int" none with kind := .primitive 'I', accessFlags := 0x411 }
/-- [I -/
def k11 : Class := { plain "[I" (some 0) with kind := .array 10 .int, interfaces := #[7, 4], accessFlags := 1041 }

def heap : Heap := #[{ cls := 6, slots := #[.ref 4, .ref 9, .ref 3, .ref 5, .ref 6, .ref 2, .ref 8, .ref 1, .ref 7, .null], vm := .statics 6 },
  { cls := 6, slots := #[.null, .int 7, .int 0], vm := .none },
  { cls := 6, slots := #[.null, .int 5, .int 0], vm := .none },
  { cls := 6, slots := #[.null, .int 2, .int 0], vm := .none },
  { cls := 6, slots := #[.null, .int 0, .int 0], vm := .none },
  { cls := 6, slots := #[.null, .int 3, .int 0], vm := .none },
  { cls := 6, slots := #[.null, .int 4, .int 0], vm := .none },
  { cls := 6, slots := #[.null, .int 8, .int 0], vm := .none },
  { cls := 6, slots := #[.null, .int 6, .int 0], vm := .none },
  { cls := 6, slots := #[.null, .int 1, .int 0], vm := .none }]
def classes : Array Class := #[k0, k1, k2, k3, k4, k5, k6, k7, k8, k9, k10, k11]
def interned : List (Array UInt16 × Addr) := []
def slotsUsed : Nat := 37
def theMethod : MethodId := ⟨1, 1⟩
def args0 : Array Value := #[.int 5, .int 6]
def aboutOver (below : List Frame) : State where
  vm := { classes := classes, interned := interned.toArray }
  heap := heap
  slotsUsed := slotsUsed
  threads := #[{ frames := .invoking theMethod args0 :: below }]
def below0 : List Frame := [.native { method := ⟨0, 0⟩, args := #[] }]
def about1 : State := aboutOver below0
def p0 : Program := .bare "" "" ""
def e0 : Env := launch0.env 0 0 0
theorem w_frames : about1.frames = Frame.invoking theMethod args0 :: below0 := rfl
set_option maxRecDepth 65536 in
theorem w_args : argsFit about1.vm theMethod args0 = true := by decide +kernel
set_option maxRecDepth 65536 in
theorem w_heap : heapFits about1 = true := by decide +kernel
set_option maxRecDepth 65536 in
theorem w_runnable : about1.curStatus? = some .runnable := by decide +kernel
set_option maxRecDepth 65536 in
theorem w_alone : about1.alone = true := by decide +kernel
set_option maxRecDepth 65536 in
theorem w_named : about1.methodNamed? x = some theMethod := by decide +kernel
set_option maxRecDepth 65536 in
theorem w_hears : about1.hears theMethod below0 = true := by decide +kernel
set_option maxRecDepth 65536 in
theorem w_ripe : about1.ripe theMethod args0 below0 = true := by decide +kernel
theorem w_running : about1.status = .running := rfl
set_option maxRecDepth 65536 in
theorem w_room : about1.hasRoom e0.platform room_1 = true :=
  launch0.hasRoom_least _ room_1 (by decide +kernel) (by decide +kernel) (by decide +kernel) (by decide +kernel) (by decide +kernel) (by decide +kernel)
theorem allAtoms_all (ts : List Jvm.Cond) (a : Array Jvm.Value) (st : Jvm.State) : (allAtoms ts).before a st = ts.all (fun c => c.before a st) := by
  induction ts with
  | nil => rfl
  | cons c t ih =>
    show (Jvm.Cond.and c (allAtoms t)).before a st = _
    rw [Jvm.Cond.before_and, ih, List.all_cons]
def words1 : List Jvm.Cond := Jvm.Cond.code x code maxLocals ret :: tables_1
/-- a 'code' word, met by the world's own term for the bytes: nothing is compared byte by byte -/
theorem code_word {y : MethodName} {bytes : ByteArray} {mx : Nat} {rt : Option FieldType} {a : Array Value} {s : State} {m : MethodId} {meth : Method} {c : Code} (h1 : s.methodNamed? y = some m) (h2 : s.vm.method? m = some meth) (h3 : meth.code = some c) (h4 : c.code = bytes)
    (h5 : (c.maxLocals == mx && c.exceptionTable.isEmpty && decide (c.maxStack ≤ mostOperands) && decide (meth.sig.returnType = rt) && !meth.locks && decide (parseMethodDescriptor y.desc = some meth.sig)) = true) : (Jvm.Cond.code y bytes mx rt).before a s = true := by
  simp only [Bool.and_eq_true, beq_iff_eq, Bool.not_eq_true', decide_eq_true_eq] at h5
  obtain ⟨⟨⟨⟨⟨g1, g2⟩, g3⟩, g4⟩, g5⟩, g6⟩ := h5
  simp [Cond.before, Cond.holds, Cond.value, h1, h2, h3, h4, g1, g2, g3, g4, g5, g6]
def isCode : Jvm.Cond → Bool
  | .code _ _ _ _ => true
  | _ => false
theorem all_split {L : List Jvm.Cond} {P : Jvm.Cond → Bool} (h1 : L.all (fun c => isCode c || P c) = true) (h2 : ∀ c ∈ L.filter isCode, P c = true) : L.all P = true := by
  refine List.all_eq_true.mpr fun c hc => ?_
  have h := List.all_eq_true.mp h1 c hc
  rcases Bool.eq_false_or_eq_true (isCode c) with hi | hi
  · exact h2 c (List.mem_filter.mpr ⟨hc, hi⟩)
  · simpa [hi] using h
set_option maxRecDepth 65536 in
theorem w_c0 : (Jvm.Cond.code x code maxLocals ret).before args0 about1 = true := code_word (m := ⟨1, 1⟩) (meth := k1m1) (c := k1c1) (by decide +kernel) rfl rfl rfl (by decide +kernel)
set_option maxRecDepth 65536 in
theorem w_c1 : (Jvm.Cond.code ({ cls := "com/example/refleash/refleash/hprof/BasicType", name := "of", desc := "(I)Lcom/example/refleash/refleash/hprof/BasicType;" } : Jvm.MethodName) prog_56_method_4_code (1 : Nat) (Option.some (Jvm.ClassFile.FieldType.object "com/example/refleash/refleash/hprof/BasicType"))).before args0 about1 = true := code_word (m := ⟨6, 0⟩) (meth := k6m0) (c := k6c0) (by decide +kernel) rfl rfl rfl (by decide +kernel)
set_option maxRecDepth 65536 in
theorem w_c2 : (Jvm.Cond.code ({ cls := "java/lang/Enum", name := "ordinal", desc := "()I" } : Jvm.MethodName) jdk_37_method_2_code (1 : Nat) (Option.some Jvm.ClassFile.FieldType.int)).before args0 about1 = true := code_word (m := ⟨5, 0⟩) (meth := k5m0) (c := k5c0) (by decide +kernel) rfl rfl rfl (by decide +kernel)
def codes1 : List Jvm.Cond := [Jvm.Cond.code x code maxLocals ret, Jvm.Cond.code ({ cls := "com/example/refleash/refleash/hprof/BasicType", name := "of", desc := "(I)Lcom/example/refleash/refleash/hprof/BasicType;" } : Jvm.MethodName) prog_56_method_4_code (1 : Nat) (Option.some (Jvm.ClassFile.FieldType.object "com/example/refleash/refleash/hprof/BasicType")), Jvm.Cond.code ({ cls := "java/lang/Enum", name := "ordinal", desc := "()I" } : Jvm.MethodName) jdk_37_method_2_code (1 : Nat) (Option.some Jvm.ClassFile.FieldType.int)]
set_option maxRecDepth 65536 in
theorem codes_eq : words1.filter isCode = codes1 := rfl
theorem w_codes : ∀ c ∈ words1.filter isCode, c.before args0 about1 = true := by
  rw [codes_eq]
  intro c hc
  simp only [codes1, List.mem_cons, List.not_mem_nil, or_false] at hc
  rcases hc with rfl | rfl | rfl
  · exact w_c0
  · exact w_c1
  · exact w_c2
set_option maxRecDepth 65536 in
theorem w_t1 : (words1.take 24).all (fun c => isCode c || c.before args0 about1) = true := by decide +kernel
set_option maxRecDepth 65536 in
theorem w_t2 : (words1.drop 24).all (fun c => isCode c || c.before args0 about1) = true := by decide +kernel
theorem w_tables : (allAtoms (Jvm.Cond.code x code maxLocals ret :: tables_1)).before args0 about1 = true := by
  rw [allAtoms_all]
  show words1.all (fun c => c.before args0 about1) = true
  refine all_split ?_ w_codes
  rw [← List.take_append_drop 24 words1, List.all_append, w_t1, w_t2]
  rfl
set_option maxRecDepth 65536 in
theorem w_case : (Jvm.Cond.and given_1 narrow_1).before args0 about1 = true := by decide +kernel
theorem w_applies : (headSpec (Jvm.Cond.code x code maxLocals ret :: tables_1) room_1).applies x e0.platform about1 = true :=
  (Spec.applies_iff w_frames).mpr ⟨w_running, w_runnable, w_alone, w_named, w_hears, w_ripe, w_room, w_tables⟩
theorem atStart : AtStart classFile x code maxLocals ret World_1 tables_1 room_1 Calls_1 rest_1 Pre_1 launch0 p0 e0 about1 theMethod args0 below0 :=
  ⟨lists_1, trivial, launch0.admits_env _ _ _, launch0.least_env, fairChoices_fair.cas, fairChoices_fair.clock, w_frames, w_args, w_heap, w_applies, trivial, trivial, w_case⟩
end start1
theorem witness_1 : WitnessClaimed_1 := ⟨start1.p0, start1.e0, start1.about1, start1.theMethod, start1.args0, start1.below0, start1.atStart⟩
end Jvm.Pilot.@@N@@
