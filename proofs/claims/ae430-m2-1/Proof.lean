import JvmDerived
import JvmDerived.Pilot.@@N@@Statement
import JvmDerived.Pilot.@@N@@Code
set_option linter.unusedVariables false
set_option linter.unusedSimpArgs false
@@BLOCK:NumsL.lean.txt@@
namespace Jvm.Pilot.@@N@@
open Jvm Jvm.ClassFile Sem Op Lib Jvm.Free Jvm.Stand Jvm.LawKit Jvm.RoadKit Bundle Jvm.Pilot.@@N@@.Jvm.D
/-! 1. small laws of this text: from the case's words to facts; the remainder's cases -/
theorem own_fld {Z : State} {args : Array Value} {a : Addr} {t : Term} {C n d : String} {k : Int32} (ev : t.eval args Z none [] Z = some (.ref a)) (h : (Jvm.Cond.eq (Term.field t C n d) (Term.int k)).value args Z none Z [] = some true) : Fld Z Z.heap a C n d (.int k) := by
  obtain ⟨x, y, h1, h2, hk, hk'⟩ := cmp_v (Or.inl h)
  have hy : y = .int k := Option.some.inj (h2.symm.trans (Term.int_eval k))
  subst hy
  obtain ⟨z, rfl⟩ := hk'
  have q : z = k := by simpa [Cond.value, h1, h2] using h
  subst q
  exact Fld.start ((fld_at ev).symm.trans h1)
theorem own_rem {x n : Int32} (h0 : 0 ≤ x.toInt) (hn : 0 < n.toInt) : 0 ≤ (x % n).toInt ∧ (x % n).toInt < n.toInt := by
  rw [Int32.toInt_mod]
  refine ⟨Int.tmod_nonneg _ h0, ?_⟩
  exact Int.tmod_lt_of_pos _ hn
theorem own_mask (x : Int32) : 0 ≤ (x &&& (2147483647 : Int32)).toInt := by
  rw [Jvm.Kit.i32_mask x 2147483647 (k := 31) (by decide) (by decide)]
  omega
def QR (r : Option Value) (h0 : Heap) (n0 : Nat) (v : Option Value) (h : Heap) (L : List Loc) : Prop := v = r ∧ Fr n0 L ∧ h = h0
def QL (r : Option Value) (h0 : Heap) (n0 : Nat) (v : Option Value) (h : Heap) (L : List Loc) : Prop := v = r ∧ Fr n0 L
theorem own_sta_keep {Z : State} {h h' : Heap} {C n d : String} {v : Value} (F : Sta Z h C n d v) (K : Keep h h' []) : Sta Z h' C n d v := by
  obtain ⟨cf, i, k, f, st, cell, h1, h2, h3, h4, h5, r⟩ := F
  exact ⟨cf, i, k, f, st, cell, h1, h2, h3, h4, K.2.1 _ _ h5 nin0, r⟩
def Glob (Z : State) (h : Heap) (w_REFUSAL : Addr) (w_TRANSIENT : Addr) (w_TIMEOUT : Addr) (w_INVALID_CALL : Addr) (w_INVALID_ANSWER : Addr) (w_CONTEXT_TOO_LARGE : Addr) (w_JUMP_LIMIT : Addr) : Prop := Sta Z h "com/example/lungfish/lungfish/engine/FailureKind" "REFUSAL" "Lcom/example/lungfish/lungfish/engine/FailureKind;" (.ref w_REFUSAL) ∧ Exa Z h w_REFUSAL "com/example/lungfish/lungfish/engine/FailureKind" ∧ Sta Z h "com/example/lungfish/lungfish/engine/FailureKind" "TRANSIENT" "Lcom/example/lungfish/lungfish/engine/FailureKind;" (.ref w_TRANSIENT) ∧ Exa Z h w_TRANSIENT "com/example/lungfish/lungfish/engine/FailureKind" ∧ Sta Z h "com/example/lungfish/lungfish/engine/FailureKind" "TIMEOUT" "Lcom/example/lungfish/lungfish/engine/FailureKind;" (.ref w_TIMEOUT) ∧ Exa Z h w_TIMEOUT "com/example/lungfish/lungfish/engine/FailureKind" ∧ Sta Z h "com/example/lungfish/lungfish/engine/FailureKind" "INVALID_CALL" "Lcom/example/lungfish/lungfish/engine/FailureKind;" (.ref w_INVALID_CALL) ∧ Exa Z h w_INVALID_CALL "com/example/lungfish/lungfish/engine/FailureKind" ∧ Sta Z h "com/example/lungfish/lungfish/engine/FailureKind" "INVALID_ANSWER" "Lcom/example/lungfish/lungfish/engine/FailureKind;" (.ref w_INVALID_ANSWER) ∧ Exa Z h w_INVALID_ANSWER "com/example/lungfish/lungfish/engine/FailureKind" ∧ Sta Z h "com/example/lungfish/lungfish/engine/FailureKind" "CONTEXT_TOO_LARGE" "Lcom/example/lungfish/lungfish/engine/FailureKind;" (.ref w_CONTEXT_TOO_LARGE) ∧ Exa Z h w_CONTEXT_TOO_LARGE "com/example/lungfish/lungfish/engine/FailureKind" ∧ Sta Z h "com/example/lungfish/lungfish/engine/FailureKind" "JUMP_LIMIT" "Lcom/example/lungfish/lungfish/engine/FailureKind;" (.ref w_JUMP_LIMIT) ∧ Exa Z h w_JUMP_LIMIT "com/example/lungfish/lungfish/engine/FailureKind" ∧ Fld Z h w_REFUSAL "java/lang/Enum" "ordinal" "I" (.int (0 : Int32)) ∧ Fld Z h w_TRANSIENT "java/lang/Enum" "ordinal" "I" (.int (1 : Int32)) ∧ Fld Z h w_TIMEOUT "java/lang/Enum" "ordinal" "I" (.int (2 : Int32)) ∧ Fld Z h w_INVALID_CALL "java/lang/Enum" "ordinal" "I" (.int (3 : Int32)) ∧ Fld Z h w_CONTEXT_TOO_LARGE "java/lang/Enum" "ordinal" "I" (.int (5 : Int32)) ∧ Fld Z h w_JUMP_LIMIT "java/lang/Enum" "ordinal" "I" (.int (6 : Int32)) ∧ Fld Z h w_INVALID_ANSWER "java/lang/Enum" "ordinal" "I" (.int (4 : Int32))
theorem Glob.keep {Z : State} {h h' : Heap} {w_REFUSAL : Addr} {w_TRANSIENT : Addr} {w_TIMEOUT : Addr} {w_INVALID_CALL : Addr} {w_INVALID_ANSWER : Addr} {w_CONTEXT_TOO_LARGE : Addr} {w_JUMP_LIMIT : Addr} (G : Glob Z h w_REFUSAL w_TRANSIENT w_TIMEOUT w_INVALID_CALL w_INVALID_ANSWER w_CONTEXT_TOO_LARGE w_JUMP_LIMIT) (K : Keep h h' []) : Glob Z h' w_REFUSAL w_TRANSIENT w_TIMEOUT w_INVALID_CALL w_INVALID_ANSWER w_CONTEXT_TOO_LARGE w_JUMP_LIMIT := by
  obtain ⟨S_w_REFUSAL, E_w_REFUSAL, S_w_TRANSIENT, E_w_TRANSIENT, S_w_TIMEOUT, E_w_TIMEOUT, S_w_INVALID_CALL, E_w_INVALID_CALL, S_w_INVALID_ANSWER, E_w_INVALID_ANSWER, S_w_CONTEXT_TOO_LARGE, E_w_CONTEXT_TOO_LARGE, S_w_JUMP_LIMIT, E_w_JUMP_LIMIT, F_ordinal_w_REFUSAL, F_ordinal_w_TRANSIENT, F_ordinal_w_TIMEOUT, F_ordinal_w_INVALID_CALL, F_ordinal_w_CONTEXT_TOO_LARGE, F_ordinal_w_JUMP_LIMIT, F_ordinal_w_INVALID_ANSWER⟩ := G
  exact ⟨own_sta_keep S_w_REFUSAL K, E_w_REFUSAL.keep K, own_sta_keep S_w_TRANSIENT K, E_w_TRANSIENT.keep K, own_sta_keep S_w_TIMEOUT K, E_w_TIMEOUT.keep K, own_sta_keep S_w_INVALID_CALL K, E_w_INVALID_CALL.keep K, own_sta_keep S_w_INVALID_ANSWER K, E_w_INVALID_ANSWER.keep K, own_sta_keep S_w_CONTEXT_TOO_LARGE K, E_w_CONTEXT_TOO_LARGE.keep K, own_sta_keep S_w_JUMP_LIMIT K, E_w_JUMP_LIMIT.keep K, F_ordinal_w_REFUSAL.keep K nin0, F_ordinal_w_TRANSIENT.keep K nin0, F_ordinal_w_TIMEOUT.keep K nin0, F_ordinal_w_INVALID_CALL.keep K nin0, F_ordinal_w_CONTEXT_TOO_LARGE.keep K nin0, F_ordinal_w_JUMP_LIMIT.keep K nin0, F_ordinal_w_INVALID_ANSWER.keep K nin0⟩
theorem own_cases_rem7 (p : Int32) : ((p &&& (2147483647 : Int32)) % (7 : Int32)) = (0 : Int32) ∨ ((p &&& (2147483647 : Int32)) % (7 : Int32)) = (1 : Int32) ∨ ((p &&& (2147483647 : Int32)) % (7 : Int32)) = (2 : Int32) ∨ ((p &&& (2147483647 : Int32)) % (7 : Int32)) = (3 : Int32) ∨ ((p &&& (2147483647 : Int32)) % (7 : Int32)) = (4 : Int32) ∨ ((p &&& (2147483647 : Int32)) % (7 : Int32)) = (5 : Int32) ∨ ((p &&& (2147483647 : Int32)) % (7 : Int32)) = (6 : Int32) := by
  have h := own_rem (n := (7 : Int32)) (own_mask p) (by decide)
  generalize (p &&& (2147483647 : Int32)) % (7 : Int32) = z at h ⊢
  have hn : ((7 : Int32)).toInt = 7 := by decide
  rw [hn] at h
  simp only [← Int32.toInt_inj]
  have h0 : ((0 : Int32)).toInt = 0 := by decide
  have h1 : ((1 : Int32)).toInt = 1 := by decide
  have h2 : ((2 : Int32)).toInt = 2 := by decide
  have h3 : ((3 : Int32)).toInt = 3 := by decide
  have h4 : ((4 : Int32)).toInt = 4 := by decide
  have h5 : ((5 : Int32)).toInt = 5 := by decide
  have h6 : ((6 : Int32)).toInt = 6 := by decide
  omega
theorem d1_0 : decode prog_10_method_5_code 0 = .ok (.aload_n 0, 1) := by decide +kernel
theorem d1_1 : decode prog_10_method_5_code 1 = .ok (.getstatic 7, 3) := by decide +kernel
theorem d1_4 : decode prog_10_method_5_code 4 = .ok (.if_acmp .eq 10, 3) := by decide +kernel
theorem d1_7 : decode prog_10_method_5_code 7 = .ok (.aload_n 0, 1) := by decide +kernel
theorem d1_8 : decode prog_10_method_5_code 8 = .ok (.getstatic 10, 3) := by decide +kernel
theorem d1_11 : decode prog_10_method_5_code 11 = .ok (.if_acmp .ne 7, 3) := by decide +kernel
theorem d1_18 : decode prog_10_method_5_code 18 = .ok (.iconst 0, 1) := by decide +kernel
theorem d1_19 : decode prog_10_method_5_code 19 = .ok (.ireturn, 1) := by decide +kernel
theorem ef_1_R (m : MethodId) (x0 : Addr) : entryFrame m #[(.ref x0)] 1 = mkF m 0 #[.val (.ref x0)] [] := by first | (simp [entryFrame, mkF, argsToLocals, Value.category]; done) | rfl
theorem pn_com_example_lungfish_lungfish_engine_FailureKind : plainName "com/example/lungfish/lungfish/engine/FailureKind" = true := by first | (simp [plainName, overriddenIn]; done) | decide +kernel
set_option maxRecDepth 65536 in
set_option maxHeartbeats 40000000 in
theorem c1_0 (l : Launch) (Z : State) (a0 : Array Value) (hw : ∀ d ∈ tables_1, d.before a0 Z = true) (ws : List Jvm.Cond) (w_REFUSAL : Addr) (w_TRANSIENT : Addr) (w_TIMEOUT : Addr) (w_INVALID_CALL : Addr) (w_INVALID_ANSWER : Addr) (w_CONTEXT_TOO_LARGE : Addr) (w_JUMP_LIMIT : Addr) (h0 : Heap) (n0 : Nat) (Z0 : n0 ≤ h0.size) (G : Glob Z h0 w_REFUSAL w_TRANSIENT w_TIMEOUT w_INVALID_CALL w_INVALID_ANSWER w_CONTEXT_TOO_LARGE w_JUMP_LIMIT)  :
    MetFree l (⟨"com/example/lungfish/lungfish/engine/FailureKind", "isRetryable", "()Z"⟩ : MethodName) (head1 (Jvm.Cond.code (⟨"com/example/lungfish/lungfish/engine/FailureKind", "isRetryable", "()Z"⟩ : MethodName) prog_10_method_5_code 1 (some .boolean) :: ws) ({ frames := 0, cells := 0, slots := 0, locals := 0 } : Room)) (fun a U => a = #[(.ref w_REFUSAL)] ∧ Z.Warmed39 U.vm ∧ U.heap = h0) (fun _ _ _ _ _ => True) (fun _ U o U' => ∃ v L, o = .returned v ∧ QR (some (.int (0 : Int32))) h0 n0 v U'.heap L ∧ FrameEnd U o U' L ({ frames := 0, cells := 0, slots := 0, locals := 0 } : Room).cells ({ frames := 0, cells := 0, slots := 0, locals := 0 } : Room).slots) := by
  refine MetFree.of_bodySF (plainFor_of_name pn_com_example_lungfish_lungfish_engine_FailureKind) hisR ?_
  intro p e s m args below meth c s₁ Bd hml0 hP hK
  obtain ⟨rfl, hZ, hh⟩ := hP
  have hx := Bd.exec
  have hby := Bd.bytes
  have hml : c.maxLocals = 1 := hml0
  have hown : s.vm.findClass "com/example/lungfish/lungfish/engine/FailureKind" = some m.cls := findClass_of_methodNamed Bd.named
  have X0 : Stand p l e ({ frames := 0, cells := 0, slots := 0, locals := 0 } : Room) s m #[(.ref w_REFUSAL)] below meth c s₁ [] 0 0 := Stand.of_body Bd
  have e0 : s₁.heap = h0 := by rw [← hh, Bd.state]; rfl
  have N0 := Fr.nil n0
  have pre0 : ∀ t, Steps p.tables e below (s₁.setTop (mkF m 0 #[.val (.ref w_REFUSAL)] [])) t → Steps p.tables e below (s₁.setTop (entryFrame m #[(.ref w_REFUSAL)] 1)) t := fun t k => castTop (ef_1_R m w_REFUSAL) k
  have G' := G
  obtain ⟨S_w_REFUSAL, E_w_REFUSAL, S_w_TRANSIENT, E_w_TRANSIENT, S_w_TIMEOUT, E_w_TIMEOUT, S_w_INVALID_CALL, E_w_INVALID_CALL, S_w_INVALID_ANSWER, E_w_INVALID_ANSWER, S_w_CONTEXT_TOO_LARGE, E_w_CONTEXT_TOO_LARGE, S_w_JUMP_LIMIT, E_w_JUMP_LIMIT, F_ordinal_w_REFUSAL, F_ordinal_w_TRANSIENT, F_ordinal_w_TIMEOUT, F_ordinal_w_INVALID_CALL, F_ordinal_w_CONTEXT_TOO_LARGE, F_ordinal_w_JUMP_LIMIT, F_ordinal_w_INVALID_ANSWER⟩ := G'
  obtain ⟨T1, X1, e1, st1⟩ := getS2 X0 hx hZ hown (host := "") (Or.inl (hw _ (List.mem_of_getElem? (i := 24) rfl))) Via.refl e0 S_w_TRANSIENT (g := (mkF m 1 #[.val (.ref w_REFUSAL)] [(.ref w_REFUSAL)])) rfl (hb hby d1_1)
  obtain ⟨T2, X2, e2, st2⟩ := getS2 X1 hx hZ hown (host := "") (Or.inl (hw _ (List.mem_of_getElem? (i := 25) rfl))) Via.refl e1 S_w_TIMEOUT (g := (mkF m 8 #[.val (.ref w_REFUSAL)] [(.ref w_REFUSAL)])) rfl (hb hby d1_8)
  obtain ⟨fs, hr, hrun, hended, hW, hsame⟩ := X2.leave (v := some (.int (0 : Int32))) (fun h => by rw [Bd.returns] at h; cases h)
  refine ⟨_, _, pre0 _ ?_, hrun, hended, _, _, rfl, ?_, ⟨_, rfl⟩, hW, hsame.mono (by decide) (by decide)⟩
  · show Steps p.tables e below (s₁.setTop (mkF m 0 #[.val (.ref w_REFUSAL)] [])) _
    refine XS.aloadN X0.here hx rfl (hb hby d1_0) rfl rfl ?_
    show Steps p.tables e below (s₁.setTop (mkF m 1 #[.val (.ref w_REFUSAL)] [(.ref w_REFUSAL)])) _
    refine st1 _ ?_
    show Steps p.tables e below (T1.setTop (mkF m 4 #[.val (.ref w_REFUSAL)] [(.ref w_TRANSIENT), (.ref w_REFUSAL)])) _
    refine Jvm.RoadKit.acmp (g := (mkF m 4 #[.val (.ref w_REFUSAL)] [(.ref w_TRANSIENT), (.ref w_REFUSAL)])) X1 hx rfl rfl rfl (pc0 := 4) (pc' := 7) (same := false) rfl (hb hby d1_4) rfl (decide_eq_false fun q => (Fld.ne F_ordinal_w_REFUSAL F_ordinal_w_TRANSIENT (by decide)) (Value.ref.inj q)) (by decide) (by decide) ?_
    show Steps p.tables e below (T1.setTop (mkF m 7 #[.val (.ref w_REFUSAL)] [])) _
    refine XS.aloadN X1.here hx rfl (hb hby d1_7) rfl rfl ?_
    show Steps p.tables e below (T1.setTop (mkF m 8 #[.val (.ref w_REFUSAL)] [(.ref w_REFUSAL)])) _
    refine st2 _ ?_
    show Steps p.tables e below (T2.setTop (mkF m 11 #[.val (.ref w_REFUSAL)] [(.ref w_TIMEOUT), (.ref w_REFUSAL)])) _
    refine Jvm.RoadKit.acmp (g := (mkF m 11 #[.val (.ref w_REFUSAL)] [(.ref w_TIMEOUT), (.ref w_REFUSAL)])) X2 hx rfl rfl rfl (pc0 := 11) (pc' := 18) (same := false) rfl (hb hby d1_11) rfl (decide_eq_false fun q => (Fld.ne F_ordinal_w_REFUSAL F_ordinal_w_TIMEOUT (by decide)) (Value.ref.inj q)) (by decide) (by decide) ?_
    show Steps p.tables e below (T2.setTop (mkF m 18 #[.val (.ref w_REFUSAL)] [])) _
    refine XS.iconst X2.here hx rfl (hb hby d1_18) ?_
    show Steps p.tables e below (T2.setTop (mkF m 19 #[.val (.ref w_REFUSAL)] [(.int (0 : Int32))])) _
    exact retOut X2 hx Bd.returns rfl (Or.inl ⟨rfl, Or.inr (Or.inl rfl), _, rfl⟩) (hb hby d1_19) hr
  · show QR _ h0 n0 _ T2.heap _
    rw [e2]
    exact ⟨rfl, N0, rfl⟩
theorem pd___Z : parseMethodDescriptor "()Z" = some ⟨[], some .boolean⟩ := by decide +kernel
theorem ef_0_I (m : MethodId) (x0 : Int32) : entryFrame m #[(.int x0)] maxLocals = mkF m 0 #[.val (.int x0), .unset, .unset, .unset] [] := by first | (simp [entryFrame, mkF, argsToLocals, Value.category, maxLocals]; done) | rfl
theorem pn_com_example_lungfish_lungfish_engine_FailureKindIsRetryablePinLaw : plainName "com/example/lungfish/lungfish/engine/FailureKindIsRetryablePinLaw" = true := by first | (simp [plainName, overriddenIn]; done) | decide +kernel
set_option maxRecDepth 65536 in
set_option maxHeartbeats 40000000 in
theorem law_0 (l : Launch) (Z : State) (a0 : Array Value) (hw : ∀ d ∈ tables_1, d.before a0 Z = true) (ws : List Jvm.Cond) (w_REFUSAL : Addr) (w_TRANSIENT : Addr) (w_TIMEOUT : Addr) (w_INVALID_CALL : Addr) (w_INVALID_ANSWER : Addr) (w_CONTEXT_TOO_LARGE : Addr) (w_JUMP_LIMIT : Addr) (h0 : Heap) (n0 : Nat) (Z0 : n0 ≤ h0.size) (G : Glob Z h0 w_REFUSAL w_TRANSIENT w_TIMEOUT w_INVALID_CALL w_INVALID_ANSWER w_CONTEXT_TOO_LARGE w_JUMP_LIMIT) (p0 : Int32) (hi0 : ((p0 &&& (2147483647 : Int32)) % (7 : Int32)) = (0 : Int32)) :
    MetFree l x (head1 (Jvm.Cond.code x code maxLocals ret :: ws) room_1) (fun a U => a = #[(.int p0)] ∧ Z.Warmed39 U.vm ∧ U.heap = h0) (fun _ _ _ _ _ => True) (fun _ U o U' => ∃ v L, o = .returned v ∧ QL (some (.int (1 : Int32))) h0 n0 v U'.heap L ∧ FrameEnd U o U' L room_1.cells room_1.slots) := by
  refine MetFree.of_bodySF (plainFor_of_name pn_com_example_lungfish_lungfish_engine_FailureKindIsRetryablePinLaw) hisR ?_
  intro p e s m args below meth c s₁ Bd hml0 hP hK
  obtain ⟨rfl, hZ, hh⟩ := hP
  have hx := Bd.exec
  have hby := Bd.bytes
  have hml : c.maxLocals = 4 := hml0
  have hown : s.vm.findClass "com/example/lungfish/lungfish/engine/FailureKindIsRetryablePinLaw" = some m.cls := findClass_of_methodNamed Bd.named
  have X0 : Stand p l e room_1 s m #[(.int p0)] below meth c s₁ [] 0 0 := Stand.of_body Bd
  have e0 : s₁.heap = h0 := by rw [← hh, Bd.state]; rfl
  have N0 := Fr.nil n0
  have pre0 : ∀ t, Steps p.tables e below (s₁.setTop (mkF m 0 #[.val (.int p0), .unset, .unset, .unset] [])) t → Steps p.tables e below (s₁.setTop (entryFrame m #[(.int p0)] maxLocals)) t := fun t k => castTop (ef_0_I m p0) k
  have G' := G
  obtain ⟨S_w_REFUSAL, E_w_REFUSAL, S_w_TRANSIENT, E_w_TRANSIENT, S_w_TIMEOUT, E_w_TIMEOUT, S_w_INVALID_CALL, E_w_INVALID_CALL, S_w_INVALID_ANSWER, E_w_INVALID_ANSWER, S_w_CONTEXT_TOO_LARGE, E_w_CONTEXT_TOO_LARGE, S_w_JUMP_LIMIT, E_w_JUMP_LIMIT, F_ordinal_w_REFUSAL, F_ordinal_w_TRANSIENT, F_ordinal_w_TIMEOUT, F_ordinal_w_INVALID_CALL, F_ordinal_w_CONTEXT_TOO_LARGE, F_ordinal_w_JUMP_LIMIT, F_ordinal_w_INVALID_ANSWER⟩ := G'
  obtain ⟨T1, h1, k1, X1, e1, E1, A1, O1, st1⟩ := newR X0 hx hZ hown (hw _ (List.mem_of_getElem? (i := 0) rfl)) (hw _ (List.mem_of_getElem? (i := 1) rfl)) e0 (g := (mkF m 2 #[.val (.int p0), .unset, .unset, .unset] [(.int (7 : Int32))])) rfl (hb hby at_2) rfl (by decide) (cap := 7) (by decide) (by decide) (by decide) (by decide)
  obtain ⟨b1, g1⟩ : ∃ z, z = h0.size := ⟨_, rfl⟩
  rw [← g1] at A1 st1
  have V1 : Arv Z h1 b1 k1 (.object "com/example/lungfish/lungfish/engine/FailureKind") (7 : Int32) [.null, .null, .null, .null, .null, .null, .null] .null := (Arv.new A1 (by decide)).pad (pad_rep [] .null 7)
  have K1 : Keep h0 h1 [] := (Keep.refl h0 []).ext E1
  have sz_b1 : h0.size ≤ b1 := Nat.le_of_eq g1.symm
  have g_b1 : n0 ≤ b1 := Nat.le_trans Z0 sz_b1
  obtain ⟨T2, X2, e2, st2⟩ := getS2 X1 hx hZ hown (host := "") (Or.inl (hw _ (List.mem_of_getElem? (i := 2) rfl))) Via.refl e1 (own_sta_keep S_w_REFUSAL K1) (g := (mkF m 7 #[.val (.int p0), .unset, .unset, .unset] [(.int (0 : Int32)), (.ref b1), (.ref b1)])) rfl (hb hby at_7)
  obtain ⟨cl3, Ar3, q3, s3, m3, H3, F3⟩ := V1
  have hin3 : ¬ ((0 : Int32) < 0 ∨ cl3.slots.size ≤ ((0 : Int32)).toNatClampNeg) := inb_of s3 ⟨by decide, by decide⟩
  have sto3 : Sto Z h1 b1 (.ref w_REFUSAL) := Sto.ofV Ar3 q3 O1 (Ins.of_exa (E_w_REFUSAL.keep K1) (hw _ (List.mem_of_getElem? (i := 5) rfl)))
  obtain ⟨T3, h3, X3, e3, W3, st3⟩ := stR X2 hx hZ e2 Ar3 (j := (0 : Int32)) hin3 rfl sto3 (g := (mkF m 10 #[.val (.int p0), .unset, .unset, .unset] [(.ref w_REFUSAL), (.int (0 : Int32)), (.ref b1), (.ref b1)])) rfl rfl (hb hby at_10)
  have V3 : Arv Z h3 b1 k1 (.object "com/example/lungfish/lungfish/engine/FailureKind") (7 : Int32) [(.ref w_REFUSAL), .null, .null, .null, .null, .null, .null] .null := Arv.set Ar3 q3 s3 m3 H3 F3 rfl W3 0 rfl (Nat.le_of_ble_eq_true rfl)
  have K3 : Keep h0 h3 [] := K1.wr W3 (Or.inr sz_b1)
  have N3 := Fr.snoc X3 N0 g_b1
  obtain ⟨T4, X4, e4, st4⟩ := getS2 X3 hx hZ hown (host := "") (Or.inl (hw _ (List.mem_of_getElem? (i := 6) rfl))) Via.refl e3 (own_sta_keep S_w_TRANSIENT K3) (g := (mkF m 13 #[.val (.int p0), .unset, .unset, .unset] [(.int (1 : Int32)), (.ref b1), (.ref b1)])) rfl (hb hby at_13)
  obtain ⟨cl5, Ar5, q5, s5, m5, H5, F5⟩ := V3
  have hin5 : ¬ ((1 : Int32) < 0 ∨ cl5.slots.size ≤ ((1 : Int32)).toNatClampNeg) := inb_of s5 ⟨by decide, by decide⟩
  have sto5 : Sto Z h3 b1 (.ref w_TRANSIENT) := Sto.ofV Ar5 q5 O1 (Ins.of_exa (E_w_TRANSIENT.keep K3) (hw _ (List.mem_of_getElem? (i := 5) rfl)))
  obtain ⟨T5, h5, X5, e5, W5, st5⟩ := stR X4 hx hZ e4 Ar5 (j := (1 : Int32)) hin5 rfl sto5 (g := (mkF m 16 #[.val (.int p0), .unset, .unset, .unset] [(.ref w_TRANSIENT), (.int (1 : Int32)), (.ref b1), (.ref b1)])) rfl rfl (hb hby at_16)
  have V5 : Arv Z h5 b1 k1 (.object "com/example/lungfish/lungfish/engine/FailureKind") (7 : Int32) [(.ref w_REFUSAL), (.ref w_TRANSIENT), .null, .null, .null, .null, .null] .null := Arv.set Ar5 q5 s5 m5 H5 F5 rfl W5 1 rfl (Nat.le_of_ble_eq_true rfl)
  have K5 : Keep h0 h5 [] := K3.wr W5 (Or.inr sz_b1)
  have N5 := Fr.snoc X5 N3 g_b1
  obtain ⟨T6, X6, e6, st6⟩ := getS2 X5 hx hZ hown (host := "") (Or.inl (hw _ (List.mem_of_getElem? (i := 8) rfl))) Via.refl e5 (own_sta_keep S_w_TIMEOUT K5) (g := (mkF m 19 #[.val (.int p0), .unset, .unset, .unset] [(.int (2 : Int32)), (.ref b1), (.ref b1)])) rfl (hb hby at_19)
  obtain ⟨cl7, Ar7, q7, s7, m7, H7, F7⟩ := V5
  have hin7 : ¬ ((2 : Int32) < 0 ∨ cl7.slots.size ≤ ((2 : Int32)).toNatClampNeg) := inb_of s7 ⟨by decide, by decide⟩
  have sto7 : Sto Z h5 b1 (.ref w_TIMEOUT) := Sto.ofV Ar7 q7 O1 (Ins.of_exa (E_w_TIMEOUT.keep K5) (hw _ (List.mem_of_getElem? (i := 5) rfl)))
  obtain ⟨T7, h7, X7, e7, W7, st7⟩ := stR X6 hx hZ e6 Ar7 (j := (2 : Int32)) hin7 rfl sto7 (g := (mkF m 22 #[.val (.int p0), .unset, .unset, .unset] [(.ref w_TIMEOUT), (.int (2 : Int32)), (.ref b1), (.ref b1)])) rfl rfl (hb hby at_22)
  have V7 : Arv Z h7 b1 k1 (.object "com/example/lungfish/lungfish/engine/FailureKind") (7 : Int32) [(.ref w_REFUSAL), (.ref w_TRANSIENT), (.ref w_TIMEOUT), .null, .null, .null, .null] .null := Arv.set Ar7 q7 s7 m7 H7 F7 rfl W7 2 rfl (Nat.le_of_ble_eq_true rfl)
  have K7 : Keep h0 h7 [] := K5.wr W7 (Or.inr sz_b1)
  have N7 := Fr.snoc X7 N5 g_b1
  obtain ⟨T8, X8, e8, st8⟩ := getS2 X7 hx hZ hown (host := "") (Or.inl (hw _ (List.mem_of_getElem? (i := 10) rfl))) Via.refl e7 (own_sta_keep S_w_INVALID_CALL K7) (g := (mkF m 25 #[.val (.int p0), .unset, .unset, .unset] [(.int (3 : Int32)), (.ref b1), (.ref b1)])) rfl (hb hby at_25)
  obtain ⟨cl9, Ar9, q9, s9, m9, H9, F9⟩ := V7
  have hin9 : ¬ ((3 : Int32) < 0 ∨ cl9.slots.size ≤ ((3 : Int32)).toNatClampNeg) := inb_of s9 ⟨by decide, by decide⟩
  have sto9 : Sto Z h7 b1 (.ref w_INVALID_CALL) := Sto.ofV Ar9 q9 O1 (Ins.of_exa (E_w_INVALID_CALL.keep K7) (hw _ (List.mem_of_getElem? (i := 5) rfl)))
  obtain ⟨T9, h9, X9, e9, W9, st9⟩ := stR X8 hx hZ e8 Ar9 (j := (3 : Int32)) hin9 rfl sto9 (g := (mkF m 28 #[.val (.int p0), .unset, .unset, .unset] [(.ref w_INVALID_CALL), (.int (3 : Int32)), (.ref b1), (.ref b1)])) rfl rfl (hb hby at_28)
  have V9 : Arv Z h9 b1 k1 (.object "com/example/lungfish/lungfish/engine/FailureKind") (7 : Int32) [(.ref w_REFUSAL), (.ref w_TRANSIENT), (.ref w_TIMEOUT), (.ref w_INVALID_CALL), .null, .null, .null] .null := Arv.set Ar9 q9 s9 m9 H9 F9 rfl W9 3 rfl (Nat.le_of_ble_eq_true rfl)
  have K9 : Keep h0 h9 [] := K7.wr W9 (Or.inr sz_b1)
  have N9 := Fr.snoc X9 N7 g_b1
  obtain ⟨T10, X10, e10, st10⟩ := getS2 X9 hx hZ hown (host := "") (Or.inl (hw _ (List.mem_of_getElem? (i := 12) rfl))) Via.refl e9 (own_sta_keep S_w_INVALID_ANSWER K9) (g := (mkF m 31 #[.val (.int p0), .unset, .unset, .unset] [(.int (4 : Int32)), (.ref b1), (.ref b1)])) rfl (hb hby at_31)
  obtain ⟨cl11, Ar11, q11, s11, m11, H11, F11⟩ := V9
  have hin11 : ¬ ((4 : Int32) < 0 ∨ cl11.slots.size ≤ ((4 : Int32)).toNatClampNeg) := inb_of s11 ⟨by decide, by decide⟩
  have sto11 : Sto Z h9 b1 (.ref w_INVALID_ANSWER) := Sto.ofV Ar11 q11 O1 (Ins.of_exa (E_w_INVALID_ANSWER.keep K9) (hw _ (List.mem_of_getElem? (i := 5) rfl)))
  obtain ⟨T11, h11, X11, e11, W11, st11⟩ := stR X10 hx hZ e10 Ar11 (j := (4 : Int32)) hin11 rfl sto11 (g := (mkF m 34 #[.val (.int p0), .unset, .unset, .unset] [(.ref w_INVALID_ANSWER), (.int (4 : Int32)), (.ref b1), (.ref b1)])) rfl rfl (hb hby at_34)
  have V11 : Arv Z h11 b1 k1 (.object "com/example/lungfish/lungfish/engine/FailureKind") (7 : Int32) [(.ref w_REFUSAL), (.ref w_TRANSIENT), (.ref w_TIMEOUT), (.ref w_INVALID_CALL), (.ref w_INVALID_ANSWER), .null, .null] .null := Arv.set Ar11 q11 s11 m11 H11 F11 rfl W11 4 rfl (Nat.le_of_ble_eq_true rfl)
  have K11 : Keep h0 h11 [] := K9.wr W11 (Or.inr sz_b1)
  have N11 := Fr.snoc X11 N9 g_b1
  obtain ⟨T12, X12, e12, st12⟩ := getS2 X11 hx hZ hown (host := "") (Or.inl (hw _ (List.mem_of_getElem? (i := 14) rfl))) Via.refl e11 (own_sta_keep S_w_CONTEXT_TOO_LARGE K11) (g := (mkF m 37 #[.val (.int p0), .unset, .unset, .unset] [(.int (5 : Int32)), (.ref b1), (.ref b1)])) rfl (hb hby at_37)
  obtain ⟨cl13, Ar13, q13, s13, m13, H13, F13⟩ := V11
  have hin13 : ¬ ((5 : Int32) < 0 ∨ cl13.slots.size ≤ ((5 : Int32)).toNatClampNeg) := inb_of s13 ⟨by decide, by decide⟩
  have sto13 : Sto Z h11 b1 (.ref w_CONTEXT_TOO_LARGE) := Sto.ofV Ar13 q13 O1 (Ins.of_exa (E_w_CONTEXT_TOO_LARGE.keep K11) (hw _ (List.mem_of_getElem? (i := 5) rfl)))
  obtain ⟨T13, h13, X13, e13, W13, st13⟩ := stR X12 hx hZ e12 Ar13 (j := (5 : Int32)) hin13 rfl sto13 (g := (mkF m 40 #[.val (.int p0), .unset, .unset, .unset] [(.ref w_CONTEXT_TOO_LARGE), (.int (5 : Int32)), (.ref b1), (.ref b1)])) rfl rfl (hb hby at_40)
  have V13 : Arv Z h13 b1 k1 (.object "com/example/lungfish/lungfish/engine/FailureKind") (7 : Int32) [(.ref w_REFUSAL), (.ref w_TRANSIENT), (.ref w_TIMEOUT), (.ref w_INVALID_CALL), (.ref w_INVALID_ANSWER), (.ref w_CONTEXT_TOO_LARGE), .null] .null := Arv.set Ar13 q13 s13 m13 H13 F13 rfl W13 5 rfl (Nat.le_of_ble_eq_true rfl)
  have K13 : Keep h0 h13 [] := K11.wr W13 (Or.inr sz_b1)
  have N13 := Fr.snoc X13 N11 g_b1
  obtain ⟨T14, X14, e14, st14⟩ := getS2 X13 hx hZ hown (host := "") (Or.inl (hw _ (List.mem_of_getElem? (i := 16) rfl))) Via.refl e13 (own_sta_keep S_w_JUMP_LIMIT K13) (g := (mkF m 44 #[.val (.int p0), .unset, .unset, .unset] [(.int (6 : Int32)), (.ref b1), (.ref b1)])) rfl (hb hby at_44)
  obtain ⟨cl15, Ar15, q15, s15, m15, H15, F15⟩ := V13
  have hin15 : ¬ ((6 : Int32) < 0 ∨ cl15.slots.size ≤ ((6 : Int32)).toNatClampNeg) := inb_of s15 ⟨by decide, by decide⟩
  have sto15 : Sto Z h13 b1 (.ref w_JUMP_LIMIT) := Sto.ofV Ar15 q15 O1 (Ins.of_exa (E_w_JUMP_LIMIT.keep K13) (hw _ (List.mem_of_getElem? (i := 5) rfl)))
  obtain ⟨T15, h15, X15, e15, W15, st15⟩ := stR X14 hx hZ e14 Ar15 (j := (6 : Int32)) hin15 rfl sto15 (g := (mkF m 47 #[.val (.int p0), .unset, .unset, .unset] [(.ref w_JUMP_LIMIT), (.int (6 : Int32)), (.ref b1), (.ref b1)])) rfl rfl (hb hby at_47)
  have V15 : Arv Z h15 b1 k1 (.object "com/example/lungfish/lungfish/engine/FailureKind") (7 : Int32) [(.ref w_REFUSAL), (.ref w_TRANSIENT), (.ref w_TIMEOUT), (.ref w_INVALID_CALL), (.ref w_INVALID_ANSWER), (.ref w_CONTEXT_TOO_LARGE), (.ref w_JUMP_LIMIT)] .null := Arv.set Ar15 q15 s15 m15 H15 F15 rfl W15 6 rfl (Nat.le_of_ble_eq_true rfl)
  have K15 : Keep h0 h15 [] := K13.wr W15 (Or.inr sz_b1)
  have N15 := Fr.snoc X15 N13 g_b1
  obtain ⟨cl16, Ar16, q16, s16, m16, H16, F16⟩ := V15
  have hin16 : ¬ ((0 : Int32) < 0 ∨ cl16.slots.size ≤ ((0 : Int32)).toNatClampNeg) := inb_of s16 ⟨by decide, by decide⟩
  have hat16 : cl16.slots[((0 : Int32)).toNatClampNeg]? = some (.ref w_REFUSAL) := H16.at hin16 rfl
  obtain ⟨cq17, kq17, q17a, q17b, q17c⟩ := isOf hZ e15 (E_w_REFUSAL.keep K15)
  obtain ⟨_, _, ⟨T17, L17, k17, n17⟩, -, X17, ⟨Lc17, hQ17, l17, y17, z17⟩, st17⟩ := X15.virtualBack hx (y := (⟨"com/example/lungfish/lungfish/engine/FailureKind", "isRetryable", "()Z"⟩ : MethodName)) (z := (⟨"com/example/lungfish/lungfish/engine/FailureKind", "isRetryable", "()Z"⟩ : MethodName)) hown (mvT hZ (hw _ (List.mem_of_getElem? (i := 19) rfl))) (mvT hZ (hw _ (List.mem_of_getElem? (i := 20) rfl))) (notFace_of_selects (args := #[]) (mvT hZ (hw _ (List.mem_of_getElem? (i := 22) rfl)))) (mvT hZ (hw _ (List.mem_of_getElem? (i := 22) rfl))) (mvT hZ (hw _ (List.mem_of_getElem? (i := 21) rfl))) (by decide) (backOf (W := 0) (c1_0 l Z a0 hw [] w_REFUSAL w_TRANSIENT w_TIMEOUT w_INVALID_CALL w_INVALID_ANSWER w_CONTEXT_TOO_LARGE w_JUMP_LIMIT h15 n0 (Nat.le_trans Z0 K15.1) (G.keep K15)) hZ (hw _ (List.mem_of_getElem? (i := 23) rfl)) (hw _ (List.mem_of_getElem? (i := 3) rfl)) (by decide) (by decide)) q17a q17c (g := (mkF m 76 #[.val (.int p0), .val (.ref b1), .val (.int (0 : Int32)), .val (.int (0 : Int32))] [(.ref w_REFUSAL)])) rfl (by rw [hml]; rfl) (Steps.refl _) (argsL := []) (rest := []) (lenOf pd___Z rfl) rfl (by show 2 * 0 + _ ≤ _; exact Nat.le_of_eq rfl) (hb hby at_76) (fun _ _ => ⟨rfl, e15, (by decide : 1 + 0 ≤ _), (by decide : 7 + 0 ≤ _)⟩)
  dsimp only [Pt.U, Pt.locs, Pt.cells, Pt.slots] at X17 l17 y17 z17 st17 hQ17
  subst l17 y17 z17
  obtain ⟨rfl, N17q, e17⟩ := hQ17
  have N17 := Fr.app N15 N17q
  obtain ⟨fs, hr, hrun, hended, hW, hsame⟩ := X17.leave (v := some (.int (1 : Int32))) (fun h => by rw [Bd.returns] at h; cases h)
  refine ⟨_, _, pre0 _ ?_, hrun, hended, _, _, rfl, ?_, ⟨_, rfl⟩, hW, hsame.mono (by decide) (by decide)⟩
  · show Steps p.tables e below (s₁.setTop (mkF m 0 #[.val (.int p0), .unset, .unset, .unset] [])) _
    refine XS.bipush X0.here hx rfl (hb hby at_0) ?_
    show Steps p.tables e below (s₁.setTop (mkF m 2 #[.val (.int p0), .unset, .unset, .unset] [(.int (7 : Int32))])) _
    refine st1 _ ?_
    show Steps p.tables e below (T1.setTop (mkF m 5 #[.val (.int p0), .unset, .unset, .unset] [(.ref b1)])) _
    refine XS.dup X1.here hx rfl (hb hby at_5) rfl rfl ?_
    show Steps p.tables e below (T1.setTop (mkF m 6 #[.val (.int p0), .unset, .unset, .unset] [(.ref b1), (.ref b1)])) _
    refine XS.iconst X1.here hx rfl (hb hby at_6) ?_
    show Steps p.tables e below (T1.setTop (mkF m 7 #[.val (.int p0), .unset, .unset, .unset] [(.int (0 : Int32)), (.ref b1), (.ref b1)])) _
    refine st2 _ ?_
    show Steps p.tables e below (T2.setTop (mkF m 10 #[.val (.int p0), .unset, .unset, .unset] [(.ref w_REFUSAL), (.int (0 : Int32)), (.ref b1), (.ref b1)])) _
    refine st3 _ ?_
    show Steps p.tables e below (T3.setTop (mkF m 11 #[.val (.int p0), .unset, .unset, .unset] [(.ref b1)])) _
    refine XS.dup X3.here hx rfl (hb hby at_11) rfl rfl ?_
    show Steps p.tables e below (T3.setTop (mkF m 12 #[.val (.int p0), .unset, .unset, .unset] [(.ref b1), (.ref b1)])) _
    refine XS.iconst X3.here hx rfl (hb hby at_12) ?_
    show Steps p.tables e below (T3.setTop (mkF m 13 #[.val (.int p0), .unset, .unset, .unset] [(.int (1 : Int32)), (.ref b1), (.ref b1)])) _
    refine st4 _ ?_
    show Steps p.tables e below (T4.setTop (mkF m 16 #[.val (.int p0), .unset, .unset, .unset] [(.ref w_TRANSIENT), (.int (1 : Int32)), (.ref b1), (.ref b1)])) _
    refine st5 _ ?_
    show Steps p.tables e below (T5.setTop (mkF m 17 #[.val (.int p0), .unset, .unset, .unset] [(.ref b1)])) _
    refine XS.dup X5.here hx rfl (hb hby at_17) rfl rfl ?_
    show Steps p.tables e below (T5.setTop (mkF m 18 #[.val (.int p0), .unset, .unset, .unset] [(.ref b1), (.ref b1)])) _
    refine XS.iconst X5.here hx rfl (hb hby at_18) ?_
    show Steps p.tables e below (T5.setTop (mkF m 19 #[.val (.int p0), .unset, .unset, .unset] [(.int (2 : Int32)), (.ref b1), (.ref b1)])) _
    refine st6 _ ?_
    show Steps p.tables e below (T6.setTop (mkF m 22 #[.val (.int p0), .unset, .unset, .unset] [(.ref w_TIMEOUT), (.int (2 : Int32)), (.ref b1), (.ref b1)])) _
    refine st7 _ ?_
    show Steps p.tables e below (T7.setTop (mkF m 23 #[.val (.int p0), .unset, .unset, .unset] [(.ref b1)])) _
    refine XS.dup X7.here hx rfl (hb hby at_23) rfl rfl ?_
    show Steps p.tables e below (T7.setTop (mkF m 24 #[.val (.int p0), .unset, .unset, .unset] [(.ref b1), (.ref b1)])) _
    refine XS.iconst X7.here hx rfl (hb hby at_24) ?_
    show Steps p.tables e below (T7.setTop (mkF m 25 #[.val (.int p0), .unset, .unset, .unset] [(.int (3 : Int32)), (.ref b1), (.ref b1)])) _
    refine st8 _ ?_
    show Steps p.tables e below (T8.setTop (mkF m 28 #[.val (.int p0), .unset, .unset, .unset] [(.ref w_INVALID_CALL), (.int (3 : Int32)), (.ref b1), (.ref b1)])) _
    refine st9 _ ?_
    show Steps p.tables e below (T9.setTop (mkF m 29 #[.val (.int p0), .unset, .unset, .unset] [(.ref b1)])) _
    refine XS.dup X9.here hx rfl (hb hby at_29) rfl rfl ?_
    show Steps p.tables e below (T9.setTop (mkF m 30 #[.val (.int p0), .unset, .unset, .unset] [(.ref b1), (.ref b1)])) _
    refine XS.iconst X9.here hx rfl (hb hby at_30) ?_
    show Steps p.tables e below (T9.setTop (mkF m 31 #[.val (.int p0), .unset, .unset, .unset] [(.int (4 : Int32)), (.ref b1), (.ref b1)])) _
    refine st10 _ ?_
    show Steps p.tables e below (T10.setTop (mkF m 34 #[.val (.int p0), .unset, .unset, .unset] [(.ref w_INVALID_ANSWER), (.int (4 : Int32)), (.ref b1), (.ref b1)])) _
    refine st11 _ ?_
    show Steps p.tables e below (T11.setTop (mkF m 35 #[.val (.int p0), .unset, .unset, .unset] [(.ref b1)])) _
    refine XS.dup X11.here hx rfl (hb hby at_35) rfl rfl ?_
    show Steps p.tables e below (T11.setTop (mkF m 36 #[.val (.int p0), .unset, .unset, .unset] [(.ref b1), (.ref b1)])) _
    refine XS.iconst X11.here hx rfl (hb hby at_36) ?_
    show Steps p.tables e below (T11.setTop (mkF m 37 #[.val (.int p0), .unset, .unset, .unset] [(.int (5 : Int32)), (.ref b1), (.ref b1)])) _
    refine st12 _ ?_
    show Steps p.tables e below (T12.setTop (mkF m 40 #[.val (.int p0), .unset, .unset, .unset] [(.ref w_CONTEXT_TOO_LARGE), (.int (5 : Int32)), (.ref b1), (.ref b1)])) _
    refine st13 _ ?_
    show Steps p.tables e below (T13.setTop (mkF m 41 #[.val (.int p0), .unset, .unset, .unset] [(.ref b1)])) _
    refine XS.dup X13.here hx rfl (hb hby at_41) rfl rfl ?_
    show Steps p.tables e below (T13.setTop (mkF m 42 #[.val (.int p0), .unset, .unset, .unset] [(.ref b1), (.ref b1)])) _
    refine XS.bipush X13.here hx rfl (hb hby at_42) ?_
    show Steps p.tables e below (T13.setTop (mkF m 44 #[.val (.int p0), .unset, .unset, .unset] [(.int (6 : Int32)), (.ref b1), (.ref b1)])) _
    refine st14 _ ?_
    show Steps p.tables e below (T14.setTop (mkF m 47 #[.val (.int p0), .unset, .unset, .unset] [(.ref w_JUMP_LIMIT), (.int (6 : Int32)), (.ref b1), (.ref b1)])) _
    refine st15 _ ?_
    show Steps p.tables e below (T15.setTop (mkF m 48 #[.val (.int p0), .unset, .unset, .unset] [(.ref b1)])) _
    refine XS.astoreN X15.here hx rfl (hb hby at_48) rfl rfl (l' := #[.val (.int p0), .val (.ref b1), .unset, .unset]) rfl ?_
    show Steps p.tables e below (T15.setTop (mkF m 49 #[.val (.int p0), .val (.ref b1), .unset, .unset] [])) _
    refine XS.iloadN X15.here hx rfl (hb hby at_49) rfl ?_
    show Steps p.tables e below (T15.setTop (mkF m 50 #[.val (.int p0), .val (.ref b1), .unset, .unset] [(.int p0)])) _
    refine X15.ldcInt hx hown (mvT hZ (hw _ (List.mem_of_getElem? (i := 18) rfl))) (g := (mkF m 50 #[.val (.int p0), .val (.ref b1), .unset, .unset] [(.int p0)])) rfl (hb hby at_50) _ ?_
    show Steps p.tables e below (T15.setTop (mkF m 52 #[.val (.int p0), .val (.ref b1), .unset, .unset] [(.int (2147483647 : Int32)), (.int p0)])) _
    refine XS.iand X15.here hx rfl (hb hby at_52) rfl ?_
    show Steps p.tables e below (T15.setTop (mkF m 53 #[.val (.int p0), .val (.ref b1), .unset, .unset] [(.int (p0 &&& (2147483647 : Int32)))])) _
    refine XS.bipush X15.here hx rfl (hb hby at_53) ?_
    show Steps p.tables e below (T15.setTop (mkF m 55 #[.val (.int p0), .val (.ref b1), .unset, .unset] [(.int (7 : Int32)), (.int (p0 &&& (2147483647 : Int32)))])) _
    refine iremM X15 hx rfl (hb hby at_55) rfl (by decide) ?_
    show Steps p.tables e below (T15.setTop (mkF m 56 #[.val (.int p0), .val (.ref b1), .unset, .unset] [(.int ((p0 &&& (2147483647 : Int32)) % (7 : Int32)))])) _
    rw [hi0]
    show Steps p.tables e below (T15.setTop (mkF m 56 #[.val (.int p0), .val (.ref b1), .unset, .unset] [(.int (0 : Int32))])) _
    refine XS.istoreN X15.here hx rfl (hb hby at_56) rfl (l' := #[.val (.int p0), .val (.ref b1), .val (.int (0 : Int32)), .unset]) rfl ?_
    show Steps p.tables e below (T15.setTop (mkF m 57 #[.val (.int p0), .val (.ref b1), .val (.int (0 : Int32)), .unset] [])) _
    refine XS.iloadN X15.here hx rfl (hb hby at_57) rfl ?_
    show Steps p.tables e below (T15.setTop (mkF m 58 #[.val (.int p0), .val (.ref b1), .val (.int (0 : Int32)), .unset] [(.int (0 : Int32))])) _
    refine XS.iconst X15.here hx rfl (hb hby at_58) ?_
    show Steps p.tables e below (T15.setTop (mkF m 59 #[.val (.int p0), .val (.ref b1), .val (.int (0 : Int32)), .unset] [(.int (1 : Int32)), (.int (0 : Int32))])) _
    refine XS.icmpNo X15.here hx rfl (hb hby at_59) rfl (feq (by decide : ¬ ((0 : Int32) = (1 : Int32)))).1 ?_
    show Steps p.tables e below (T15.setTop (mkF m 62 #[.val (.int p0), .val (.ref b1), .val (.int (0 : Int32)), .unset] [])) _
    refine XS.iloadN X15.here hx rfl (hb hby at_62) rfl ?_
    show Steps p.tables e below (T15.setTop (mkF m 63 #[.val (.int p0), .val (.ref b1), .val (.int (0 : Int32)), .unset] [(.int (0 : Int32))])) _
    refine XS.iconst X15.here hx rfl (hb hby at_63) ?_
    show Steps p.tables e below (T15.setTop (mkF m 64 #[.val (.int p0), .val (.ref b1), .val (.int (0 : Int32)), .unset] [(.int (2 : Int32)), (.int (0 : Int32))])) _
    refine XS.icmpYes X15.here hx rfl (pc0 := 64) (pc' := 71) rfl (hb hby at_64) rfl (feq (by decide : ¬ ((0 : Int32) = (2 : Int32)))).2 (by decide) (by decide) ?_
    show Steps p.tables e below (T15.setTop (mkF m 71 #[.val (.int p0), .val (.ref b1), .val (.int (0 : Int32)), .unset] [])) _
    refine XS.iconst X15.here hx rfl (hb hby at_71) ?_
    show Steps p.tables e below (T15.setTop (mkF m 72 #[.val (.int p0), .val (.ref b1), .val (.int (0 : Int32)), .unset] [(.int (0 : Int32))])) _
    refine XS.istoreN X15.here hx rfl (hb hby at_72) rfl (l' := #[.val (.int p0), .val (.ref b1), .val (.int (0 : Int32)), .val (.int (0 : Int32))]) rfl ?_
    show Steps p.tables e below (T15.setTop (mkF m 73 #[.val (.int p0), .val (.ref b1), .val (.int (0 : Int32)), .val (.int (0 : Int32))] [])) _
    refine XS.aloadN X15.here hx rfl (hb hby at_73) rfl rfl ?_
    show Steps p.tables e below (T15.setTop (mkF m 74 #[.val (.int p0), .val (.ref b1), .val (.int (0 : Int32)), .val (.int (0 : Int32))] [(.ref b1)])) _
    refine XS.iloadN X15.here hx rfl (hb hby at_74) rfl ?_
    show Steps p.tables e below (T15.setTop (mkF m 75 #[.val (.int p0), .val (.ref b1), .val (.int (0 : Int32)), .val (.int (0 : Int32))] [(.int (0 : Int32)), (.ref b1)])) _
    refine X15.aaload hx (j := (0 : Int32)) (v := (.ref w_REFUSAL)) (by rw [e15]; exact Ar16.1) (State.isArrayOf_alike hZ.alike Ar16.2.1) rfl Ar16.2.2 hin16 hat16 (g := (mkF m 75 #[.val (.int p0), .val (.ref b1), .val (.int (0 : Int32)), .val (.int (0 : Int32))] [(.int (0 : Int32)), (.ref b1)])) rfl rfl (hb hby at_75) _ ?_
    show Steps p.tables e below (T15.setTop (mkF m 76 #[.val (.int p0), .val (.ref b1), .val (.int (0 : Int32)), .val (.int (0 : Int32))] [(.ref w_REFUSAL)])) _
    refine st17.trans ?_
    show Steps p.tables e below (T17.setTop (mkF m 79 #[.val (.int p0), .val (.ref b1), .val (.int (0 : Int32)), .val (.int (0 : Int32))] [(.int (0 : Int32))])) _
    refine XS.iloadN X17.here hx rfl (hb hby at_79) rfl ?_
    show Steps p.tables e below (T17.setTop (mkF m 80 #[.val (.int p0), .val (.ref b1), .val (.int (0 : Int32)), .val (.int (0 : Int32))] [(.int (0 : Int32)), (.int (0 : Int32))])) _
    refine XS.icmpNo X17.here hx rfl (hb hby at_80) rfl (teq (by decide : (0 : Int32) = (0 : Int32))).2 ?_
    show Steps p.tables e below (T17.setTop (mkF m 83 #[.val (.int p0), .val (.ref b1), .val (.int (0 : Int32)), .val (.int (0 : Int32))] [])) _
    refine XS.iconst X17.here hx rfl (hb hby at_83) ?_
    show Steps p.tables e below (T17.setTop (mkF m 84 #[.val (.int p0), .val (.ref b1), .val (.int (0 : Int32)), .val (.int (0 : Int32))] [(.int (1 : Int32))])) _
    refine XS.goto X17.here hx rfl (pc0 := 84) (pc' := 88) rfl (hb hby at_84) (by decide) (by decide) ?_
    show Steps p.tables e below (T17.setTop (mkF m 88 #[.val (.int p0), .val (.ref b1), .val (.int (0 : Int32)), .val (.int (0 : Int32))] [(.int (1 : Int32))])) _
    exact retOut X17 hx Bd.returns rfl (Or.inl ⟨rfl, Or.inr (Or.inl rfl), _, rfl⟩) (hb hby at_88) hr
  · exact ⟨rfl, N17⟩
theorem d1_14 : decode prog_10_method_5_code 14 = .ok (.iconst 1, 1) := by decide +kernel
theorem d1_15 : decode prog_10_method_5_code 15 = .ok (.goto 4, 3) := by decide +kernel
set_option maxRecDepth 65536 in
set_option maxHeartbeats 40000000 in
theorem c1_1 (l : Launch) (Z : State) (a0 : Array Value) (hw : ∀ d ∈ tables_1, d.before a0 Z = true) (ws : List Jvm.Cond) (w_REFUSAL : Addr) (w_TRANSIENT : Addr) (w_TIMEOUT : Addr) (w_INVALID_CALL : Addr) (w_INVALID_ANSWER : Addr) (w_CONTEXT_TOO_LARGE : Addr) (w_JUMP_LIMIT : Addr) (h0 : Heap) (n0 : Nat) (Z0 : n0 ≤ h0.size) (G : Glob Z h0 w_REFUSAL w_TRANSIENT w_TIMEOUT w_INVALID_CALL w_INVALID_ANSWER w_CONTEXT_TOO_LARGE w_JUMP_LIMIT)  :
    MetFree l (⟨"com/example/lungfish/lungfish/engine/FailureKind", "isRetryable", "()Z"⟩ : MethodName) (head1 (Jvm.Cond.code (⟨"com/example/lungfish/lungfish/engine/FailureKind", "isRetryable", "()Z"⟩ : MethodName) prog_10_method_5_code 1 (some .boolean) :: ws) ({ frames := 0, cells := 0, slots := 0, locals := 0 } : Room)) (fun a U => a = #[(.ref w_TRANSIENT)] ∧ Z.Warmed39 U.vm ∧ U.heap = h0) (fun _ _ _ _ _ => True) (fun _ U o U' => ∃ v L, o = .returned v ∧ QR (some (.int (1 : Int32))) h0 n0 v U'.heap L ∧ FrameEnd U o U' L ({ frames := 0, cells := 0, slots := 0, locals := 0 } : Room).cells ({ frames := 0, cells := 0, slots := 0, locals := 0 } : Room).slots) := by
  refine MetFree.of_bodySF (plainFor_of_name pn_com_example_lungfish_lungfish_engine_FailureKind) hisR ?_
  intro p e s m args below meth c s₁ Bd hml0 hP hK
  obtain ⟨rfl, hZ, hh⟩ := hP
  have hx := Bd.exec
  have hby := Bd.bytes
  have hml : c.maxLocals = 1 := hml0
  have hown : s.vm.findClass "com/example/lungfish/lungfish/engine/FailureKind" = some m.cls := findClass_of_methodNamed Bd.named
  have X0 : Stand p l e ({ frames := 0, cells := 0, slots := 0, locals := 0 } : Room) s m #[(.ref w_TRANSIENT)] below meth c s₁ [] 0 0 := Stand.of_body Bd
  have e0 : s₁.heap = h0 := by rw [← hh, Bd.state]; rfl
  have N0 := Fr.nil n0
  have pre0 : ∀ t, Steps p.tables e below (s₁.setTop (mkF m 0 #[.val (.ref w_TRANSIENT)] [])) t → Steps p.tables e below (s₁.setTop (entryFrame m #[(.ref w_TRANSIENT)] 1)) t := fun t k => castTop (ef_1_R m w_TRANSIENT) k
  have G' := G
  obtain ⟨S_w_REFUSAL, E_w_REFUSAL, S_w_TRANSIENT, E_w_TRANSIENT, S_w_TIMEOUT, E_w_TIMEOUT, S_w_INVALID_CALL, E_w_INVALID_CALL, S_w_INVALID_ANSWER, E_w_INVALID_ANSWER, S_w_CONTEXT_TOO_LARGE, E_w_CONTEXT_TOO_LARGE, S_w_JUMP_LIMIT, E_w_JUMP_LIMIT, F_ordinal_w_REFUSAL, F_ordinal_w_TRANSIENT, F_ordinal_w_TIMEOUT, F_ordinal_w_INVALID_CALL, F_ordinal_w_CONTEXT_TOO_LARGE, F_ordinal_w_JUMP_LIMIT, F_ordinal_w_INVALID_ANSWER⟩ := G'
  obtain ⟨T1, X1, e1, st1⟩ := getS2 X0 hx hZ hown (host := "") (Or.inl (hw _ (List.mem_of_getElem? (i := 24) rfl))) Via.refl e0 S_w_TRANSIENT (g := (mkF m 1 #[.val (.ref w_TRANSIENT)] [(.ref w_TRANSIENT)])) rfl (hb hby d1_1)
  obtain ⟨fs, hr, hrun, hended, hW, hsame⟩ := X1.leave (v := some (.int (1 : Int32))) (fun h => by rw [Bd.returns] at h; cases h)
  refine ⟨_, _, pre0 _ ?_, hrun, hended, _, _, rfl, ?_, ⟨_, rfl⟩, hW, hsame.mono (by decide) (by decide)⟩
  · show Steps p.tables e below (s₁.setTop (mkF m 0 #[.val (.ref w_TRANSIENT)] [])) _
    refine XS.aloadN X0.here hx rfl (hb hby d1_0) rfl rfl ?_
    show Steps p.tables e below (s₁.setTop (mkF m 1 #[.val (.ref w_TRANSIENT)] [(.ref w_TRANSIENT)])) _
    refine st1 _ ?_
    show Steps p.tables e below (T1.setTop (mkF m 4 #[.val (.ref w_TRANSIENT)] [(.ref w_TRANSIENT), (.ref w_TRANSIENT)])) _
    refine Jvm.RoadKit.acmp (g := (mkF m 4 #[.val (.ref w_TRANSIENT)] [(.ref w_TRANSIENT), (.ref w_TRANSIENT)])) X1 hx rfl rfl rfl (pc0 := 4) (pc' := 14) (same := true) rfl (hb hby d1_4) rfl (decide_eq_true rfl) (by decide) (by decide) ?_
    show Steps p.tables e below (T1.setTop (mkF m 14 #[.val (.ref w_TRANSIENT)] [])) _
    refine XS.iconst X1.here hx rfl (hb hby d1_14) ?_
    show Steps p.tables e below (T1.setTop (mkF m 15 #[.val (.ref w_TRANSIENT)] [(.int (1 : Int32))])) _
    refine XS.goto X1.here hx rfl (pc0 := 15) (pc' := 19) rfl (hb hby d1_15) (by decide) (by decide) ?_
    show Steps p.tables e below (T1.setTop (mkF m 19 #[.val (.ref w_TRANSIENT)] [(.int (1 : Int32))])) _
    exact retOut X1 hx Bd.returns rfl (Or.inl ⟨rfl, Or.inr (Or.inl rfl), _, rfl⟩) (hb hby d1_19) hr
  · show QR _ h0 n0 _ T1.heap _
    rw [e1]
    exact ⟨rfl, N0, rfl⟩
set_option maxRecDepth 65536 in
set_option maxHeartbeats 40000000 in
theorem law_1 (l : Launch) (Z : State) (a0 : Array Value) (hw : ∀ d ∈ tables_1, d.before a0 Z = true) (ws : List Jvm.Cond) (w_REFUSAL : Addr) (w_TRANSIENT : Addr) (w_TIMEOUT : Addr) (w_INVALID_CALL : Addr) (w_INVALID_ANSWER : Addr) (w_CONTEXT_TOO_LARGE : Addr) (w_JUMP_LIMIT : Addr) (h0 : Heap) (n0 : Nat) (Z0 : n0 ≤ h0.size) (G : Glob Z h0 w_REFUSAL w_TRANSIENT w_TIMEOUT w_INVALID_CALL w_INVALID_ANSWER w_CONTEXT_TOO_LARGE w_JUMP_LIMIT) (p0 : Int32) (hi1 : ((p0 &&& (2147483647 : Int32)) % (7 : Int32)) = (1 : Int32)) :
    MetFree l x (head1 (Jvm.Cond.code x code maxLocals ret :: ws) room_1) (fun a U => a = #[(.int p0)] ∧ Z.Warmed39 U.vm ∧ U.heap = h0) (fun _ _ _ _ _ => True) (fun _ U o U' => ∃ v L, o = .returned v ∧ QL (some (.int (1 : Int32))) h0 n0 v U'.heap L ∧ FrameEnd U o U' L room_1.cells room_1.slots) := by
  refine MetFree.of_bodySF (plainFor_of_name pn_com_example_lungfish_lungfish_engine_FailureKindIsRetryablePinLaw) hisR ?_
  intro p e s m args below meth c s₁ Bd hml0 hP hK
  obtain ⟨rfl, hZ, hh⟩ := hP
  have hx := Bd.exec
  have hby := Bd.bytes
  have hml : c.maxLocals = 4 := hml0
  have hown : s.vm.findClass "com/example/lungfish/lungfish/engine/FailureKindIsRetryablePinLaw" = some m.cls := findClass_of_methodNamed Bd.named
  have X0 : Stand p l e room_1 s m #[(.int p0)] below meth c s₁ [] 0 0 := Stand.of_body Bd
  have e0 : s₁.heap = h0 := by rw [← hh, Bd.state]; rfl
  have N0 := Fr.nil n0
  have pre0 : ∀ t, Steps p.tables e below (s₁.setTop (mkF m 0 #[.val (.int p0), .unset, .unset, .unset] [])) t → Steps p.tables e below (s₁.setTop (entryFrame m #[(.int p0)] maxLocals)) t := fun t k => castTop (ef_0_I m p0) k
  have G' := G
  obtain ⟨S_w_REFUSAL, E_w_REFUSAL, S_w_TRANSIENT, E_w_TRANSIENT, S_w_TIMEOUT, E_w_TIMEOUT, S_w_INVALID_CALL, E_w_INVALID_CALL, S_w_INVALID_ANSWER, E_w_INVALID_ANSWER, S_w_CONTEXT_TOO_LARGE, E_w_CONTEXT_TOO_LARGE, S_w_JUMP_LIMIT, E_w_JUMP_LIMIT, F_ordinal_w_REFUSAL, F_ordinal_w_TRANSIENT, F_ordinal_w_TIMEOUT, F_ordinal_w_INVALID_CALL, F_ordinal_w_CONTEXT_TOO_LARGE, F_ordinal_w_JUMP_LIMIT, F_ordinal_w_INVALID_ANSWER⟩ := G'
  obtain ⟨T1, h1, k1, X1, e1, E1, A1, O1, st1⟩ := newR X0 hx hZ hown (hw _ (List.mem_of_getElem? (i := 0) rfl)) (hw _ (List.mem_of_getElem? (i := 1) rfl)) e0 (g := (mkF m 2 #[.val (.int p0), .unset, .unset, .unset] [(.int (7 : Int32))])) rfl (hb hby at_2) rfl (by decide) (cap := 7) (by decide) (by decide) (by decide) (by decide)
  obtain ⟨b1, g1⟩ : ∃ z, z = h0.size := ⟨_, rfl⟩
  rw [← g1] at A1 st1
  have V1 : Arv Z h1 b1 k1 (.object "com/example/lungfish/lungfish/engine/FailureKind") (7 : Int32) [.null, .null, .null, .null, .null, .null, .null] .null := (Arv.new A1 (by decide)).pad (pad_rep [] .null 7)
  have K1 : Keep h0 h1 [] := (Keep.refl h0 []).ext E1
  have sz_b1 : h0.size ≤ b1 := Nat.le_of_eq g1.symm
  have g_b1 : n0 ≤ b1 := Nat.le_trans Z0 sz_b1
  obtain ⟨T2, X2, e2, st2⟩ := getS2 X1 hx hZ hown (host := "") (Or.inl (hw _ (List.mem_of_getElem? (i := 2) rfl))) Via.refl e1 (own_sta_keep S_w_REFUSAL K1) (g := (mkF m 7 #[.val (.int p0), .unset, .unset, .unset] [(.int (0 : Int32)), (.ref b1), (.ref b1)])) rfl (hb hby at_7)
  obtain ⟨cl3, Ar3, q3, s3, m3, H3, F3⟩ := V1
  have hin3 : ¬ ((0 : Int32) < 0 ∨ cl3.slots.size ≤ ((0 : Int32)).toNatClampNeg) := inb_of s3 ⟨by decide, by decide⟩
  have sto3 : Sto Z h1 b1 (.ref w_REFUSAL) := Sto.ofV Ar3 q3 O1 (Ins.of_exa (E_w_REFUSAL.keep K1) (hw _ (List.mem_of_getElem? (i := 5) rfl)))
  obtain ⟨T3, h3, X3, e3, W3, st3⟩ := stR X2 hx hZ e2 Ar3 (j := (0 : Int32)) hin3 rfl sto3 (g := (mkF m 10 #[.val (.int p0), .unset, .unset, .unset] [(.ref w_REFUSAL), (.int (0 : Int32)), (.ref b1), (.ref b1)])) rfl rfl (hb hby at_10)
  have V3 : Arv Z h3 b1 k1 (.object "com/example/lungfish/lungfish/engine/FailureKind") (7 : Int32) [(.ref w_REFUSAL), .null, .null, .null, .null, .null, .null] .null := Arv.set Ar3 q3 s3 m3 H3 F3 rfl W3 0 rfl (Nat.le_of_ble_eq_true rfl)
  have K3 : Keep h0 h3 [] := K1.wr W3 (Or.inr sz_b1)
  have N3 := Fr.snoc X3 N0 g_b1
  obtain ⟨T4, X4, e4, st4⟩ := getS2 X3 hx hZ hown (host := "") (Or.inl (hw _ (List.mem_of_getElem? (i := 6) rfl))) Via.refl e3 (own_sta_keep S_w_TRANSIENT K3) (g := (mkF m 13 #[.val (.int p0), .unset, .unset, .unset] [(.int (1 : Int32)), (.ref b1), (.ref b1)])) rfl (hb hby at_13)
  obtain ⟨cl5, Ar5, q5, s5, m5, H5, F5⟩ := V3
  have hin5 : ¬ ((1 : Int32) < 0 ∨ cl5.slots.size ≤ ((1 : Int32)).toNatClampNeg) := inb_of s5 ⟨by decide, by decide⟩
  have sto5 : Sto Z h3 b1 (.ref w_TRANSIENT) := Sto.ofV Ar5 q5 O1 (Ins.of_exa (E_w_TRANSIENT.keep K3) (hw _ (List.mem_of_getElem? (i := 5) rfl)))
  obtain ⟨T5, h5, X5, e5, W5, st5⟩ := stR X4 hx hZ e4 Ar5 (j := (1 : Int32)) hin5 rfl sto5 (g := (mkF m 16 #[.val (.int p0), .unset, .unset, .unset] [(.ref w_TRANSIENT), (.int (1 : Int32)), (.ref b1), (.ref b1)])) rfl rfl (hb hby at_16)
  have V5 : Arv Z h5 b1 k1 (.object "com/example/lungfish/lungfish/engine/FailureKind") (7 : Int32) [(.ref w_REFUSAL), (.ref w_TRANSIENT), .null, .null, .null, .null, .null] .null := Arv.set Ar5 q5 s5 m5 H5 F5 rfl W5 1 rfl (Nat.le_of_ble_eq_true rfl)
  have K5 : Keep h0 h5 [] := K3.wr W5 (Or.inr sz_b1)
  have N5 := Fr.snoc X5 N3 g_b1
  obtain ⟨T6, X6, e6, st6⟩ := getS2 X5 hx hZ hown (host := "") (Or.inl (hw _ (List.mem_of_getElem? (i := 8) rfl))) Via.refl e5 (own_sta_keep S_w_TIMEOUT K5) (g := (mkF m 19 #[.val (.int p0), .unset, .unset, .unset] [(.int (2 : Int32)), (.ref b1), (.ref b1)])) rfl (hb hby at_19)
  obtain ⟨cl7, Ar7, q7, s7, m7, H7, F7⟩ := V5
  have hin7 : ¬ ((2 : Int32) < 0 ∨ cl7.slots.size ≤ ((2 : Int32)).toNatClampNeg) := inb_of s7 ⟨by decide, by decide⟩
  have sto7 : Sto Z h5 b1 (.ref w_TIMEOUT) := Sto.ofV Ar7 q7 O1 (Ins.of_exa (E_w_TIMEOUT.keep K5) (hw _ (List.mem_of_getElem? (i := 5) rfl)))
  obtain ⟨T7, h7, X7, e7, W7, st7⟩ := stR X6 hx hZ e6 Ar7 (j := (2 : Int32)) hin7 rfl sto7 (g := (mkF m 22 #[.val (.int p0), .unset, .unset, .unset] [(.ref w_TIMEOUT), (.int (2 : Int32)), (.ref b1), (.ref b1)])) rfl rfl (hb hby at_22)
  have V7 : Arv Z h7 b1 k1 (.object "com/example/lungfish/lungfish/engine/FailureKind") (7 : Int32) [(.ref w_REFUSAL), (.ref w_TRANSIENT), (.ref w_TIMEOUT), .null, .null, .null, .null] .null := Arv.set Ar7 q7 s7 m7 H7 F7 rfl W7 2 rfl (Nat.le_of_ble_eq_true rfl)
  have K7 : Keep h0 h7 [] := K5.wr W7 (Or.inr sz_b1)
  have N7 := Fr.snoc X7 N5 g_b1
  obtain ⟨T8, X8, e8, st8⟩ := getS2 X7 hx hZ hown (host := "") (Or.inl (hw _ (List.mem_of_getElem? (i := 10) rfl))) Via.refl e7 (own_sta_keep S_w_INVALID_CALL K7) (g := (mkF m 25 #[.val (.int p0), .unset, .unset, .unset] [(.int (3 : Int32)), (.ref b1), (.ref b1)])) rfl (hb hby at_25)
  obtain ⟨cl9, Ar9, q9, s9, m9, H9, F9⟩ := V7
  have hin9 : ¬ ((3 : Int32) < 0 ∨ cl9.slots.size ≤ ((3 : Int32)).toNatClampNeg) := inb_of s9 ⟨by decide, by decide⟩
  have sto9 : Sto Z h7 b1 (.ref w_INVALID_CALL) := Sto.ofV Ar9 q9 O1 (Ins.of_exa (E_w_INVALID_CALL.keep K7) (hw _ (List.mem_of_getElem? (i := 5) rfl)))
  obtain ⟨T9, h9, X9, e9, W9, st9⟩ := stR X8 hx hZ e8 Ar9 (j := (3 : Int32)) hin9 rfl sto9 (g := (mkF m 28 #[.val (.int p0), .unset, .unset, .unset] [(.ref w_INVALID_CALL), (.int (3 : Int32)), (.ref b1), (.ref b1)])) rfl rfl (hb hby at_28)
  have V9 : Arv Z h9 b1 k1 (.object "com/example/lungfish/lungfish/engine/FailureKind") (7 : Int32) [(.ref w_REFUSAL), (.ref w_TRANSIENT), (.ref w_TIMEOUT), (.ref w_INVALID_CALL), .null, .null, .null] .null := Arv.set Ar9 q9 s9 m9 H9 F9 rfl W9 3 rfl (Nat.le_of_ble_eq_true rfl)
  have K9 : Keep h0 h9 [] := K7.wr W9 (Or.inr sz_b1)
  have N9 := Fr.snoc X9 N7 g_b1
  obtain ⟨T10, X10, e10, st10⟩ := getS2 X9 hx hZ hown (host := "") (Or.inl (hw _ (List.mem_of_getElem? (i := 12) rfl))) Via.refl e9 (own_sta_keep S_w_INVALID_ANSWER K9) (g := (mkF m 31 #[.val (.int p0), .unset, .unset, .unset] [(.int (4 : Int32)), (.ref b1), (.ref b1)])) rfl (hb hby at_31)
  obtain ⟨cl11, Ar11, q11, s11, m11, H11, F11⟩ := V9
  have hin11 : ¬ ((4 : Int32) < 0 ∨ cl11.slots.size ≤ ((4 : Int32)).toNatClampNeg) := inb_of s11 ⟨by decide, by decide⟩
  have sto11 : Sto Z h9 b1 (.ref w_INVALID_ANSWER) := Sto.ofV Ar11 q11 O1 (Ins.of_exa (E_w_INVALID_ANSWER.keep K9) (hw _ (List.mem_of_getElem? (i := 5) rfl)))
  obtain ⟨T11, h11, X11, e11, W11, st11⟩ := stR X10 hx hZ e10 Ar11 (j := (4 : Int32)) hin11 rfl sto11 (g := (mkF m 34 #[.val (.int p0), .unset, .unset, .unset] [(.ref w_INVALID_ANSWER), (.int (4 : Int32)), (.ref b1), (.ref b1)])) rfl rfl (hb hby at_34)
  have V11 : Arv Z h11 b1 k1 (.object "com/example/lungfish/lungfish/engine/FailureKind") (7 : Int32) [(.ref w_REFUSAL), (.ref w_TRANSIENT), (.ref w_TIMEOUT), (.ref w_INVALID_CALL), (.ref w_INVALID_ANSWER), .null, .null] .null := Arv.set Ar11 q11 s11 m11 H11 F11 rfl W11 4 rfl (Nat.le_of_ble_eq_true rfl)
  have K11 : Keep h0 h11 [] := K9.wr W11 (Or.inr sz_b1)
  have N11 := Fr.snoc X11 N9 g_b1
  obtain ⟨T12, X12, e12, st12⟩ := getS2 X11 hx hZ hown (host := "") (Or.inl (hw _ (List.mem_of_getElem? (i := 14) rfl))) Via.refl e11 (own_sta_keep S_w_CONTEXT_TOO_LARGE K11) (g := (mkF m 37 #[.val (.int p0), .unset, .unset, .unset] [(.int (5 : Int32)), (.ref b1), (.ref b1)])) rfl (hb hby at_37)
  obtain ⟨cl13, Ar13, q13, s13, m13, H13, F13⟩ := V11
  have hin13 : ¬ ((5 : Int32) < 0 ∨ cl13.slots.size ≤ ((5 : Int32)).toNatClampNeg) := inb_of s13 ⟨by decide, by decide⟩
  have sto13 : Sto Z h11 b1 (.ref w_CONTEXT_TOO_LARGE) := Sto.ofV Ar13 q13 O1 (Ins.of_exa (E_w_CONTEXT_TOO_LARGE.keep K11) (hw _ (List.mem_of_getElem? (i := 5) rfl)))
  obtain ⟨T13, h13, X13, e13, W13, st13⟩ := stR X12 hx hZ e12 Ar13 (j := (5 : Int32)) hin13 rfl sto13 (g := (mkF m 40 #[.val (.int p0), .unset, .unset, .unset] [(.ref w_CONTEXT_TOO_LARGE), (.int (5 : Int32)), (.ref b1), (.ref b1)])) rfl rfl (hb hby at_40)
  have V13 : Arv Z h13 b1 k1 (.object "com/example/lungfish/lungfish/engine/FailureKind") (7 : Int32) [(.ref w_REFUSAL), (.ref w_TRANSIENT), (.ref w_TIMEOUT), (.ref w_INVALID_CALL), (.ref w_INVALID_ANSWER), (.ref w_CONTEXT_TOO_LARGE), .null] .null := Arv.set Ar13 q13 s13 m13 H13 F13 rfl W13 5 rfl (Nat.le_of_ble_eq_true rfl)
  have K13 : Keep h0 h13 [] := K11.wr W13 (Or.inr sz_b1)
  have N13 := Fr.snoc X13 N11 g_b1
  obtain ⟨T14, X14, e14, st14⟩ := getS2 X13 hx hZ hown (host := "") (Or.inl (hw _ (List.mem_of_getElem? (i := 16) rfl))) Via.refl e13 (own_sta_keep S_w_JUMP_LIMIT K13) (g := (mkF m 44 #[.val (.int p0), .unset, .unset, .unset] [(.int (6 : Int32)), (.ref b1), (.ref b1)])) rfl (hb hby at_44)
  obtain ⟨cl15, Ar15, q15, s15, m15, H15, F15⟩ := V13
  have hin15 : ¬ ((6 : Int32) < 0 ∨ cl15.slots.size ≤ ((6 : Int32)).toNatClampNeg) := inb_of s15 ⟨by decide, by decide⟩
  have sto15 : Sto Z h13 b1 (.ref w_JUMP_LIMIT) := Sto.ofV Ar15 q15 O1 (Ins.of_exa (E_w_JUMP_LIMIT.keep K13) (hw _ (List.mem_of_getElem? (i := 5) rfl)))
  obtain ⟨T15, h15, X15, e15, W15, st15⟩ := stR X14 hx hZ e14 Ar15 (j := (6 : Int32)) hin15 rfl sto15 (g := (mkF m 47 #[.val (.int p0), .unset, .unset, .unset] [(.ref w_JUMP_LIMIT), (.int (6 : Int32)), (.ref b1), (.ref b1)])) rfl rfl (hb hby at_47)
  have V15 : Arv Z h15 b1 k1 (.object "com/example/lungfish/lungfish/engine/FailureKind") (7 : Int32) [(.ref w_REFUSAL), (.ref w_TRANSIENT), (.ref w_TIMEOUT), (.ref w_INVALID_CALL), (.ref w_INVALID_ANSWER), (.ref w_CONTEXT_TOO_LARGE), (.ref w_JUMP_LIMIT)] .null := Arv.set Ar15 q15 s15 m15 H15 F15 rfl W15 6 rfl (Nat.le_of_ble_eq_true rfl)
  have K15 : Keep h0 h15 [] := K13.wr W15 (Or.inr sz_b1)
  have N15 := Fr.snoc X15 N13 g_b1
  obtain ⟨cl16, Ar16, q16, s16, m16, H16, F16⟩ := V15
  have hin16 : ¬ ((1 : Int32) < 0 ∨ cl16.slots.size ≤ ((1 : Int32)).toNatClampNeg) := inb_of s16 ⟨by decide, by decide⟩
  have hat16 : cl16.slots[((1 : Int32)).toNatClampNeg]? = some (.ref w_TRANSIENT) := H16.at hin16 rfl
  obtain ⟨cq17, kq17, q17a, q17b, q17c⟩ := isOf hZ e15 (E_w_TRANSIENT.keep K15)
  obtain ⟨_, _, ⟨T17, L17, k17, n17⟩, -, X17, ⟨Lc17, hQ17, l17, y17, z17⟩, st17⟩ := X15.virtualBack hx (y := (⟨"com/example/lungfish/lungfish/engine/FailureKind", "isRetryable", "()Z"⟩ : MethodName)) (z := (⟨"com/example/lungfish/lungfish/engine/FailureKind", "isRetryable", "()Z"⟩ : MethodName)) hown (mvT hZ (hw _ (List.mem_of_getElem? (i := 19) rfl))) (mvT hZ (hw _ (List.mem_of_getElem? (i := 20) rfl))) (notFace_of_selects (args := #[]) (mvT hZ (hw _ (List.mem_of_getElem? (i := 22) rfl)))) (mvT hZ (hw _ (List.mem_of_getElem? (i := 22) rfl))) (mvT hZ (hw _ (List.mem_of_getElem? (i := 21) rfl))) (by decide) (backOf (W := 0) (c1_1 l Z a0 hw [] w_REFUSAL w_TRANSIENT w_TIMEOUT w_INVALID_CALL w_INVALID_ANSWER w_CONTEXT_TOO_LARGE w_JUMP_LIMIT h15 n0 (Nat.le_trans Z0 K15.1) (G.keep K15)) hZ (hw _ (List.mem_of_getElem? (i := 23) rfl)) (hw _ (List.mem_of_getElem? (i := 3) rfl)) (by decide) (by decide)) q17a q17c (g := (mkF m 76 #[.val (.int p0), .val (.ref b1), .val (.int (1 : Int32)), .val (.int (1 : Int32))] [(.ref w_TRANSIENT)])) rfl (by rw [hml]; rfl) (Steps.refl _) (argsL := []) (rest := []) (lenOf pd___Z rfl) rfl (by show 2 * 0 + _ ≤ _; exact Nat.le_of_eq rfl) (hb hby at_76) (fun _ _ => ⟨rfl, e15, (by decide : 1 + 0 ≤ _), (by decide : 7 + 0 ≤ _)⟩)
  dsimp only [Pt.U, Pt.locs, Pt.cells, Pt.slots] at X17 l17 y17 z17 st17 hQ17
  subst l17 y17 z17
  obtain ⟨rfl, N17q, e17⟩ := hQ17
  have N17 := Fr.app N15 N17q
  obtain ⟨fs, hr, hrun, hended, hW, hsame⟩ := X17.leave (v := some (.int (1 : Int32))) (fun h => by rw [Bd.returns] at h; cases h)
  refine ⟨_, _, pre0 _ ?_, hrun, hended, _, _, rfl, ?_, ⟨_, rfl⟩, hW, hsame.mono (by decide) (by decide)⟩
  · show Steps p.tables e below (s₁.setTop (mkF m 0 #[.val (.int p0), .unset, .unset, .unset] [])) _
    refine XS.bipush X0.here hx rfl (hb hby at_0) ?_
    show Steps p.tables e below (s₁.setTop (mkF m 2 #[.val (.int p0), .unset, .unset, .unset] [(.int (7 : Int32))])) _
    refine st1 _ ?_
    show Steps p.tables e below (T1.setTop (mkF m 5 #[.val (.int p0), .unset, .unset, .unset] [(.ref b1)])) _
    refine XS.dup X1.here hx rfl (hb hby at_5) rfl rfl ?_
    show Steps p.tables e below (T1.setTop (mkF m 6 #[.val (.int p0), .unset, .unset, .unset] [(.ref b1), (.ref b1)])) _
    refine XS.iconst X1.here hx rfl (hb hby at_6) ?_
    show Steps p.tables e below (T1.setTop (mkF m 7 #[.val (.int p0), .unset, .unset, .unset] [(.int (0 : Int32)), (.ref b1), (.ref b1)])) _
    refine st2 _ ?_
    show Steps p.tables e below (T2.setTop (mkF m 10 #[.val (.int p0), .unset, .unset, .unset] [(.ref w_REFUSAL), (.int (0 : Int32)), (.ref b1), (.ref b1)])) _
    refine st3 _ ?_
    show Steps p.tables e below (T3.setTop (mkF m 11 #[.val (.int p0), .unset, .unset, .unset] [(.ref b1)])) _
    refine XS.dup X3.here hx rfl (hb hby at_11) rfl rfl ?_
    show Steps p.tables e below (T3.setTop (mkF m 12 #[.val (.int p0), .unset, .unset, .unset] [(.ref b1), (.ref b1)])) _
    refine XS.iconst X3.here hx rfl (hb hby at_12) ?_
    show Steps p.tables e below (T3.setTop (mkF m 13 #[.val (.int p0), .unset, .unset, .unset] [(.int (1 : Int32)), (.ref b1), (.ref b1)])) _
    refine st4 _ ?_
    show Steps p.tables e below (T4.setTop (mkF m 16 #[.val (.int p0), .unset, .unset, .unset] [(.ref w_TRANSIENT), (.int (1 : Int32)), (.ref b1), (.ref b1)])) _
    refine st5 _ ?_
    show Steps p.tables e below (T5.setTop (mkF m 17 #[.val (.int p0), .unset, .unset, .unset] [(.ref b1)])) _
    refine XS.dup X5.here hx rfl (hb hby at_17) rfl rfl ?_
    show Steps p.tables e below (T5.setTop (mkF m 18 #[.val (.int p0), .unset, .unset, .unset] [(.ref b1), (.ref b1)])) _
    refine XS.iconst X5.here hx rfl (hb hby at_18) ?_
    show Steps p.tables e below (T5.setTop (mkF m 19 #[.val (.int p0), .unset, .unset, .unset] [(.int (2 : Int32)), (.ref b1), (.ref b1)])) _
    refine st6 _ ?_
    show Steps p.tables e below (T6.setTop (mkF m 22 #[.val (.int p0), .unset, .unset, .unset] [(.ref w_TIMEOUT), (.int (2 : Int32)), (.ref b1), (.ref b1)])) _
    refine st7 _ ?_
    show Steps p.tables e below (T7.setTop (mkF m 23 #[.val (.int p0), .unset, .unset, .unset] [(.ref b1)])) _
    refine XS.dup X7.here hx rfl (hb hby at_23) rfl rfl ?_
    show Steps p.tables e below (T7.setTop (mkF m 24 #[.val (.int p0), .unset, .unset, .unset] [(.ref b1), (.ref b1)])) _
    refine XS.iconst X7.here hx rfl (hb hby at_24) ?_
    show Steps p.tables e below (T7.setTop (mkF m 25 #[.val (.int p0), .unset, .unset, .unset] [(.int (3 : Int32)), (.ref b1), (.ref b1)])) _
    refine st8 _ ?_
    show Steps p.tables e below (T8.setTop (mkF m 28 #[.val (.int p0), .unset, .unset, .unset] [(.ref w_INVALID_CALL), (.int (3 : Int32)), (.ref b1), (.ref b1)])) _
    refine st9 _ ?_
    show Steps p.tables e below (T9.setTop (mkF m 29 #[.val (.int p0), .unset, .unset, .unset] [(.ref b1)])) _
    refine XS.dup X9.here hx rfl (hb hby at_29) rfl rfl ?_
    show Steps p.tables e below (T9.setTop (mkF m 30 #[.val (.int p0), .unset, .unset, .unset] [(.ref b1), (.ref b1)])) _
    refine XS.iconst X9.here hx rfl (hb hby at_30) ?_
    show Steps p.tables e below (T9.setTop (mkF m 31 #[.val (.int p0), .unset, .unset, .unset] [(.int (4 : Int32)), (.ref b1), (.ref b1)])) _
    refine st10 _ ?_
    show Steps p.tables e below (T10.setTop (mkF m 34 #[.val (.int p0), .unset, .unset, .unset] [(.ref w_INVALID_ANSWER), (.int (4 : Int32)), (.ref b1), (.ref b1)])) _
    refine st11 _ ?_
    show Steps p.tables e below (T11.setTop (mkF m 35 #[.val (.int p0), .unset, .unset, .unset] [(.ref b1)])) _
    refine XS.dup X11.here hx rfl (hb hby at_35) rfl rfl ?_
    show Steps p.tables e below (T11.setTop (mkF m 36 #[.val (.int p0), .unset, .unset, .unset] [(.ref b1), (.ref b1)])) _
    refine XS.iconst X11.here hx rfl (hb hby at_36) ?_
    show Steps p.tables e below (T11.setTop (mkF m 37 #[.val (.int p0), .unset, .unset, .unset] [(.int (5 : Int32)), (.ref b1), (.ref b1)])) _
    refine st12 _ ?_
    show Steps p.tables e below (T12.setTop (mkF m 40 #[.val (.int p0), .unset, .unset, .unset] [(.ref w_CONTEXT_TOO_LARGE), (.int (5 : Int32)), (.ref b1), (.ref b1)])) _
    refine st13 _ ?_
    show Steps p.tables e below (T13.setTop (mkF m 41 #[.val (.int p0), .unset, .unset, .unset] [(.ref b1)])) _
    refine XS.dup X13.here hx rfl (hb hby at_41) rfl rfl ?_
    show Steps p.tables e below (T13.setTop (mkF m 42 #[.val (.int p0), .unset, .unset, .unset] [(.ref b1), (.ref b1)])) _
    refine XS.bipush X13.here hx rfl (hb hby at_42) ?_
    show Steps p.tables e below (T13.setTop (mkF m 44 #[.val (.int p0), .unset, .unset, .unset] [(.int (6 : Int32)), (.ref b1), (.ref b1)])) _
    refine st14 _ ?_
    show Steps p.tables e below (T14.setTop (mkF m 47 #[.val (.int p0), .unset, .unset, .unset] [(.ref w_JUMP_LIMIT), (.int (6 : Int32)), (.ref b1), (.ref b1)])) _
    refine st15 _ ?_
    show Steps p.tables e below (T15.setTop (mkF m 48 #[.val (.int p0), .unset, .unset, .unset] [(.ref b1)])) _
    refine XS.astoreN X15.here hx rfl (hb hby at_48) rfl rfl (l' := #[.val (.int p0), .val (.ref b1), .unset, .unset]) rfl ?_
    show Steps p.tables e below (T15.setTop (mkF m 49 #[.val (.int p0), .val (.ref b1), .unset, .unset] [])) _
    refine XS.iloadN X15.here hx rfl (hb hby at_49) rfl ?_
    show Steps p.tables e below (T15.setTop (mkF m 50 #[.val (.int p0), .val (.ref b1), .unset, .unset] [(.int p0)])) _
    refine X15.ldcInt hx hown (mvT hZ (hw _ (List.mem_of_getElem? (i := 18) rfl))) (g := (mkF m 50 #[.val (.int p0), .val (.ref b1), .unset, .unset] [(.int p0)])) rfl (hb hby at_50) _ ?_
    show Steps p.tables e below (T15.setTop (mkF m 52 #[.val (.int p0), .val (.ref b1), .unset, .unset] [(.int (2147483647 : Int32)), (.int p0)])) _
    refine XS.iand X15.here hx rfl (hb hby at_52) rfl ?_
    show Steps p.tables e below (T15.setTop (mkF m 53 #[.val (.int p0), .val (.ref b1), .unset, .unset] [(.int (p0 &&& (2147483647 : Int32)))])) _
    refine XS.bipush X15.here hx rfl (hb hby at_53) ?_
    show Steps p.tables e below (T15.setTop (mkF m 55 #[.val (.int p0), .val (.ref b1), .unset, .unset] [(.int (7 : Int32)), (.int (p0 &&& (2147483647 : Int32)))])) _
    refine iremM X15 hx rfl (hb hby at_55) rfl (by decide) ?_
    show Steps p.tables e below (T15.setTop (mkF m 56 #[.val (.int p0), .val (.ref b1), .unset, .unset] [(.int ((p0 &&& (2147483647 : Int32)) % (7 : Int32)))])) _
    rw [hi1]
    show Steps p.tables e below (T15.setTop (mkF m 56 #[.val (.int p0), .val (.ref b1), .unset, .unset] [(.int (1 : Int32))])) _
    refine XS.istoreN X15.here hx rfl (hb hby at_56) rfl (l' := #[.val (.int p0), .val (.ref b1), .val (.int (1 : Int32)), .unset]) rfl ?_
    show Steps p.tables e below (T15.setTop (mkF m 57 #[.val (.int p0), .val (.ref b1), .val (.int (1 : Int32)), .unset] [])) _
    refine XS.iloadN X15.here hx rfl (hb hby at_57) rfl ?_
    show Steps p.tables e below (T15.setTop (mkF m 58 #[.val (.int p0), .val (.ref b1), .val (.int (1 : Int32)), .unset] [(.int (1 : Int32))])) _
    refine XS.iconst X15.here hx rfl (hb hby at_58) ?_
    show Steps p.tables e below (T15.setTop (mkF m 59 #[.val (.int p0), .val (.ref b1), .val (.int (1 : Int32)), .unset] [(.int (1 : Int32)), (.int (1 : Int32))])) _
    refine XS.icmpYes X15.here hx rfl (pc0 := 59) (pc' := 67) rfl (hb hby at_59) rfl (teq (by decide : (1 : Int32) = (1 : Int32))).1 (by decide) (by decide) ?_
    show Steps p.tables e below (T15.setTop (mkF m 67 #[.val (.int p0), .val (.ref b1), .val (.int (1 : Int32)), .unset] [])) _
    refine XS.iconst X15.here hx rfl (hb hby at_67) ?_
    show Steps p.tables e below (T15.setTop (mkF m 68 #[.val (.int p0), .val (.ref b1), .val (.int (1 : Int32)), .unset] [(.int (1 : Int32))])) _
    refine XS.goto X15.here hx rfl (pc0 := 68) (pc' := 72) rfl (hb hby at_68) (by decide) (by decide) ?_
    show Steps p.tables e below (T15.setTop (mkF m 72 #[.val (.int p0), .val (.ref b1), .val (.int (1 : Int32)), .unset] [(.int (1 : Int32))])) _
    refine XS.istoreN X15.here hx rfl (hb hby at_72) rfl (l' := #[.val (.int p0), .val (.ref b1), .val (.int (1 : Int32)), .val (.int (1 : Int32))]) rfl ?_
    show Steps p.tables e below (T15.setTop (mkF m 73 #[.val (.int p0), .val (.ref b1), .val (.int (1 : Int32)), .val (.int (1 : Int32))] [])) _
    refine XS.aloadN X15.here hx rfl (hb hby at_73) rfl rfl ?_
    show Steps p.tables e below (T15.setTop (mkF m 74 #[.val (.int p0), .val (.ref b1), .val (.int (1 : Int32)), .val (.int (1 : Int32))] [(.ref b1)])) _
    refine XS.iloadN X15.here hx rfl (hb hby at_74) rfl ?_
    show Steps p.tables e below (T15.setTop (mkF m 75 #[.val (.int p0), .val (.ref b1), .val (.int (1 : Int32)), .val (.int (1 : Int32))] [(.int (1 : Int32)), (.ref b1)])) _
    refine X15.aaload hx (j := (1 : Int32)) (v := (.ref w_TRANSIENT)) (by rw [e15]; exact Ar16.1) (State.isArrayOf_alike hZ.alike Ar16.2.1) rfl Ar16.2.2 hin16 hat16 (g := (mkF m 75 #[.val (.int p0), .val (.ref b1), .val (.int (1 : Int32)), .val (.int (1 : Int32))] [(.int (1 : Int32)), (.ref b1)])) rfl rfl (hb hby at_75) _ ?_
    show Steps p.tables e below (T15.setTop (mkF m 76 #[.val (.int p0), .val (.ref b1), .val (.int (1 : Int32)), .val (.int (1 : Int32))] [(.ref w_TRANSIENT)])) _
    refine st17.trans ?_
    show Steps p.tables e below (T17.setTop (mkF m 79 #[.val (.int p0), .val (.ref b1), .val (.int (1 : Int32)), .val (.int (1 : Int32))] [(.int (1 : Int32))])) _
    refine XS.iloadN X17.here hx rfl (hb hby at_79) rfl ?_
    show Steps p.tables e below (T17.setTop (mkF m 80 #[.val (.int p0), .val (.ref b1), .val (.int (1 : Int32)), .val (.int (1 : Int32))] [(.int (1 : Int32)), (.int (1 : Int32))])) _
    refine XS.icmpNo X17.here hx rfl (hb hby at_80) rfl (teq (by decide : (1 : Int32) = (1 : Int32))).2 ?_
    show Steps p.tables e below (T17.setTop (mkF m 83 #[.val (.int p0), .val (.ref b1), .val (.int (1 : Int32)), .val (.int (1 : Int32))] [])) _
    refine XS.iconst X17.here hx rfl (hb hby at_83) ?_
    show Steps p.tables e below (T17.setTop (mkF m 84 #[.val (.int p0), .val (.ref b1), .val (.int (1 : Int32)), .val (.int (1 : Int32))] [(.int (1 : Int32))])) _
    refine XS.goto X17.here hx rfl (pc0 := 84) (pc' := 88) rfl (hb hby at_84) (by decide) (by decide) ?_
    show Steps p.tables e below (T17.setTop (mkF m 88 #[.val (.int p0), .val (.ref b1), .val (.int (1 : Int32)), .val (.int (1 : Int32))] [(.int (1 : Int32))])) _
    exact retOut X17 hx Bd.returns rfl (Or.inl ⟨rfl, Or.inr (Or.inl rfl), _, rfl⟩) (hb hby at_88) hr
  · exact ⟨rfl, N17⟩
set_option maxRecDepth 65536 in
set_option maxHeartbeats 40000000 in
theorem c1_2 (l : Launch) (Z : State) (a0 : Array Value) (hw : ∀ d ∈ tables_1, d.before a0 Z = true) (ws : List Jvm.Cond) (w_REFUSAL : Addr) (w_TRANSIENT : Addr) (w_TIMEOUT : Addr) (w_INVALID_CALL : Addr) (w_INVALID_ANSWER : Addr) (w_CONTEXT_TOO_LARGE : Addr) (w_JUMP_LIMIT : Addr) (h0 : Heap) (n0 : Nat) (Z0 : n0 ≤ h0.size) (G : Glob Z h0 w_REFUSAL w_TRANSIENT w_TIMEOUT w_INVALID_CALL w_INVALID_ANSWER w_CONTEXT_TOO_LARGE w_JUMP_LIMIT)  :
    MetFree l (⟨"com/example/lungfish/lungfish/engine/FailureKind", "isRetryable", "()Z"⟩ : MethodName) (head1 (Jvm.Cond.code (⟨"com/example/lungfish/lungfish/engine/FailureKind", "isRetryable", "()Z"⟩ : MethodName) prog_10_method_5_code 1 (some .boolean) :: ws) ({ frames := 0, cells := 0, slots := 0, locals := 0 } : Room)) (fun a U => a = #[(.ref w_TIMEOUT)] ∧ Z.Warmed39 U.vm ∧ U.heap = h0) (fun _ _ _ _ _ => True) (fun _ U o U' => ∃ v L, o = .returned v ∧ QR (some (.int (1 : Int32))) h0 n0 v U'.heap L ∧ FrameEnd U o U' L ({ frames := 0, cells := 0, slots := 0, locals := 0 } : Room).cells ({ frames := 0, cells := 0, slots := 0, locals := 0 } : Room).slots) := by
  refine MetFree.of_bodySF (plainFor_of_name pn_com_example_lungfish_lungfish_engine_FailureKind) hisR ?_
  intro p e s m args below meth c s₁ Bd hml0 hP hK
  obtain ⟨rfl, hZ, hh⟩ := hP
  have hx := Bd.exec
  have hby := Bd.bytes
  have hml : c.maxLocals = 1 := hml0
  have hown : s.vm.findClass "com/example/lungfish/lungfish/engine/FailureKind" = some m.cls := findClass_of_methodNamed Bd.named
  have X0 : Stand p l e ({ frames := 0, cells := 0, slots := 0, locals := 0 } : Room) s m #[(.ref w_TIMEOUT)] below meth c s₁ [] 0 0 := Stand.of_body Bd
  have e0 : s₁.heap = h0 := by rw [← hh, Bd.state]; rfl
  have N0 := Fr.nil n0
  have pre0 : ∀ t, Steps p.tables e below (s₁.setTop (mkF m 0 #[.val (.ref w_TIMEOUT)] [])) t → Steps p.tables e below (s₁.setTop (entryFrame m #[(.ref w_TIMEOUT)] 1)) t := fun t k => castTop (ef_1_R m w_TIMEOUT) k
  have G' := G
  obtain ⟨S_w_REFUSAL, E_w_REFUSAL, S_w_TRANSIENT, E_w_TRANSIENT, S_w_TIMEOUT, E_w_TIMEOUT, S_w_INVALID_CALL, E_w_INVALID_CALL, S_w_INVALID_ANSWER, E_w_INVALID_ANSWER, S_w_CONTEXT_TOO_LARGE, E_w_CONTEXT_TOO_LARGE, S_w_JUMP_LIMIT, E_w_JUMP_LIMIT, F_ordinal_w_REFUSAL, F_ordinal_w_TRANSIENT, F_ordinal_w_TIMEOUT, F_ordinal_w_INVALID_CALL, F_ordinal_w_CONTEXT_TOO_LARGE, F_ordinal_w_JUMP_LIMIT, F_ordinal_w_INVALID_ANSWER⟩ := G'
  obtain ⟨T1, X1, e1, st1⟩ := getS2 X0 hx hZ hown (host := "") (Or.inl (hw _ (List.mem_of_getElem? (i := 24) rfl))) Via.refl e0 S_w_TRANSIENT (g := (mkF m 1 #[.val (.ref w_TIMEOUT)] [(.ref w_TIMEOUT)])) rfl (hb hby d1_1)
  obtain ⟨T2, X2, e2, st2⟩ := getS2 X1 hx hZ hown (host := "") (Or.inl (hw _ (List.mem_of_getElem? (i := 25) rfl))) Via.refl e1 S_w_TIMEOUT (g := (mkF m 8 #[.val (.ref w_TIMEOUT)] [(.ref w_TIMEOUT)])) rfl (hb hby d1_8)
  obtain ⟨fs, hr, hrun, hended, hW, hsame⟩ := X2.leave (v := some (.int (1 : Int32))) (fun h => by rw [Bd.returns] at h; cases h)
  refine ⟨_, _, pre0 _ ?_, hrun, hended, _, _, rfl, ?_, ⟨_, rfl⟩, hW, hsame.mono (by decide) (by decide)⟩
  · show Steps p.tables e below (s₁.setTop (mkF m 0 #[.val (.ref w_TIMEOUT)] [])) _
    refine XS.aloadN X0.here hx rfl (hb hby d1_0) rfl rfl ?_
    show Steps p.tables e below (s₁.setTop (mkF m 1 #[.val (.ref w_TIMEOUT)] [(.ref w_TIMEOUT)])) _
    refine st1 _ ?_
    show Steps p.tables e below (T1.setTop (mkF m 4 #[.val (.ref w_TIMEOUT)] [(.ref w_TRANSIENT), (.ref w_TIMEOUT)])) _
    refine Jvm.RoadKit.acmp (g := (mkF m 4 #[.val (.ref w_TIMEOUT)] [(.ref w_TRANSIENT), (.ref w_TIMEOUT)])) X1 hx rfl rfl rfl (pc0 := 4) (pc' := 7) (same := false) rfl (hb hby d1_4) rfl (decide_eq_false fun q => (Fld.ne F_ordinal_w_TIMEOUT F_ordinal_w_TRANSIENT (by decide)) (Value.ref.inj q)) (by decide) (by decide) ?_
    show Steps p.tables e below (T1.setTop (mkF m 7 #[.val (.ref w_TIMEOUT)] [])) _
    refine XS.aloadN X1.here hx rfl (hb hby d1_7) rfl rfl ?_
    show Steps p.tables e below (T1.setTop (mkF m 8 #[.val (.ref w_TIMEOUT)] [(.ref w_TIMEOUT)])) _
    refine st2 _ ?_
    show Steps p.tables e below (T2.setTop (mkF m 11 #[.val (.ref w_TIMEOUT)] [(.ref w_TIMEOUT), (.ref w_TIMEOUT)])) _
    refine Jvm.RoadKit.acmp (g := (mkF m 11 #[.val (.ref w_TIMEOUT)] [(.ref w_TIMEOUT), (.ref w_TIMEOUT)])) X2 hx rfl rfl rfl (pc0 := 11) (pc' := 14) (same := true) rfl (hb hby d1_11) rfl (decide_eq_true rfl) (by decide) (by decide) ?_
    show Steps p.tables e below (T2.setTop (mkF m 14 #[.val (.ref w_TIMEOUT)] [])) _
    refine XS.iconst X2.here hx rfl (hb hby d1_14) ?_
    show Steps p.tables e below (T2.setTop (mkF m 15 #[.val (.ref w_TIMEOUT)] [(.int (1 : Int32))])) _
    refine XS.goto X2.here hx rfl (pc0 := 15) (pc' := 19) rfl (hb hby d1_15) (by decide) (by decide) ?_
    show Steps p.tables e below (T2.setTop (mkF m 19 #[.val (.ref w_TIMEOUT)] [(.int (1 : Int32))])) _
    exact retOut X2 hx Bd.returns rfl (Or.inl ⟨rfl, Or.inr (Or.inl rfl), _, rfl⟩) (hb hby d1_19) hr
  · show QR _ h0 n0 _ T2.heap _
    rw [e2]
    exact ⟨rfl, N0, rfl⟩
set_option maxRecDepth 65536 in
set_option maxHeartbeats 40000000 in
theorem law_2 (l : Launch) (Z : State) (a0 : Array Value) (hw : ∀ d ∈ tables_1, d.before a0 Z = true) (ws : List Jvm.Cond) (w_REFUSAL : Addr) (w_TRANSIENT : Addr) (w_TIMEOUT : Addr) (w_INVALID_CALL : Addr) (w_INVALID_ANSWER : Addr) (w_CONTEXT_TOO_LARGE : Addr) (w_JUMP_LIMIT : Addr) (h0 : Heap) (n0 : Nat) (Z0 : n0 ≤ h0.size) (G : Glob Z h0 w_REFUSAL w_TRANSIENT w_TIMEOUT w_INVALID_CALL w_INVALID_ANSWER w_CONTEXT_TOO_LARGE w_JUMP_LIMIT) (p0 : Int32) (hi2 : ((p0 &&& (2147483647 : Int32)) % (7 : Int32)) = (2 : Int32)) :
    MetFree l x (head1 (Jvm.Cond.code x code maxLocals ret :: ws) room_1) (fun a U => a = #[(.int p0)] ∧ Z.Warmed39 U.vm ∧ U.heap = h0) (fun _ _ _ _ _ => True) (fun _ U o U' => ∃ v L, o = .returned v ∧ QL (some (.int (1 : Int32))) h0 n0 v U'.heap L ∧ FrameEnd U o U' L room_1.cells room_1.slots) := by
  refine MetFree.of_bodySF (plainFor_of_name pn_com_example_lungfish_lungfish_engine_FailureKindIsRetryablePinLaw) hisR ?_
  intro p e s m args below meth c s₁ Bd hml0 hP hK
  obtain ⟨rfl, hZ, hh⟩ := hP
  have hx := Bd.exec
  have hby := Bd.bytes
  have hml : c.maxLocals = 4 := hml0
  have hown : s.vm.findClass "com/example/lungfish/lungfish/engine/FailureKindIsRetryablePinLaw" = some m.cls := findClass_of_methodNamed Bd.named
  have X0 : Stand p l e room_1 s m #[(.int p0)] below meth c s₁ [] 0 0 := Stand.of_body Bd
  have e0 : s₁.heap = h0 := by rw [← hh, Bd.state]; rfl
  have N0 := Fr.nil n0
  have pre0 : ∀ t, Steps p.tables e below (s₁.setTop (mkF m 0 #[.val (.int p0), .unset, .unset, .unset] [])) t → Steps p.tables e below (s₁.setTop (entryFrame m #[(.int p0)] maxLocals)) t := fun t k => castTop (ef_0_I m p0) k
  have G' := G
  obtain ⟨S_w_REFUSAL, E_w_REFUSAL, S_w_TRANSIENT, E_w_TRANSIENT, S_w_TIMEOUT, E_w_TIMEOUT, S_w_INVALID_CALL, E_w_INVALID_CALL, S_w_INVALID_ANSWER, E_w_INVALID_ANSWER, S_w_CONTEXT_TOO_LARGE, E_w_CONTEXT_TOO_LARGE, S_w_JUMP_LIMIT, E_w_JUMP_LIMIT, F_ordinal_w_REFUSAL, F_ordinal_w_TRANSIENT, F_ordinal_w_TIMEOUT, F_ordinal_w_INVALID_CALL, F_ordinal_w_CONTEXT_TOO_LARGE, F_ordinal_w_JUMP_LIMIT, F_ordinal_w_INVALID_ANSWER⟩ := G'
  obtain ⟨T1, h1, k1, X1, e1, E1, A1, O1, st1⟩ := newR X0 hx hZ hown (hw _ (List.mem_of_getElem? (i := 0) rfl)) (hw _ (List.mem_of_getElem? (i := 1) rfl)) e0 (g := (mkF m 2 #[.val (.int p0), .unset, .unset, .unset] [(.int (7 : Int32))])) rfl (hb hby at_2) rfl (by decide) (cap := 7) (by decide) (by decide) (by decide) (by decide)
  obtain ⟨b1, g1⟩ : ∃ z, z = h0.size := ⟨_, rfl⟩
  rw [← g1] at A1 st1
  have V1 : Arv Z h1 b1 k1 (.object "com/example/lungfish/lungfish/engine/FailureKind") (7 : Int32) [.null, .null, .null, .null, .null, .null, .null] .null := (Arv.new A1 (by decide)).pad (pad_rep [] .null 7)
  have K1 : Keep h0 h1 [] := (Keep.refl h0 []).ext E1
  have sz_b1 : h0.size ≤ b1 := Nat.le_of_eq g1.symm
  have g_b1 : n0 ≤ b1 := Nat.le_trans Z0 sz_b1
  obtain ⟨T2, X2, e2, st2⟩ := getS2 X1 hx hZ hown (host := "") (Or.inl (hw _ (List.mem_of_getElem? (i := 2) rfl))) Via.refl e1 (own_sta_keep S_w_REFUSAL K1) (g := (mkF m 7 #[.val (.int p0), .unset, .unset, .unset] [(.int (0 : Int32)), (.ref b1), (.ref b1)])) rfl (hb hby at_7)
  obtain ⟨cl3, Ar3, q3, s3, m3, H3, F3⟩ := V1
  have hin3 : ¬ ((0 : Int32) < 0 ∨ cl3.slots.size ≤ ((0 : Int32)).toNatClampNeg) := inb_of s3 ⟨by decide, by decide⟩
  have sto3 : Sto Z h1 b1 (.ref w_REFUSAL) := Sto.ofV Ar3 q3 O1 (Ins.of_exa (E_w_REFUSAL.keep K1) (hw _ (List.mem_of_getElem? (i := 5) rfl)))
  obtain ⟨T3, h3, X3, e3, W3, st3⟩ := stR X2 hx hZ e2 Ar3 (j := (0 : Int32)) hin3 rfl sto3 (g := (mkF m 10 #[.val (.int p0), .unset, .unset, .unset] [(.ref w_REFUSAL), (.int (0 : Int32)), (.ref b1), (.ref b1)])) rfl rfl (hb hby at_10)
  have V3 : Arv Z h3 b1 k1 (.object "com/example/lungfish/lungfish/engine/FailureKind") (7 : Int32) [(.ref w_REFUSAL), .null, .null, .null, .null, .null, .null] .null := Arv.set Ar3 q3 s3 m3 H3 F3 rfl W3 0 rfl (Nat.le_of_ble_eq_true rfl)
  have K3 : Keep h0 h3 [] := K1.wr W3 (Or.inr sz_b1)
  have N3 := Fr.snoc X3 N0 g_b1
  obtain ⟨T4, X4, e4, st4⟩ := getS2 X3 hx hZ hown (host := "") (Or.inl (hw _ (List.mem_of_getElem? (i := 6) rfl))) Via.refl e3 (own_sta_keep S_w_TRANSIENT K3) (g := (mkF m 13 #[.val (.int p0), .unset, .unset, .unset] [(.int (1 : Int32)), (.ref b1), (.ref b1)])) rfl (hb hby at_13)
  obtain ⟨cl5, Ar5, q5, s5, m5, H5, F5⟩ := V3
  have hin5 : ¬ ((1 : Int32) < 0 ∨ cl5.slots.size ≤ ((1 : Int32)).toNatClampNeg) := inb_of s5 ⟨by decide, by decide⟩
  have sto5 : Sto Z h3 b1 (.ref w_TRANSIENT) := Sto.ofV Ar5 q5 O1 (Ins.of_exa (E_w_TRANSIENT.keep K3) (hw _ (List.mem_of_getElem? (i := 5) rfl)))
  obtain ⟨T5, h5, X5, e5, W5, st5⟩ := stR X4 hx hZ e4 Ar5 (j := (1 : Int32)) hin5 rfl sto5 (g := (mkF m 16 #[.val (.int p0), .unset, .unset, .unset] [(.ref w_TRANSIENT), (.int (1 : Int32)), (.ref b1), (.ref b1)])) rfl rfl (hb hby at_16)
  have V5 : Arv Z h5 b1 k1 (.object "com/example/lungfish/lungfish/engine/FailureKind") (7 : Int32) [(.ref w_REFUSAL), (.ref w_TRANSIENT), .null, .null, .null, .null, .null] .null := Arv.set Ar5 q5 s5 m5 H5 F5 rfl W5 1 rfl (Nat.le_of_ble_eq_true rfl)
  have K5 : Keep h0 h5 [] := K3.wr W5 (Or.inr sz_b1)
  have N5 := Fr.snoc X5 N3 g_b1
  obtain ⟨T6, X6, e6, st6⟩ := getS2 X5 hx hZ hown (host := "") (Or.inl (hw _ (List.mem_of_getElem? (i := 8) rfl))) Via.refl e5 (own_sta_keep S_w_TIMEOUT K5) (g := (mkF m 19 #[.val (.int p0), .unset, .unset, .unset] [(.int (2 : Int32)), (.ref b1), (.ref b1)])) rfl (hb hby at_19)
  obtain ⟨cl7, Ar7, q7, s7, m7, H7, F7⟩ := V5
  have hin7 : ¬ ((2 : Int32) < 0 ∨ cl7.slots.size ≤ ((2 : Int32)).toNatClampNeg) := inb_of s7 ⟨by decide, by decide⟩
  have sto7 : Sto Z h5 b1 (.ref w_TIMEOUT) := Sto.ofV Ar7 q7 O1 (Ins.of_exa (E_w_TIMEOUT.keep K5) (hw _ (List.mem_of_getElem? (i := 5) rfl)))
  obtain ⟨T7, h7, X7, e7, W7, st7⟩ := stR X6 hx hZ e6 Ar7 (j := (2 : Int32)) hin7 rfl sto7 (g := (mkF m 22 #[.val (.int p0), .unset, .unset, .unset] [(.ref w_TIMEOUT), (.int (2 : Int32)), (.ref b1), (.ref b1)])) rfl rfl (hb hby at_22)
  have V7 : Arv Z h7 b1 k1 (.object "com/example/lungfish/lungfish/engine/FailureKind") (7 : Int32) [(.ref w_REFUSAL), (.ref w_TRANSIENT), (.ref w_TIMEOUT), .null, .null, .null, .null] .null := Arv.set Ar7 q7 s7 m7 H7 F7 rfl W7 2 rfl (Nat.le_of_ble_eq_true rfl)
  have K7 : Keep h0 h7 [] := K5.wr W7 (Or.inr sz_b1)
  have N7 := Fr.snoc X7 N5 g_b1
  obtain ⟨T8, X8, e8, st8⟩ := getS2 X7 hx hZ hown (host := "") (Or.inl (hw _ (List.mem_of_getElem? (i := 10) rfl))) Via.refl e7 (own_sta_keep S_w_INVALID_CALL K7) (g := (mkF m 25 #[.val (.int p0), .unset, .unset, .unset] [(.int (3 : Int32)), (.ref b1), (.ref b1)])) rfl (hb hby at_25)
  obtain ⟨cl9, Ar9, q9, s9, m9, H9, F9⟩ := V7
  have hin9 : ¬ ((3 : Int32) < 0 ∨ cl9.slots.size ≤ ((3 : Int32)).toNatClampNeg) := inb_of s9 ⟨by decide, by decide⟩
  have sto9 : Sto Z h7 b1 (.ref w_INVALID_CALL) := Sto.ofV Ar9 q9 O1 (Ins.of_exa (E_w_INVALID_CALL.keep K7) (hw _ (List.mem_of_getElem? (i := 5) rfl)))
  obtain ⟨T9, h9, X9, e9, W9, st9⟩ := stR X8 hx hZ e8 Ar9 (j := (3 : Int32)) hin9 rfl sto9 (g := (mkF m 28 #[.val (.int p0), .unset, .unset, .unset] [(.ref w_INVALID_CALL), (.int (3 : Int32)), (.ref b1), (.ref b1)])) rfl rfl (hb hby at_28)
  have V9 : Arv Z h9 b1 k1 (.object "com/example/lungfish/lungfish/engine/FailureKind") (7 : Int32) [(.ref w_REFUSAL), (.ref w_TRANSIENT), (.ref w_TIMEOUT), (.ref w_INVALID_CALL), .null, .null, .null] .null := Arv.set Ar9 q9 s9 m9 H9 F9 rfl W9 3 rfl (Nat.le_of_ble_eq_true rfl)
  have K9 : Keep h0 h9 [] := K7.wr W9 (Or.inr sz_b1)
  have N9 := Fr.snoc X9 N7 g_b1
  obtain ⟨T10, X10, e10, st10⟩ := getS2 X9 hx hZ hown (host := "") (Or.inl (hw _ (List.mem_of_getElem? (i := 12) rfl))) Via.refl e9 (own_sta_keep S_w_INVALID_ANSWER K9) (g := (mkF m 31 #[.val (.int p0), .unset, .unset, .unset] [(.int (4 : Int32)), (.ref b1), (.ref b1)])) rfl (hb hby at_31)
  obtain ⟨cl11, Ar11, q11, s11, m11, H11, F11⟩ := V9
  have hin11 : ¬ ((4 : Int32) < 0 ∨ cl11.slots.size ≤ ((4 : Int32)).toNatClampNeg) := inb_of s11 ⟨by decide, by decide⟩
  have sto11 : Sto Z h9 b1 (.ref w_INVALID_ANSWER) := Sto.ofV Ar11 q11 O1 (Ins.of_exa (E_w_INVALID_ANSWER.keep K9) (hw _ (List.mem_of_getElem? (i := 5) rfl)))
  obtain ⟨T11, h11, X11, e11, W11, st11⟩ := stR X10 hx hZ e10 Ar11 (j := (4 : Int32)) hin11 rfl sto11 (g := (mkF m 34 #[.val (.int p0), .unset, .unset, .unset] [(.ref w_INVALID_ANSWER), (.int (4 : Int32)), (.ref b1), (.ref b1)])) rfl rfl (hb hby at_34)
  have V11 : Arv Z h11 b1 k1 (.object "com/example/lungfish/lungfish/engine/FailureKind") (7 : Int32) [(.ref w_REFUSAL), (.ref w_TRANSIENT), (.ref w_TIMEOUT), (.ref w_INVALID_CALL), (.ref w_INVALID_ANSWER), .null, .null] .null := Arv.set Ar11 q11 s11 m11 H11 F11 rfl W11 4 rfl (Nat.le_of_ble_eq_true rfl)
  have K11 : Keep h0 h11 [] := K9.wr W11 (Or.inr sz_b1)
  have N11 := Fr.snoc X11 N9 g_b1
  obtain ⟨T12, X12, e12, st12⟩ := getS2 X11 hx hZ hown (host := "") (Or.inl (hw _ (List.mem_of_getElem? (i := 14) rfl))) Via.refl e11 (own_sta_keep S_w_CONTEXT_TOO_LARGE K11) (g := (mkF m 37 #[.val (.int p0), .unset, .unset, .unset] [(.int (5 : Int32)), (.ref b1), (.ref b1)])) rfl (hb hby at_37)
  obtain ⟨cl13, Ar13, q13, s13, m13, H13, F13⟩ := V11
  have hin13 : ¬ ((5 : Int32) < 0 ∨ cl13.slots.size ≤ ((5 : Int32)).toNatClampNeg) := inb_of s13 ⟨by decide, by decide⟩
  have sto13 : Sto Z h11 b1 (.ref w_CONTEXT_TOO_LARGE) := Sto.ofV Ar13 q13 O1 (Ins.of_exa (E_w_CONTEXT_TOO_LARGE.keep K11) (hw _ (List.mem_of_getElem? (i := 5) rfl)))
  obtain ⟨T13, h13, X13, e13, W13, st13⟩ := stR X12 hx hZ e12 Ar13 (j := (5 : Int32)) hin13 rfl sto13 (g := (mkF m 40 #[.val (.int p0), .unset, .unset, .unset] [(.ref w_CONTEXT_TOO_LARGE), (.int (5 : Int32)), (.ref b1), (.ref b1)])) rfl rfl (hb hby at_40)
  have V13 : Arv Z h13 b1 k1 (.object "com/example/lungfish/lungfish/engine/FailureKind") (7 : Int32) [(.ref w_REFUSAL), (.ref w_TRANSIENT), (.ref w_TIMEOUT), (.ref w_INVALID_CALL), (.ref w_INVALID_ANSWER), (.ref w_CONTEXT_TOO_LARGE), .null] .null := Arv.set Ar13 q13 s13 m13 H13 F13 rfl W13 5 rfl (Nat.le_of_ble_eq_true rfl)
  have K13 : Keep h0 h13 [] := K11.wr W13 (Or.inr sz_b1)
  have N13 := Fr.snoc X13 N11 g_b1
  obtain ⟨T14, X14, e14, st14⟩ := getS2 X13 hx hZ hown (host := "") (Or.inl (hw _ (List.mem_of_getElem? (i := 16) rfl))) Via.refl e13 (own_sta_keep S_w_JUMP_LIMIT K13) (g := (mkF m 44 #[.val (.int p0), .unset, .unset, .unset] [(.int (6 : Int32)), (.ref b1), (.ref b1)])) rfl (hb hby at_44)
  obtain ⟨cl15, Ar15, q15, s15, m15, H15, F15⟩ := V13
  have hin15 : ¬ ((6 : Int32) < 0 ∨ cl15.slots.size ≤ ((6 : Int32)).toNatClampNeg) := inb_of s15 ⟨by decide, by decide⟩
  have sto15 : Sto Z h13 b1 (.ref w_JUMP_LIMIT) := Sto.ofV Ar15 q15 O1 (Ins.of_exa (E_w_JUMP_LIMIT.keep K13) (hw _ (List.mem_of_getElem? (i := 5) rfl)))
  obtain ⟨T15, h15, X15, e15, W15, st15⟩ := stR X14 hx hZ e14 Ar15 (j := (6 : Int32)) hin15 rfl sto15 (g := (mkF m 47 #[.val (.int p0), .unset, .unset, .unset] [(.ref w_JUMP_LIMIT), (.int (6 : Int32)), (.ref b1), (.ref b1)])) rfl rfl (hb hby at_47)
  have V15 : Arv Z h15 b1 k1 (.object "com/example/lungfish/lungfish/engine/FailureKind") (7 : Int32) [(.ref w_REFUSAL), (.ref w_TRANSIENT), (.ref w_TIMEOUT), (.ref w_INVALID_CALL), (.ref w_INVALID_ANSWER), (.ref w_CONTEXT_TOO_LARGE), (.ref w_JUMP_LIMIT)] .null := Arv.set Ar15 q15 s15 m15 H15 F15 rfl W15 6 rfl (Nat.le_of_ble_eq_true rfl)
  have K15 : Keep h0 h15 [] := K13.wr W15 (Or.inr sz_b1)
  have N15 := Fr.snoc X15 N13 g_b1
  obtain ⟨cl16, Ar16, q16, s16, m16, H16, F16⟩ := V15
  have hin16 : ¬ ((2 : Int32) < 0 ∨ cl16.slots.size ≤ ((2 : Int32)).toNatClampNeg) := inb_of s16 ⟨by decide, by decide⟩
  have hat16 : cl16.slots[((2 : Int32)).toNatClampNeg]? = some (.ref w_TIMEOUT) := H16.at hin16 rfl
  obtain ⟨cq17, kq17, q17a, q17b, q17c⟩ := isOf hZ e15 (E_w_TIMEOUT.keep K15)
  obtain ⟨_, _, ⟨T17, L17, k17, n17⟩, -, X17, ⟨Lc17, hQ17, l17, y17, z17⟩, st17⟩ := X15.virtualBack hx (y := (⟨"com/example/lungfish/lungfish/engine/FailureKind", "isRetryable", "()Z"⟩ : MethodName)) (z := (⟨"com/example/lungfish/lungfish/engine/FailureKind", "isRetryable", "()Z"⟩ : MethodName)) hown (mvT hZ (hw _ (List.mem_of_getElem? (i := 19) rfl))) (mvT hZ (hw _ (List.mem_of_getElem? (i := 20) rfl))) (notFace_of_selects (args := #[]) (mvT hZ (hw _ (List.mem_of_getElem? (i := 22) rfl)))) (mvT hZ (hw _ (List.mem_of_getElem? (i := 22) rfl))) (mvT hZ (hw _ (List.mem_of_getElem? (i := 21) rfl))) (by decide) (backOf (W := 0) (c1_2 l Z a0 hw [] w_REFUSAL w_TRANSIENT w_TIMEOUT w_INVALID_CALL w_INVALID_ANSWER w_CONTEXT_TOO_LARGE w_JUMP_LIMIT h15 n0 (Nat.le_trans Z0 K15.1) (G.keep K15)) hZ (hw _ (List.mem_of_getElem? (i := 23) rfl)) (hw _ (List.mem_of_getElem? (i := 3) rfl)) (by decide) (by decide)) q17a q17c (g := (mkF m 76 #[.val (.int p0), .val (.ref b1), .val (.int (2 : Int32)), .val (.int (1 : Int32))] [(.ref w_TIMEOUT)])) rfl (by rw [hml]; rfl) (Steps.refl _) (argsL := []) (rest := []) (lenOf pd___Z rfl) rfl (by show 2 * 0 + _ ≤ _; exact Nat.le_of_eq rfl) (hb hby at_76) (fun _ _ => ⟨rfl, e15, (by decide : 1 + 0 ≤ _), (by decide : 7 + 0 ≤ _)⟩)
  dsimp only [Pt.U, Pt.locs, Pt.cells, Pt.slots] at X17 l17 y17 z17 st17 hQ17
  subst l17 y17 z17
  obtain ⟨rfl, N17q, e17⟩ := hQ17
  have N17 := Fr.app N15 N17q
  obtain ⟨fs, hr, hrun, hended, hW, hsame⟩ := X17.leave (v := some (.int (1 : Int32))) (fun h => by rw [Bd.returns] at h; cases h)
  refine ⟨_, _, pre0 _ ?_, hrun, hended, _, _, rfl, ?_, ⟨_, rfl⟩, hW, hsame.mono (by decide) (by decide)⟩
  · show Steps p.tables e below (s₁.setTop (mkF m 0 #[.val (.int p0), .unset, .unset, .unset] [])) _
    refine XS.bipush X0.here hx rfl (hb hby at_0) ?_
    show Steps p.tables e below (s₁.setTop (mkF m 2 #[.val (.int p0), .unset, .unset, .unset] [(.int (7 : Int32))])) _
    refine st1 _ ?_
    show Steps p.tables e below (T1.setTop (mkF m 5 #[.val (.int p0), .unset, .unset, .unset] [(.ref b1)])) _
    refine XS.dup X1.here hx rfl (hb hby at_5) rfl rfl ?_
    show Steps p.tables e below (T1.setTop (mkF m 6 #[.val (.int p0), .unset, .unset, .unset] [(.ref b1), (.ref b1)])) _
    refine XS.iconst X1.here hx rfl (hb hby at_6) ?_
    show Steps p.tables e below (T1.setTop (mkF m 7 #[.val (.int p0), .unset, .unset, .unset] [(.int (0 : Int32)), (.ref b1), (.ref b1)])) _
    refine st2 _ ?_
    show Steps p.tables e below (T2.setTop (mkF m 10 #[.val (.int p0), .unset, .unset, .unset] [(.ref w_REFUSAL), (.int (0 : Int32)), (.ref b1), (.ref b1)])) _
    refine st3 _ ?_
    show Steps p.tables e below (T3.setTop (mkF m 11 #[.val (.int p0), .unset, .unset, .unset] [(.ref b1)])) _
    refine XS.dup X3.here hx rfl (hb hby at_11) rfl rfl ?_
    show Steps p.tables e below (T3.setTop (mkF m 12 #[.val (.int p0), .unset, .unset, .unset] [(.ref b1), (.ref b1)])) _
    refine XS.iconst X3.here hx rfl (hb hby at_12) ?_
    show Steps p.tables e below (T3.setTop (mkF m 13 #[.val (.int p0), .unset, .unset, .unset] [(.int (1 : Int32)), (.ref b1), (.ref b1)])) _
    refine st4 _ ?_
    show Steps p.tables e below (T4.setTop (mkF m 16 #[.val (.int p0), .unset, .unset, .unset] [(.ref w_TRANSIENT), (.int (1 : Int32)), (.ref b1), (.ref b1)])) _
    refine st5 _ ?_
    show Steps p.tables e below (T5.setTop (mkF m 17 #[.val (.int p0), .unset, .unset, .unset] [(.ref b1)])) _
    refine XS.dup X5.here hx rfl (hb hby at_17) rfl rfl ?_
    show Steps p.tables e below (T5.setTop (mkF m 18 #[.val (.int p0), .unset, .unset, .unset] [(.ref b1), (.ref b1)])) _
    refine XS.iconst X5.here hx rfl (hb hby at_18) ?_
    show Steps p.tables e below (T5.setTop (mkF m 19 #[.val (.int p0), .unset, .unset, .unset] [(.int (2 : Int32)), (.ref b1), (.ref b1)])) _
    refine st6 _ ?_
    show Steps p.tables e below (T6.setTop (mkF m 22 #[.val (.int p0), .unset, .unset, .unset] [(.ref w_TIMEOUT), (.int (2 : Int32)), (.ref b1), (.ref b1)])) _
    refine st7 _ ?_
    show Steps p.tables e below (T7.setTop (mkF m 23 #[.val (.int p0), .unset, .unset, .unset] [(.ref b1)])) _
    refine XS.dup X7.here hx rfl (hb hby at_23) rfl rfl ?_
    show Steps p.tables e below (T7.setTop (mkF m 24 #[.val (.int p0), .unset, .unset, .unset] [(.ref b1), (.ref b1)])) _
    refine XS.iconst X7.here hx rfl (hb hby at_24) ?_
    show Steps p.tables e below (T7.setTop (mkF m 25 #[.val (.int p0), .unset, .unset, .unset] [(.int (3 : Int32)), (.ref b1), (.ref b1)])) _
    refine st8 _ ?_
    show Steps p.tables e below (T8.setTop (mkF m 28 #[.val (.int p0), .unset, .unset, .unset] [(.ref w_INVALID_CALL), (.int (3 : Int32)), (.ref b1), (.ref b1)])) _
    refine st9 _ ?_
    show Steps p.tables e below (T9.setTop (mkF m 29 #[.val (.int p0), .unset, .unset, .unset] [(.ref b1)])) _
    refine XS.dup X9.here hx rfl (hb hby at_29) rfl rfl ?_
    show Steps p.tables e below (T9.setTop (mkF m 30 #[.val (.int p0), .unset, .unset, .unset] [(.ref b1), (.ref b1)])) _
    refine XS.iconst X9.here hx rfl (hb hby at_30) ?_
    show Steps p.tables e below (T9.setTop (mkF m 31 #[.val (.int p0), .unset, .unset, .unset] [(.int (4 : Int32)), (.ref b1), (.ref b1)])) _
    refine st10 _ ?_
    show Steps p.tables e below (T10.setTop (mkF m 34 #[.val (.int p0), .unset, .unset, .unset] [(.ref w_INVALID_ANSWER), (.int (4 : Int32)), (.ref b1), (.ref b1)])) _
    refine st11 _ ?_
    show Steps p.tables e below (T11.setTop (mkF m 35 #[.val (.int p0), .unset, .unset, .unset] [(.ref b1)])) _
    refine XS.dup X11.here hx rfl (hb hby at_35) rfl rfl ?_
    show Steps p.tables e below (T11.setTop (mkF m 36 #[.val (.int p0), .unset, .unset, .unset] [(.ref b1), (.ref b1)])) _
    refine XS.iconst X11.here hx rfl (hb hby at_36) ?_
    show Steps p.tables e below (T11.setTop (mkF m 37 #[.val (.int p0), .unset, .unset, .unset] [(.int (5 : Int32)), (.ref b1), (.ref b1)])) _
    refine st12 _ ?_
    show Steps p.tables e below (T12.setTop (mkF m 40 #[.val (.int p0), .unset, .unset, .unset] [(.ref w_CONTEXT_TOO_LARGE), (.int (5 : Int32)), (.ref b1), (.ref b1)])) _
    refine st13 _ ?_
    show Steps p.tables e below (T13.setTop (mkF m 41 #[.val (.int p0), .unset, .unset, .unset] [(.ref b1)])) _
    refine XS.dup X13.here hx rfl (hb hby at_41) rfl rfl ?_
    show Steps p.tables e below (T13.setTop (mkF m 42 #[.val (.int p0), .unset, .unset, .unset] [(.ref b1), (.ref b1)])) _
    refine XS.bipush X13.here hx rfl (hb hby at_42) ?_
    show Steps p.tables e below (T13.setTop (mkF m 44 #[.val (.int p0), .unset, .unset, .unset] [(.int (6 : Int32)), (.ref b1), (.ref b1)])) _
    refine st14 _ ?_
    show Steps p.tables e below (T14.setTop (mkF m 47 #[.val (.int p0), .unset, .unset, .unset] [(.ref w_JUMP_LIMIT), (.int (6 : Int32)), (.ref b1), (.ref b1)])) _
    refine st15 _ ?_
    show Steps p.tables e below (T15.setTop (mkF m 48 #[.val (.int p0), .unset, .unset, .unset] [(.ref b1)])) _
    refine XS.astoreN X15.here hx rfl (hb hby at_48) rfl rfl (l' := #[.val (.int p0), .val (.ref b1), .unset, .unset]) rfl ?_
    show Steps p.tables e below (T15.setTop (mkF m 49 #[.val (.int p0), .val (.ref b1), .unset, .unset] [])) _
    refine XS.iloadN X15.here hx rfl (hb hby at_49) rfl ?_
    show Steps p.tables e below (T15.setTop (mkF m 50 #[.val (.int p0), .val (.ref b1), .unset, .unset] [(.int p0)])) _
    refine X15.ldcInt hx hown (mvT hZ (hw _ (List.mem_of_getElem? (i := 18) rfl))) (g := (mkF m 50 #[.val (.int p0), .val (.ref b1), .unset, .unset] [(.int p0)])) rfl (hb hby at_50) _ ?_
    show Steps p.tables e below (T15.setTop (mkF m 52 #[.val (.int p0), .val (.ref b1), .unset, .unset] [(.int (2147483647 : Int32)), (.int p0)])) _
    refine XS.iand X15.here hx rfl (hb hby at_52) rfl ?_
    show Steps p.tables e below (T15.setTop (mkF m 53 #[.val (.int p0), .val (.ref b1), .unset, .unset] [(.int (p0 &&& (2147483647 : Int32)))])) _
    refine XS.bipush X15.here hx rfl (hb hby at_53) ?_
    show Steps p.tables e below (T15.setTop (mkF m 55 #[.val (.int p0), .val (.ref b1), .unset, .unset] [(.int (7 : Int32)), (.int (p0 &&& (2147483647 : Int32)))])) _
    refine iremM X15 hx rfl (hb hby at_55) rfl (by decide) ?_
    show Steps p.tables e below (T15.setTop (mkF m 56 #[.val (.int p0), .val (.ref b1), .unset, .unset] [(.int ((p0 &&& (2147483647 : Int32)) % (7 : Int32)))])) _
    rw [hi2]
    show Steps p.tables e below (T15.setTop (mkF m 56 #[.val (.int p0), .val (.ref b1), .unset, .unset] [(.int (2 : Int32))])) _
    refine XS.istoreN X15.here hx rfl (hb hby at_56) rfl (l' := #[.val (.int p0), .val (.ref b1), .val (.int (2 : Int32)), .unset]) rfl ?_
    show Steps p.tables e below (T15.setTop (mkF m 57 #[.val (.int p0), .val (.ref b1), .val (.int (2 : Int32)), .unset] [])) _
    refine XS.iloadN X15.here hx rfl (hb hby at_57) rfl ?_
    show Steps p.tables e below (T15.setTop (mkF m 58 #[.val (.int p0), .val (.ref b1), .val (.int (2 : Int32)), .unset] [(.int (2 : Int32))])) _
    refine XS.iconst X15.here hx rfl (hb hby at_58) ?_
    show Steps p.tables e below (T15.setTop (mkF m 59 #[.val (.int p0), .val (.ref b1), .val (.int (2 : Int32)), .unset] [(.int (1 : Int32)), (.int (2 : Int32))])) _
    refine XS.icmpNo X15.here hx rfl (hb hby at_59) rfl (feq (by decide : ¬ ((2 : Int32) = (1 : Int32)))).1 ?_
    show Steps p.tables e below (T15.setTop (mkF m 62 #[.val (.int p0), .val (.ref b1), .val (.int (2 : Int32)), .unset] [])) _
    refine XS.iloadN X15.here hx rfl (hb hby at_62) rfl ?_
    show Steps p.tables e below (T15.setTop (mkF m 63 #[.val (.int p0), .val (.ref b1), .val (.int (2 : Int32)), .unset] [(.int (2 : Int32))])) _
    refine XS.iconst X15.here hx rfl (hb hby at_63) ?_
    show Steps p.tables e below (T15.setTop (mkF m 64 #[.val (.int p0), .val (.ref b1), .val (.int (2 : Int32)), .unset] [(.int (2 : Int32)), (.int (2 : Int32))])) _
    refine XS.icmpNo X15.here hx rfl (hb hby at_64) rfl (teq (by decide : (2 : Int32) = (2 : Int32))).2 ?_
    show Steps p.tables e below (T15.setTop (mkF m 67 #[.val (.int p0), .val (.ref b1), .val (.int (2 : Int32)), .unset] [])) _
    refine XS.iconst X15.here hx rfl (hb hby at_67) ?_
    show Steps p.tables e below (T15.setTop (mkF m 68 #[.val (.int p0), .val (.ref b1), .val (.int (2 : Int32)), .unset] [(.int (1 : Int32))])) _
    refine XS.goto X15.here hx rfl (pc0 := 68) (pc' := 72) rfl (hb hby at_68) (by decide) (by decide) ?_
    show Steps p.tables e below (T15.setTop (mkF m 72 #[.val (.int p0), .val (.ref b1), .val (.int (2 : Int32)), .unset] [(.int (1 : Int32))])) _
    refine XS.istoreN X15.here hx rfl (hb hby at_72) rfl (l' := #[.val (.int p0), .val (.ref b1), .val (.int (2 : Int32)), .val (.int (1 : Int32))]) rfl ?_
    show Steps p.tables e below (T15.setTop (mkF m 73 #[.val (.int p0), .val (.ref b1), .val (.int (2 : Int32)), .val (.int (1 : Int32))] [])) _
    refine XS.aloadN X15.here hx rfl (hb hby at_73) rfl rfl ?_
    show Steps p.tables e below (T15.setTop (mkF m 74 #[.val (.int p0), .val (.ref b1), .val (.int (2 : Int32)), .val (.int (1 : Int32))] [(.ref b1)])) _
    refine XS.iloadN X15.here hx rfl (hb hby at_74) rfl ?_
    show Steps p.tables e below (T15.setTop (mkF m 75 #[.val (.int p0), .val (.ref b1), .val (.int (2 : Int32)), .val (.int (1 : Int32))] [(.int (2 : Int32)), (.ref b1)])) _
    refine X15.aaload hx (j := (2 : Int32)) (v := (.ref w_TIMEOUT)) (by rw [e15]; exact Ar16.1) (State.isArrayOf_alike hZ.alike Ar16.2.1) rfl Ar16.2.2 hin16 hat16 (g := (mkF m 75 #[.val (.int p0), .val (.ref b1), .val (.int (2 : Int32)), .val (.int (1 : Int32))] [(.int (2 : Int32)), (.ref b1)])) rfl rfl (hb hby at_75) _ ?_
    show Steps p.tables e below (T15.setTop (mkF m 76 #[.val (.int p0), .val (.ref b1), .val (.int (2 : Int32)), .val (.int (1 : Int32))] [(.ref w_TIMEOUT)])) _
    refine st17.trans ?_
    show Steps p.tables e below (T17.setTop (mkF m 79 #[.val (.int p0), .val (.ref b1), .val (.int (2 : Int32)), .val (.int (1 : Int32))] [(.int (1 : Int32))])) _
    refine XS.iloadN X17.here hx rfl (hb hby at_79) rfl ?_
    show Steps p.tables e below (T17.setTop (mkF m 80 #[.val (.int p0), .val (.ref b1), .val (.int (2 : Int32)), .val (.int (1 : Int32))] [(.int (1 : Int32)), (.int (1 : Int32))])) _
    refine XS.icmpNo X17.here hx rfl (hb hby at_80) rfl (teq (by decide : (1 : Int32) = (1 : Int32))).2 ?_
    show Steps p.tables e below (T17.setTop (mkF m 83 #[.val (.int p0), .val (.ref b1), .val (.int (2 : Int32)), .val (.int (1 : Int32))] [])) _
    refine XS.iconst X17.here hx rfl (hb hby at_83) ?_
    show Steps p.tables e below (T17.setTop (mkF m 84 #[.val (.int p0), .val (.ref b1), .val (.int (2 : Int32)), .val (.int (1 : Int32))] [(.int (1 : Int32))])) _
    refine XS.goto X17.here hx rfl (pc0 := 84) (pc' := 88) rfl (hb hby at_84) (by decide) (by decide) ?_
    show Steps p.tables e below (T17.setTop (mkF m 88 #[.val (.int p0), .val (.ref b1), .val (.int (2 : Int32)), .val (.int (1 : Int32))] [(.int (1 : Int32))])) _
    exact retOut X17 hx Bd.returns rfl (Or.inl ⟨rfl, Or.inr (Or.inl rfl), _, rfl⟩) (hb hby at_88) hr
  · exact ⟨rfl, N17⟩
set_option maxRecDepth 65536 in
set_option maxHeartbeats 40000000 in
theorem c1_3 (l : Launch) (Z : State) (a0 : Array Value) (hw : ∀ d ∈ tables_1, d.before a0 Z = true) (ws : List Jvm.Cond) (w_REFUSAL : Addr) (w_TRANSIENT : Addr) (w_TIMEOUT : Addr) (w_INVALID_CALL : Addr) (w_INVALID_ANSWER : Addr) (w_CONTEXT_TOO_LARGE : Addr) (w_JUMP_LIMIT : Addr) (h0 : Heap) (n0 : Nat) (Z0 : n0 ≤ h0.size) (G : Glob Z h0 w_REFUSAL w_TRANSIENT w_TIMEOUT w_INVALID_CALL w_INVALID_ANSWER w_CONTEXT_TOO_LARGE w_JUMP_LIMIT)  :
    MetFree l (⟨"com/example/lungfish/lungfish/engine/FailureKind", "isRetryable", "()Z"⟩ : MethodName) (head1 (Jvm.Cond.code (⟨"com/example/lungfish/lungfish/engine/FailureKind", "isRetryable", "()Z"⟩ : MethodName) prog_10_method_5_code 1 (some .boolean) :: ws) ({ frames := 0, cells := 0, slots := 0, locals := 0 } : Room)) (fun a U => a = #[(.ref w_INVALID_CALL)] ∧ Z.Warmed39 U.vm ∧ U.heap = h0) (fun _ _ _ _ _ => True) (fun _ U o U' => ∃ v L, o = .returned v ∧ QR (some (.int (0 : Int32))) h0 n0 v U'.heap L ∧ FrameEnd U o U' L ({ frames := 0, cells := 0, slots := 0, locals := 0 } : Room).cells ({ frames := 0, cells := 0, slots := 0, locals := 0 } : Room).slots) := by
  refine MetFree.of_bodySF (plainFor_of_name pn_com_example_lungfish_lungfish_engine_FailureKind) hisR ?_
  intro p e s m args below meth c s₁ Bd hml0 hP hK
  obtain ⟨rfl, hZ, hh⟩ := hP
  have hx := Bd.exec
  have hby := Bd.bytes
  have hml : c.maxLocals = 1 := hml0
  have hown : s.vm.findClass "com/example/lungfish/lungfish/engine/FailureKind" = some m.cls := findClass_of_methodNamed Bd.named
  have X0 : Stand p l e ({ frames := 0, cells := 0, slots := 0, locals := 0 } : Room) s m #[(.ref w_INVALID_CALL)] below meth c s₁ [] 0 0 := Stand.of_body Bd
  have e0 : s₁.heap = h0 := by rw [← hh, Bd.state]; rfl
  have N0 := Fr.nil n0
  have pre0 : ∀ t, Steps p.tables e below (s₁.setTop (mkF m 0 #[.val (.ref w_INVALID_CALL)] [])) t → Steps p.tables e below (s₁.setTop (entryFrame m #[(.ref w_INVALID_CALL)] 1)) t := fun t k => castTop (ef_1_R m w_INVALID_CALL) k
  have G' := G
  obtain ⟨S_w_REFUSAL, E_w_REFUSAL, S_w_TRANSIENT, E_w_TRANSIENT, S_w_TIMEOUT, E_w_TIMEOUT, S_w_INVALID_CALL, E_w_INVALID_CALL, S_w_INVALID_ANSWER, E_w_INVALID_ANSWER, S_w_CONTEXT_TOO_LARGE, E_w_CONTEXT_TOO_LARGE, S_w_JUMP_LIMIT, E_w_JUMP_LIMIT, F_ordinal_w_REFUSAL, F_ordinal_w_TRANSIENT, F_ordinal_w_TIMEOUT, F_ordinal_w_INVALID_CALL, F_ordinal_w_CONTEXT_TOO_LARGE, F_ordinal_w_JUMP_LIMIT, F_ordinal_w_INVALID_ANSWER⟩ := G'
  obtain ⟨T1, X1, e1, st1⟩ := getS2 X0 hx hZ hown (host := "") (Or.inl (hw _ (List.mem_of_getElem? (i := 24) rfl))) Via.refl e0 S_w_TRANSIENT (g := (mkF m 1 #[.val (.ref w_INVALID_CALL)] [(.ref w_INVALID_CALL)])) rfl (hb hby d1_1)
  obtain ⟨T2, X2, e2, st2⟩ := getS2 X1 hx hZ hown (host := "") (Or.inl (hw _ (List.mem_of_getElem? (i := 25) rfl))) Via.refl e1 S_w_TIMEOUT (g := (mkF m 8 #[.val (.ref w_INVALID_CALL)] [(.ref w_INVALID_CALL)])) rfl (hb hby d1_8)
  obtain ⟨fs, hr, hrun, hended, hW, hsame⟩ := X2.leave (v := some (.int (0 : Int32))) (fun h => by rw [Bd.returns] at h; cases h)
  refine ⟨_, _, pre0 _ ?_, hrun, hended, _, _, rfl, ?_, ⟨_, rfl⟩, hW, hsame.mono (by decide) (by decide)⟩
  · show Steps p.tables e below (s₁.setTop (mkF m 0 #[.val (.ref w_INVALID_CALL)] [])) _
    refine XS.aloadN X0.here hx rfl (hb hby d1_0) rfl rfl ?_
    show Steps p.tables e below (s₁.setTop (mkF m 1 #[.val (.ref w_INVALID_CALL)] [(.ref w_INVALID_CALL)])) _
    refine st1 _ ?_
    show Steps p.tables e below (T1.setTop (mkF m 4 #[.val (.ref w_INVALID_CALL)] [(.ref w_TRANSIENT), (.ref w_INVALID_CALL)])) _
    refine Jvm.RoadKit.acmp (g := (mkF m 4 #[.val (.ref w_INVALID_CALL)] [(.ref w_TRANSIENT), (.ref w_INVALID_CALL)])) X1 hx rfl rfl rfl (pc0 := 4) (pc' := 7) (same := false) rfl (hb hby d1_4) rfl (decide_eq_false fun q => (Fld.ne F_ordinal_w_INVALID_CALL F_ordinal_w_TRANSIENT (by decide)) (Value.ref.inj q)) (by decide) (by decide) ?_
    show Steps p.tables e below (T1.setTop (mkF m 7 #[.val (.ref w_INVALID_CALL)] [])) _
    refine XS.aloadN X1.here hx rfl (hb hby d1_7) rfl rfl ?_
    show Steps p.tables e below (T1.setTop (mkF m 8 #[.val (.ref w_INVALID_CALL)] [(.ref w_INVALID_CALL)])) _
    refine st2 _ ?_
    show Steps p.tables e below (T2.setTop (mkF m 11 #[.val (.ref w_INVALID_CALL)] [(.ref w_TIMEOUT), (.ref w_INVALID_CALL)])) _
    refine Jvm.RoadKit.acmp (g := (mkF m 11 #[.val (.ref w_INVALID_CALL)] [(.ref w_TIMEOUT), (.ref w_INVALID_CALL)])) X2 hx rfl rfl rfl (pc0 := 11) (pc' := 18) (same := false) rfl (hb hby d1_11) rfl (decide_eq_false fun q => (Fld.ne F_ordinal_w_INVALID_CALL F_ordinal_w_TIMEOUT (by decide)) (Value.ref.inj q)) (by decide) (by decide) ?_
    show Steps p.tables e below (T2.setTop (mkF m 18 #[.val (.ref w_INVALID_CALL)] [])) _
    refine XS.iconst X2.here hx rfl (hb hby d1_18) ?_
    show Steps p.tables e below (T2.setTop (mkF m 19 #[.val (.ref w_INVALID_CALL)] [(.int (0 : Int32))])) _
    exact retOut X2 hx Bd.returns rfl (Or.inl ⟨rfl, Or.inr (Or.inl rfl), _, rfl⟩) (hb hby d1_19) hr
  · show QR _ h0 n0 _ T2.heap _
    rw [e2]
    exact ⟨rfl, N0, rfl⟩
set_option maxRecDepth 65536 in
set_option maxHeartbeats 40000000 in
theorem law_3 (l : Launch) (Z : State) (a0 : Array Value) (hw : ∀ d ∈ tables_1, d.before a0 Z = true) (ws : List Jvm.Cond) (w_REFUSAL : Addr) (w_TRANSIENT : Addr) (w_TIMEOUT : Addr) (w_INVALID_CALL : Addr) (w_INVALID_ANSWER : Addr) (w_CONTEXT_TOO_LARGE : Addr) (w_JUMP_LIMIT : Addr) (h0 : Heap) (n0 : Nat) (Z0 : n0 ≤ h0.size) (G : Glob Z h0 w_REFUSAL w_TRANSIENT w_TIMEOUT w_INVALID_CALL w_INVALID_ANSWER w_CONTEXT_TOO_LARGE w_JUMP_LIMIT) (p0 : Int32) (hi3 : ((p0 &&& (2147483647 : Int32)) % (7 : Int32)) = (3 : Int32)) :
    MetFree l x (head1 (Jvm.Cond.code x code maxLocals ret :: ws) room_1) (fun a U => a = #[(.int p0)] ∧ Z.Warmed39 U.vm ∧ U.heap = h0) (fun _ _ _ _ _ => True) (fun _ U o U' => ∃ v L, o = .returned v ∧ QL (some (.int (1 : Int32))) h0 n0 v U'.heap L ∧ FrameEnd U o U' L room_1.cells room_1.slots) := by
  refine MetFree.of_bodySF (plainFor_of_name pn_com_example_lungfish_lungfish_engine_FailureKindIsRetryablePinLaw) hisR ?_
  intro p e s m args below meth c s₁ Bd hml0 hP hK
  obtain ⟨rfl, hZ, hh⟩ := hP
  have hx := Bd.exec
  have hby := Bd.bytes
  have hml : c.maxLocals = 4 := hml0
  have hown : s.vm.findClass "com/example/lungfish/lungfish/engine/FailureKindIsRetryablePinLaw" = some m.cls := findClass_of_methodNamed Bd.named
  have X0 : Stand p l e room_1 s m #[(.int p0)] below meth c s₁ [] 0 0 := Stand.of_body Bd
  have e0 : s₁.heap = h0 := by rw [← hh, Bd.state]; rfl
  have N0 := Fr.nil n0
  have pre0 : ∀ t, Steps p.tables e below (s₁.setTop (mkF m 0 #[.val (.int p0), .unset, .unset, .unset] [])) t → Steps p.tables e below (s₁.setTop (entryFrame m #[(.int p0)] maxLocals)) t := fun t k => castTop (ef_0_I m p0) k
  have G' := G
  obtain ⟨S_w_REFUSAL, E_w_REFUSAL, S_w_TRANSIENT, E_w_TRANSIENT, S_w_TIMEOUT, E_w_TIMEOUT, S_w_INVALID_CALL, E_w_INVALID_CALL, S_w_INVALID_ANSWER, E_w_INVALID_ANSWER, S_w_CONTEXT_TOO_LARGE, E_w_CONTEXT_TOO_LARGE, S_w_JUMP_LIMIT, E_w_JUMP_LIMIT, F_ordinal_w_REFUSAL, F_ordinal_w_TRANSIENT, F_ordinal_w_TIMEOUT, F_ordinal_w_INVALID_CALL, F_ordinal_w_CONTEXT_TOO_LARGE, F_ordinal_w_JUMP_LIMIT, F_ordinal_w_INVALID_ANSWER⟩ := G'
  obtain ⟨T1, h1, k1, X1, e1, E1, A1, O1, st1⟩ := newR X0 hx hZ hown (hw _ (List.mem_of_getElem? (i := 0) rfl)) (hw _ (List.mem_of_getElem? (i := 1) rfl)) e0 (g := (mkF m 2 #[.val (.int p0), .unset, .unset, .unset] [(.int (7 : Int32))])) rfl (hb hby at_2) rfl (by decide) (cap := 7) (by decide) (by decide) (by decide) (by decide)
  obtain ⟨b1, g1⟩ : ∃ z, z = h0.size := ⟨_, rfl⟩
  rw [← g1] at A1 st1
  have V1 : Arv Z h1 b1 k1 (.object "com/example/lungfish/lungfish/engine/FailureKind") (7 : Int32) [.null, .null, .null, .null, .null, .null, .null] .null := (Arv.new A1 (by decide)).pad (pad_rep [] .null 7)
  have K1 : Keep h0 h1 [] := (Keep.refl h0 []).ext E1
  have sz_b1 : h0.size ≤ b1 := Nat.le_of_eq g1.symm
  have g_b1 : n0 ≤ b1 := Nat.le_trans Z0 sz_b1
  obtain ⟨T2, X2, e2, st2⟩ := getS2 X1 hx hZ hown (host := "") (Or.inl (hw _ (List.mem_of_getElem? (i := 2) rfl))) Via.refl e1 (own_sta_keep S_w_REFUSAL K1) (g := (mkF m 7 #[.val (.int p0), .unset, .unset, .unset] [(.int (0 : Int32)), (.ref b1), (.ref b1)])) rfl (hb hby at_7)
  obtain ⟨cl3, Ar3, q3, s3, m3, H3, F3⟩ := V1
  have hin3 : ¬ ((0 : Int32) < 0 ∨ cl3.slots.size ≤ ((0 : Int32)).toNatClampNeg) := inb_of s3 ⟨by decide, by decide⟩
  have sto3 : Sto Z h1 b1 (.ref w_REFUSAL) := Sto.ofV Ar3 q3 O1 (Ins.of_exa (E_w_REFUSAL.keep K1) (hw _ (List.mem_of_getElem? (i := 5) rfl)))
  obtain ⟨T3, h3, X3, e3, W3, st3⟩ := stR X2 hx hZ e2 Ar3 (j := (0 : Int32)) hin3 rfl sto3 (g := (mkF m 10 #[.val (.int p0), .unset, .unset, .unset] [(.ref w_REFUSAL), (.int (0 : Int32)), (.ref b1), (.ref b1)])) rfl rfl (hb hby at_10)
  have V3 : Arv Z h3 b1 k1 (.object "com/example/lungfish/lungfish/engine/FailureKind") (7 : Int32) [(.ref w_REFUSAL), .null, .null, .null, .null, .null, .null] .null := Arv.set Ar3 q3 s3 m3 H3 F3 rfl W3 0 rfl (Nat.le_of_ble_eq_true rfl)
  have K3 : Keep h0 h3 [] := K1.wr W3 (Or.inr sz_b1)
  have N3 := Fr.snoc X3 N0 g_b1
  obtain ⟨T4, X4, e4, st4⟩ := getS2 X3 hx hZ hown (host := "") (Or.inl (hw _ (List.mem_of_getElem? (i := 6) rfl))) Via.refl e3 (own_sta_keep S_w_TRANSIENT K3) (g := (mkF m 13 #[.val (.int p0), .unset, .unset, .unset] [(.int (1 : Int32)), (.ref b1), (.ref b1)])) rfl (hb hby at_13)
  obtain ⟨cl5, Ar5, q5, s5, m5, H5, F5⟩ := V3
  have hin5 : ¬ ((1 : Int32) < 0 ∨ cl5.slots.size ≤ ((1 : Int32)).toNatClampNeg) := inb_of s5 ⟨by decide, by decide⟩
  have sto5 : Sto Z h3 b1 (.ref w_TRANSIENT) := Sto.ofV Ar5 q5 O1 (Ins.of_exa (E_w_TRANSIENT.keep K3) (hw _ (List.mem_of_getElem? (i := 5) rfl)))
  obtain ⟨T5, h5, X5, e5, W5, st5⟩ := stR X4 hx hZ e4 Ar5 (j := (1 : Int32)) hin5 rfl sto5 (g := (mkF m 16 #[.val (.int p0), .unset, .unset, .unset] [(.ref w_TRANSIENT), (.int (1 : Int32)), (.ref b1), (.ref b1)])) rfl rfl (hb hby at_16)
  have V5 : Arv Z h5 b1 k1 (.object "com/example/lungfish/lungfish/engine/FailureKind") (7 : Int32) [(.ref w_REFUSAL), (.ref w_TRANSIENT), .null, .null, .null, .null, .null] .null := Arv.set Ar5 q5 s5 m5 H5 F5 rfl W5 1 rfl (Nat.le_of_ble_eq_true rfl)
  have K5 : Keep h0 h5 [] := K3.wr W5 (Or.inr sz_b1)
  have N5 := Fr.snoc X5 N3 g_b1
  obtain ⟨T6, X6, e6, st6⟩ := getS2 X5 hx hZ hown (host := "") (Or.inl (hw _ (List.mem_of_getElem? (i := 8) rfl))) Via.refl e5 (own_sta_keep S_w_TIMEOUT K5) (g := (mkF m 19 #[.val (.int p0), .unset, .unset, .unset] [(.int (2 : Int32)), (.ref b1), (.ref b1)])) rfl (hb hby at_19)
  obtain ⟨cl7, Ar7, q7, s7, m7, H7, F7⟩ := V5
  have hin7 : ¬ ((2 : Int32) < 0 ∨ cl7.slots.size ≤ ((2 : Int32)).toNatClampNeg) := inb_of s7 ⟨by decide, by decide⟩
  have sto7 : Sto Z h5 b1 (.ref w_TIMEOUT) := Sto.ofV Ar7 q7 O1 (Ins.of_exa (E_w_TIMEOUT.keep K5) (hw _ (List.mem_of_getElem? (i := 5) rfl)))
  obtain ⟨T7, h7, X7, e7, W7, st7⟩ := stR X6 hx hZ e6 Ar7 (j := (2 : Int32)) hin7 rfl sto7 (g := (mkF m 22 #[.val (.int p0), .unset, .unset, .unset] [(.ref w_TIMEOUT), (.int (2 : Int32)), (.ref b1), (.ref b1)])) rfl rfl (hb hby at_22)
  have V7 : Arv Z h7 b1 k1 (.object "com/example/lungfish/lungfish/engine/FailureKind") (7 : Int32) [(.ref w_REFUSAL), (.ref w_TRANSIENT), (.ref w_TIMEOUT), .null, .null, .null, .null] .null := Arv.set Ar7 q7 s7 m7 H7 F7 rfl W7 2 rfl (Nat.le_of_ble_eq_true rfl)
  have K7 : Keep h0 h7 [] := K5.wr W7 (Or.inr sz_b1)
  have N7 := Fr.snoc X7 N5 g_b1
  obtain ⟨T8, X8, e8, st8⟩ := getS2 X7 hx hZ hown (host := "") (Or.inl (hw _ (List.mem_of_getElem? (i := 10) rfl))) Via.refl e7 (own_sta_keep S_w_INVALID_CALL K7) (g := (mkF m 25 #[.val (.int p0), .unset, .unset, .unset] [(.int (3 : Int32)), (.ref b1), (.ref b1)])) rfl (hb hby at_25)
  obtain ⟨cl9, Ar9, q9, s9, m9, H9, F9⟩ := V7
  have hin9 : ¬ ((3 : Int32) < 0 ∨ cl9.slots.size ≤ ((3 : Int32)).toNatClampNeg) := inb_of s9 ⟨by decide, by decide⟩
  have sto9 : Sto Z h7 b1 (.ref w_INVALID_CALL) := Sto.ofV Ar9 q9 O1 (Ins.of_exa (E_w_INVALID_CALL.keep K7) (hw _ (List.mem_of_getElem? (i := 5) rfl)))
  obtain ⟨T9, h9, X9, e9, W9, st9⟩ := stR X8 hx hZ e8 Ar9 (j := (3 : Int32)) hin9 rfl sto9 (g := (mkF m 28 #[.val (.int p0), .unset, .unset, .unset] [(.ref w_INVALID_CALL), (.int (3 : Int32)), (.ref b1), (.ref b1)])) rfl rfl (hb hby at_28)
  have V9 : Arv Z h9 b1 k1 (.object "com/example/lungfish/lungfish/engine/FailureKind") (7 : Int32) [(.ref w_REFUSAL), (.ref w_TRANSIENT), (.ref w_TIMEOUT), (.ref w_INVALID_CALL), .null, .null, .null] .null := Arv.set Ar9 q9 s9 m9 H9 F9 rfl W9 3 rfl (Nat.le_of_ble_eq_true rfl)
  have K9 : Keep h0 h9 [] := K7.wr W9 (Or.inr sz_b1)
  have N9 := Fr.snoc X9 N7 g_b1
  obtain ⟨T10, X10, e10, st10⟩ := getS2 X9 hx hZ hown (host := "") (Or.inl (hw _ (List.mem_of_getElem? (i := 12) rfl))) Via.refl e9 (own_sta_keep S_w_INVALID_ANSWER K9) (g := (mkF m 31 #[.val (.int p0), .unset, .unset, .unset] [(.int (4 : Int32)), (.ref b1), (.ref b1)])) rfl (hb hby at_31)
  obtain ⟨cl11, Ar11, q11, s11, m11, H11, F11⟩ := V9
  have hin11 : ¬ ((4 : Int32) < 0 ∨ cl11.slots.size ≤ ((4 : Int32)).toNatClampNeg) := inb_of s11 ⟨by decide, by decide⟩
  have sto11 : Sto Z h9 b1 (.ref w_INVALID_ANSWER) := Sto.ofV Ar11 q11 O1 (Ins.of_exa (E_w_INVALID_ANSWER.keep K9) (hw _ (List.mem_of_getElem? (i := 5) rfl)))
  obtain ⟨T11, h11, X11, e11, W11, st11⟩ := stR X10 hx hZ e10 Ar11 (j := (4 : Int32)) hin11 rfl sto11 (g := (mkF m 34 #[.val (.int p0), .unset, .unset, .unset] [(.ref w_INVALID_ANSWER), (.int (4 : Int32)), (.ref b1), (.ref b1)])) rfl rfl (hb hby at_34)
  have V11 : Arv Z h11 b1 k1 (.object "com/example/lungfish/lungfish/engine/FailureKind") (7 : Int32) [(.ref w_REFUSAL), (.ref w_TRANSIENT), (.ref w_TIMEOUT), (.ref w_INVALID_CALL), (.ref w_INVALID_ANSWER), .null, .null] .null := Arv.set Ar11 q11 s11 m11 H11 F11 rfl W11 4 rfl (Nat.le_of_ble_eq_true rfl)
  have K11 : Keep h0 h11 [] := K9.wr W11 (Or.inr sz_b1)
  have N11 := Fr.snoc X11 N9 g_b1
  obtain ⟨T12, X12, e12, st12⟩ := getS2 X11 hx hZ hown (host := "") (Or.inl (hw _ (List.mem_of_getElem? (i := 14) rfl))) Via.refl e11 (own_sta_keep S_w_CONTEXT_TOO_LARGE K11) (g := (mkF m 37 #[.val (.int p0), .unset, .unset, .unset] [(.int (5 : Int32)), (.ref b1), (.ref b1)])) rfl (hb hby at_37)
  obtain ⟨cl13, Ar13, q13, s13, m13, H13, F13⟩ := V11
  have hin13 : ¬ ((5 : Int32) < 0 ∨ cl13.slots.size ≤ ((5 : Int32)).toNatClampNeg) := inb_of s13 ⟨by decide, by decide⟩
  have sto13 : Sto Z h11 b1 (.ref w_CONTEXT_TOO_LARGE) := Sto.ofV Ar13 q13 O1 (Ins.of_exa (E_w_CONTEXT_TOO_LARGE.keep K11) (hw _ (List.mem_of_getElem? (i := 5) rfl)))
  obtain ⟨T13, h13, X13, e13, W13, st13⟩ := stR X12 hx hZ e12 Ar13 (j := (5 : Int32)) hin13 rfl sto13 (g := (mkF m 40 #[.val (.int p0), .unset, .unset, .unset] [(.ref w_CONTEXT_TOO_LARGE), (.int (5 : Int32)), (.ref b1), (.ref b1)])) rfl rfl (hb hby at_40)
  have V13 : Arv Z h13 b1 k1 (.object "com/example/lungfish/lungfish/engine/FailureKind") (7 : Int32) [(.ref w_REFUSAL), (.ref w_TRANSIENT), (.ref w_TIMEOUT), (.ref w_INVALID_CALL), (.ref w_INVALID_ANSWER), (.ref w_CONTEXT_TOO_LARGE), .null] .null := Arv.set Ar13 q13 s13 m13 H13 F13 rfl W13 5 rfl (Nat.le_of_ble_eq_true rfl)
  have K13 : Keep h0 h13 [] := K11.wr W13 (Or.inr sz_b1)
  have N13 := Fr.snoc X13 N11 g_b1
  obtain ⟨T14, X14, e14, st14⟩ := getS2 X13 hx hZ hown (host := "") (Or.inl (hw _ (List.mem_of_getElem? (i := 16) rfl))) Via.refl e13 (own_sta_keep S_w_JUMP_LIMIT K13) (g := (mkF m 44 #[.val (.int p0), .unset, .unset, .unset] [(.int (6 : Int32)), (.ref b1), (.ref b1)])) rfl (hb hby at_44)
  obtain ⟨cl15, Ar15, q15, s15, m15, H15, F15⟩ := V13
  have hin15 : ¬ ((6 : Int32) < 0 ∨ cl15.slots.size ≤ ((6 : Int32)).toNatClampNeg) := inb_of s15 ⟨by decide, by decide⟩
  have sto15 : Sto Z h13 b1 (.ref w_JUMP_LIMIT) := Sto.ofV Ar15 q15 O1 (Ins.of_exa (E_w_JUMP_LIMIT.keep K13) (hw _ (List.mem_of_getElem? (i := 5) rfl)))
  obtain ⟨T15, h15, X15, e15, W15, st15⟩ := stR X14 hx hZ e14 Ar15 (j := (6 : Int32)) hin15 rfl sto15 (g := (mkF m 47 #[.val (.int p0), .unset, .unset, .unset] [(.ref w_JUMP_LIMIT), (.int (6 : Int32)), (.ref b1), (.ref b1)])) rfl rfl (hb hby at_47)
  have V15 : Arv Z h15 b1 k1 (.object "com/example/lungfish/lungfish/engine/FailureKind") (7 : Int32) [(.ref w_REFUSAL), (.ref w_TRANSIENT), (.ref w_TIMEOUT), (.ref w_INVALID_CALL), (.ref w_INVALID_ANSWER), (.ref w_CONTEXT_TOO_LARGE), (.ref w_JUMP_LIMIT)] .null := Arv.set Ar15 q15 s15 m15 H15 F15 rfl W15 6 rfl (Nat.le_of_ble_eq_true rfl)
  have K15 : Keep h0 h15 [] := K13.wr W15 (Or.inr sz_b1)
  have N15 := Fr.snoc X15 N13 g_b1
  obtain ⟨cl16, Ar16, q16, s16, m16, H16, F16⟩ := V15
  have hin16 : ¬ ((3 : Int32) < 0 ∨ cl16.slots.size ≤ ((3 : Int32)).toNatClampNeg) := inb_of s16 ⟨by decide, by decide⟩
  have hat16 : cl16.slots[((3 : Int32)).toNatClampNeg]? = some (.ref w_INVALID_CALL) := H16.at hin16 rfl
  obtain ⟨cq17, kq17, q17a, q17b, q17c⟩ := isOf hZ e15 (E_w_INVALID_CALL.keep K15)
  obtain ⟨_, _, ⟨T17, L17, k17, n17⟩, -, X17, ⟨Lc17, hQ17, l17, y17, z17⟩, st17⟩ := X15.virtualBack hx (y := (⟨"com/example/lungfish/lungfish/engine/FailureKind", "isRetryable", "()Z"⟩ : MethodName)) (z := (⟨"com/example/lungfish/lungfish/engine/FailureKind", "isRetryable", "()Z"⟩ : MethodName)) hown (mvT hZ (hw _ (List.mem_of_getElem? (i := 19) rfl))) (mvT hZ (hw _ (List.mem_of_getElem? (i := 20) rfl))) (notFace_of_selects (args := #[]) (mvT hZ (hw _ (List.mem_of_getElem? (i := 22) rfl)))) (mvT hZ (hw _ (List.mem_of_getElem? (i := 22) rfl))) (mvT hZ (hw _ (List.mem_of_getElem? (i := 21) rfl))) (by decide) (backOf (W := 0) (c1_3 l Z a0 hw [] w_REFUSAL w_TRANSIENT w_TIMEOUT w_INVALID_CALL w_INVALID_ANSWER w_CONTEXT_TOO_LARGE w_JUMP_LIMIT h15 n0 (Nat.le_trans Z0 K15.1) (G.keep K15)) hZ (hw _ (List.mem_of_getElem? (i := 23) rfl)) (hw _ (List.mem_of_getElem? (i := 3) rfl)) (by decide) (by decide)) q17a q17c (g := (mkF m 76 #[.val (.int p0), .val (.ref b1), .val (.int (3 : Int32)), .val (.int (0 : Int32))] [(.ref w_INVALID_CALL)])) rfl (by rw [hml]; rfl) (Steps.refl _) (argsL := []) (rest := []) (lenOf pd___Z rfl) rfl (by show 2 * 0 + _ ≤ _; exact Nat.le_of_eq rfl) (hb hby at_76) (fun _ _ => ⟨rfl, e15, (by decide : 1 + 0 ≤ _), (by decide : 7 + 0 ≤ _)⟩)
  dsimp only [Pt.U, Pt.locs, Pt.cells, Pt.slots] at X17 l17 y17 z17 st17 hQ17
  subst l17 y17 z17
  obtain ⟨rfl, N17q, e17⟩ := hQ17
  have N17 := Fr.app N15 N17q
  obtain ⟨fs, hr, hrun, hended, hW, hsame⟩ := X17.leave (v := some (.int (1 : Int32))) (fun h => by rw [Bd.returns] at h; cases h)
  refine ⟨_, _, pre0 _ ?_, hrun, hended, _, _, rfl, ?_, ⟨_, rfl⟩, hW, hsame.mono (by decide) (by decide)⟩
  · show Steps p.tables e below (s₁.setTop (mkF m 0 #[.val (.int p0), .unset, .unset, .unset] [])) _
    refine XS.bipush X0.here hx rfl (hb hby at_0) ?_
    show Steps p.tables e below (s₁.setTop (mkF m 2 #[.val (.int p0), .unset, .unset, .unset] [(.int (7 : Int32))])) _
    refine st1 _ ?_
    show Steps p.tables e below (T1.setTop (mkF m 5 #[.val (.int p0), .unset, .unset, .unset] [(.ref b1)])) _
    refine XS.dup X1.here hx rfl (hb hby at_5) rfl rfl ?_
    show Steps p.tables e below (T1.setTop (mkF m 6 #[.val (.int p0), .unset, .unset, .unset] [(.ref b1), (.ref b1)])) _
    refine XS.iconst X1.here hx rfl (hb hby at_6) ?_
    show Steps p.tables e below (T1.setTop (mkF m 7 #[.val (.int p0), .unset, .unset, .unset] [(.int (0 : Int32)), (.ref b1), (.ref b1)])) _
    refine st2 _ ?_
    show Steps p.tables e below (T2.setTop (mkF m 10 #[.val (.int p0), .unset, .unset, .unset] [(.ref w_REFUSAL), (.int (0 : Int32)), (.ref b1), (.ref b1)])) _
    refine st3 _ ?_
    show Steps p.tables e below (T3.setTop (mkF m 11 #[.val (.int p0), .unset, .unset, .unset] [(.ref b1)])) _
    refine XS.dup X3.here hx rfl (hb hby at_11) rfl rfl ?_
    show Steps p.tables e below (T3.setTop (mkF m 12 #[.val (.int p0), .unset, .unset, .unset] [(.ref b1), (.ref b1)])) _
    refine XS.iconst X3.here hx rfl (hb hby at_12) ?_
    show Steps p.tables e below (T3.setTop (mkF m 13 #[.val (.int p0), .unset, .unset, .unset] [(.int (1 : Int32)), (.ref b1), (.ref b1)])) _
    refine st4 _ ?_
    show Steps p.tables e below (T4.setTop (mkF m 16 #[.val (.int p0), .unset, .unset, .unset] [(.ref w_TRANSIENT), (.int (1 : Int32)), (.ref b1), (.ref b1)])) _
    refine st5 _ ?_
    show Steps p.tables e below (T5.setTop (mkF m 17 #[.val (.int p0), .unset, .unset, .unset] [(.ref b1)])) _
    refine XS.dup X5.here hx rfl (hb hby at_17) rfl rfl ?_
    show Steps p.tables e below (T5.setTop (mkF m 18 #[.val (.int p0), .unset, .unset, .unset] [(.ref b1), (.ref b1)])) _
    refine XS.iconst X5.here hx rfl (hb hby at_18) ?_
    show Steps p.tables e below (T5.setTop (mkF m 19 #[.val (.int p0), .unset, .unset, .unset] [(.int (2 : Int32)), (.ref b1), (.ref b1)])) _
    refine st6 _ ?_
    show Steps p.tables e below (T6.setTop (mkF m 22 #[.val (.int p0), .unset, .unset, .unset] [(.ref w_TIMEOUT), (.int (2 : Int32)), (.ref b1), (.ref b1)])) _
    refine st7 _ ?_
    show Steps p.tables e below (T7.setTop (mkF m 23 #[.val (.int p0), .unset, .unset, .unset] [(.ref b1)])) _
    refine XS.dup X7.here hx rfl (hb hby at_23) rfl rfl ?_
    show Steps p.tables e below (T7.setTop (mkF m 24 #[.val (.int p0), .unset, .unset, .unset] [(.ref b1), (.ref b1)])) _
    refine XS.iconst X7.here hx rfl (hb hby at_24) ?_
    show Steps p.tables e below (T7.setTop (mkF m 25 #[.val (.int p0), .unset, .unset, .unset] [(.int (3 : Int32)), (.ref b1), (.ref b1)])) _
    refine st8 _ ?_
    show Steps p.tables e below (T8.setTop (mkF m 28 #[.val (.int p0), .unset, .unset, .unset] [(.ref w_INVALID_CALL), (.int (3 : Int32)), (.ref b1), (.ref b1)])) _
    refine st9 _ ?_
    show Steps p.tables e below (T9.setTop (mkF m 29 #[.val (.int p0), .unset, .unset, .unset] [(.ref b1)])) _
    refine XS.dup X9.here hx rfl (hb hby at_29) rfl rfl ?_
    show Steps p.tables e below (T9.setTop (mkF m 30 #[.val (.int p0), .unset, .unset, .unset] [(.ref b1), (.ref b1)])) _
    refine XS.iconst X9.here hx rfl (hb hby at_30) ?_
    show Steps p.tables e below (T9.setTop (mkF m 31 #[.val (.int p0), .unset, .unset, .unset] [(.int (4 : Int32)), (.ref b1), (.ref b1)])) _
    refine st10 _ ?_
    show Steps p.tables e below (T10.setTop (mkF m 34 #[.val (.int p0), .unset, .unset, .unset] [(.ref w_INVALID_ANSWER), (.int (4 : Int32)), (.ref b1), (.ref b1)])) _
    refine st11 _ ?_
    show Steps p.tables e below (T11.setTop (mkF m 35 #[.val (.int p0), .unset, .unset, .unset] [(.ref b1)])) _
    refine XS.dup X11.here hx rfl (hb hby at_35) rfl rfl ?_
    show Steps p.tables e below (T11.setTop (mkF m 36 #[.val (.int p0), .unset, .unset, .unset] [(.ref b1), (.ref b1)])) _
    refine XS.iconst X11.here hx rfl (hb hby at_36) ?_
    show Steps p.tables e below (T11.setTop (mkF m 37 #[.val (.int p0), .unset, .unset, .unset] [(.int (5 : Int32)), (.ref b1), (.ref b1)])) _
    refine st12 _ ?_
    show Steps p.tables e below (T12.setTop (mkF m 40 #[.val (.int p0), .unset, .unset, .unset] [(.ref w_CONTEXT_TOO_LARGE), (.int (5 : Int32)), (.ref b1), (.ref b1)])) _
    refine st13 _ ?_
    show Steps p.tables e below (T13.setTop (mkF m 41 #[.val (.int p0), .unset, .unset, .unset] [(.ref b1)])) _
    refine XS.dup X13.here hx rfl (hb hby at_41) rfl rfl ?_
    show Steps p.tables e below (T13.setTop (mkF m 42 #[.val (.int p0), .unset, .unset, .unset] [(.ref b1), (.ref b1)])) _
    refine XS.bipush X13.here hx rfl (hb hby at_42) ?_
    show Steps p.tables e below (T13.setTop (mkF m 44 #[.val (.int p0), .unset, .unset, .unset] [(.int (6 : Int32)), (.ref b1), (.ref b1)])) _
    refine st14 _ ?_
    show Steps p.tables e below (T14.setTop (mkF m 47 #[.val (.int p0), .unset, .unset, .unset] [(.ref w_JUMP_LIMIT), (.int (6 : Int32)), (.ref b1), (.ref b1)])) _
    refine st15 _ ?_
    show Steps p.tables e below (T15.setTop (mkF m 48 #[.val (.int p0), .unset, .unset, .unset] [(.ref b1)])) _
    refine XS.astoreN X15.here hx rfl (hb hby at_48) rfl rfl (l' := #[.val (.int p0), .val (.ref b1), .unset, .unset]) rfl ?_
    show Steps p.tables e below (T15.setTop (mkF m 49 #[.val (.int p0), .val (.ref b1), .unset, .unset] [])) _
    refine XS.iloadN X15.here hx rfl (hb hby at_49) rfl ?_
    show Steps p.tables e below (T15.setTop (mkF m 50 #[.val (.int p0), .val (.ref b1), .unset, .unset] [(.int p0)])) _
    refine X15.ldcInt hx hown (mvT hZ (hw _ (List.mem_of_getElem? (i := 18) rfl))) (g := (mkF m 50 #[.val (.int p0), .val (.ref b1), .unset, .unset] [(.int p0)])) rfl (hb hby at_50) _ ?_
    show Steps p.tables e below (T15.setTop (mkF m 52 #[.val (.int p0), .val (.ref b1), .unset, .unset] [(.int (2147483647 : Int32)), (.int p0)])) _
    refine XS.iand X15.here hx rfl (hb hby at_52) rfl ?_
    show Steps p.tables e below (T15.setTop (mkF m 53 #[.val (.int p0), .val (.ref b1), .unset, .unset] [(.int (p0 &&& (2147483647 : Int32)))])) _
    refine XS.bipush X15.here hx rfl (hb hby at_53) ?_
    show Steps p.tables e below (T15.setTop (mkF m 55 #[.val (.int p0), .val (.ref b1), .unset, .unset] [(.int (7 : Int32)), (.int (p0 &&& (2147483647 : Int32)))])) _
    refine iremM X15 hx rfl (hb hby at_55) rfl (by decide) ?_
    show Steps p.tables e below (T15.setTop (mkF m 56 #[.val (.int p0), .val (.ref b1), .unset, .unset] [(.int ((p0 &&& (2147483647 : Int32)) % (7 : Int32)))])) _
    rw [hi3]
    show Steps p.tables e below (T15.setTop (mkF m 56 #[.val (.int p0), .val (.ref b1), .unset, .unset] [(.int (3 : Int32))])) _
    refine XS.istoreN X15.here hx rfl (hb hby at_56) rfl (l' := #[.val (.int p0), .val (.ref b1), .val (.int (3 : Int32)), .unset]) rfl ?_
    show Steps p.tables e below (T15.setTop (mkF m 57 #[.val (.int p0), .val (.ref b1), .val (.int (3 : Int32)), .unset] [])) _
    refine XS.iloadN X15.here hx rfl (hb hby at_57) rfl ?_
    show Steps p.tables e below (T15.setTop (mkF m 58 #[.val (.int p0), .val (.ref b1), .val (.int (3 : Int32)), .unset] [(.int (3 : Int32))])) _
    refine XS.iconst X15.here hx rfl (hb hby at_58) ?_
    show Steps p.tables e below (T15.setTop (mkF m 59 #[.val (.int p0), .val (.ref b1), .val (.int (3 : Int32)), .unset] [(.int (1 : Int32)), (.int (3 : Int32))])) _
    refine XS.icmpNo X15.here hx rfl (hb hby at_59) rfl (feq (by decide : ¬ ((3 : Int32) = (1 : Int32)))).1 ?_
    show Steps p.tables e below (T15.setTop (mkF m 62 #[.val (.int p0), .val (.ref b1), .val (.int (3 : Int32)), .unset] [])) _
    refine XS.iloadN X15.here hx rfl (hb hby at_62) rfl ?_
    show Steps p.tables e below (T15.setTop (mkF m 63 #[.val (.int p0), .val (.ref b1), .val (.int (3 : Int32)), .unset] [(.int (3 : Int32))])) _
    refine XS.iconst X15.here hx rfl (hb hby at_63) ?_
    show Steps p.tables e below (T15.setTop (mkF m 64 #[.val (.int p0), .val (.ref b1), .val (.int (3 : Int32)), .unset] [(.int (2 : Int32)), (.int (3 : Int32))])) _
    refine XS.icmpYes X15.here hx rfl (pc0 := 64) (pc' := 71) rfl (hb hby at_64) rfl (feq (by decide : ¬ ((3 : Int32) = (2 : Int32)))).2 (by decide) (by decide) ?_
    show Steps p.tables e below (T15.setTop (mkF m 71 #[.val (.int p0), .val (.ref b1), .val (.int (3 : Int32)), .unset] [])) _
    refine XS.iconst X15.here hx rfl (hb hby at_71) ?_
    show Steps p.tables e below (T15.setTop (mkF m 72 #[.val (.int p0), .val (.ref b1), .val (.int (3 : Int32)), .unset] [(.int (0 : Int32))])) _
    refine XS.istoreN X15.here hx rfl (hb hby at_72) rfl (l' := #[.val (.int p0), .val (.ref b1), .val (.int (3 : Int32)), .val (.int (0 : Int32))]) rfl ?_
    show Steps p.tables e below (T15.setTop (mkF m 73 #[.val (.int p0), .val (.ref b1), .val (.int (3 : Int32)), .val (.int (0 : Int32))] [])) _
    refine XS.aloadN X15.here hx rfl (hb hby at_73) rfl rfl ?_
    show Steps p.tables e below (T15.setTop (mkF m 74 #[.val (.int p0), .val (.ref b1), .val (.int (3 : Int32)), .val (.int (0 : Int32))] [(.ref b1)])) _
    refine XS.iloadN X15.here hx rfl (hb hby at_74) rfl ?_
    show Steps p.tables e below (T15.setTop (mkF m 75 #[.val (.int p0), .val (.ref b1), .val (.int (3 : Int32)), .val (.int (0 : Int32))] [(.int (3 : Int32)), (.ref b1)])) _
    refine X15.aaload hx (j := (3 : Int32)) (v := (.ref w_INVALID_CALL)) (by rw [e15]; exact Ar16.1) (State.isArrayOf_alike hZ.alike Ar16.2.1) rfl Ar16.2.2 hin16 hat16 (g := (mkF m 75 #[.val (.int p0), .val (.ref b1), .val (.int (3 : Int32)), .val (.int (0 : Int32))] [(.int (3 : Int32)), (.ref b1)])) rfl rfl (hb hby at_75) _ ?_
    show Steps p.tables e below (T15.setTop (mkF m 76 #[.val (.int p0), .val (.ref b1), .val (.int (3 : Int32)), .val (.int (0 : Int32))] [(.ref w_INVALID_CALL)])) _
    refine st17.trans ?_
    show Steps p.tables e below (T17.setTop (mkF m 79 #[.val (.int p0), .val (.ref b1), .val (.int (3 : Int32)), .val (.int (0 : Int32))] [(.int (0 : Int32))])) _
    refine XS.iloadN X17.here hx rfl (hb hby at_79) rfl ?_
    show Steps p.tables e below (T17.setTop (mkF m 80 #[.val (.int p0), .val (.ref b1), .val (.int (3 : Int32)), .val (.int (0 : Int32))] [(.int (0 : Int32)), (.int (0 : Int32))])) _
    refine XS.icmpNo X17.here hx rfl (hb hby at_80) rfl (teq (by decide : (0 : Int32) = (0 : Int32))).2 ?_
    show Steps p.tables e below (T17.setTop (mkF m 83 #[.val (.int p0), .val (.ref b1), .val (.int (3 : Int32)), .val (.int (0 : Int32))] [])) _
    refine XS.iconst X17.here hx rfl (hb hby at_83) ?_
    show Steps p.tables e below (T17.setTop (mkF m 84 #[.val (.int p0), .val (.ref b1), .val (.int (3 : Int32)), .val (.int (0 : Int32))] [(.int (1 : Int32))])) _
    refine XS.goto X17.here hx rfl (pc0 := 84) (pc' := 88) rfl (hb hby at_84) (by decide) (by decide) ?_
    show Steps p.tables e below (T17.setTop (mkF m 88 #[.val (.int p0), .val (.ref b1), .val (.int (3 : Int32)), .val (.int (0 : Int32))] [(.int (1 : Int32))])) _
    exact retOut X17 hx Bd.returns rfl (Or.inl ⟨rfl, Or.inr (Or.inl rfl), _, rfl⟩) (hb hby at_88) hr
  · exact ⟨rfl, N17⟩
set_option maxRecDepth 65536 in
set_option maxHeartbeats 40000000 in
theorem c1_4 (l : Launch) (Z : State) (a0 : Array Value) (hw : ∀ d ∈ tables_1, d.before a0 Z = true) (ws : List Jvm.Cond) (w_REFUSAL : Addr) (w_TRANSIENT : Addr) (w_TIMEOUT : Addr) (w_INVALID_CALL : Addr) (w_INVALID_ANSWER : Addr) (w_CONTEXT_TOO_LARGE : Addr) (w_JUMP_LIMIT : Addr) (h0 : Heap) (n0 : Nat) (Z0 : n0 ≤ h0.size) (G : Glob Z h0 w_REFUSAL w_TRANSIENT w_TIMEOUT w_INVALID_CALL w_INVALID_ANSWER w_CONTEXT_TOO_LARGE w_JUMP_LIMIT)  :
    MetFree l (⟨"com/example/lungfish/lungfish/engine/FailureKind", "isRetryable", "()Z"⟩ : MethodName) (head1 (Jvm.Cond.code (⟨"com/example/lungfish/lungfish/engine/FailureKind", "isRetryable", "()Z"⟩ : MethodName) prog_10_method_5_code 1 (some .boolean) :: ws) ({ frames := 0, cells := 0, slots := 0, locals := 0 } : Room)) (fun a U => a = #[(.ref w_INVALID_ANSWER)] ∧ Z.Warmed39 U.vm ∧ U.heap = h0) (fun _ _ _ _ _ => True) (fun _ U o U' => ∃ v L, o = .returned v ∧ QR (some (.int (0 : Int32))) h0 n0 v U'.heap L ∧ FrameEnd U o U' L ({ frames := 0, cells := 0, slots := 0, locals := 0 } : Room).cells ({ frames := 0, cells := 0, slots := 0, locals := 0 } : Room).slots) := by
  refine MetFree.of_bodySF (plainFor_of_name pn_com_example_lungfish_lungfish_engine_FailureKind) hisR ?_
  intro p e s m args below meth c s₁ Bd hml0 hP hK
  obtain ⟨rfl, hZ, hh⟩ := hP
  have hx := Bd.exec
  have hby := Bd.bytes
  have hml : c.maxLocals = 1 := hml0
  have hown : s.vm.findClass "com/example/lungfish/lungfish/engine/FailureKind" = some m.cls := findClass_of_methodNamed Bd.named
  have X0 : Stand p l e ({ frames := 0, cells := 0, slots := 0, locals := 0 } : Room) s m #[(.ref w_INVALID_ANSWER)] below meth c s₁ [] 0 0 := Stand.of_body Bd
  have e0 : s₁.heap = h0 := by rw [← hh, Bd.state]; rfl
  have N0 := Fr.nil n0
  have pre0 : ∀ t, Steps p.tables e below (s₁.setTop (mkF m 0 #[.val (.ref w_INVALID_ANSWER)] [])) t → Steps p.tables e below (s₁.setTop (entryFrame m #[(.ref w_INVALID_ANSWER)] 1)) t := fun t k => castTop (ef_1_R m w_INVALID_ANSWER) k
  have G' := G
  obtain ⟨S_w_REFUSAL, E_w_REFUSAL, S_w_TRANSIENT, E_w_TRANSIENT, S_w_TIMEOUT, E_w_TIMEOUT, S_w_INVALID_CALL, E_w_INVALID_CALL, S_w_INVALID_ANSWER, E_w_INVALID_ANSWER, S_w_CONTEXT_TOO_LARGE, E_w_CONTEXT_TOO_LARGE, S_w_JUMP_LIMIT, E_w_JUMP_LIMIT, F_ordinal_w_REFUSAL, F_ordinal_w_TRANSIENT, F_ordinal_w_TIMEOUT, F_ordinal_w_INVALID_CALL, F_ordinal_w_CONTEXT_TOO_LARGE, F_ordinal_w_JUMP_LIMIT, F_ordinal_w_INVALID_ANSWER⟩ := G'
  obtain ⟨T1, X1, e1, st1⟩ := getS2 X0 hx hZ hown (host := "") (Or.inl (hw _ (List.mem_of_getElem? (i := 24) rfl))) Via.refl e0 S_w_TRANSIENT (g := (mkF m 1 #[.val (.ref w_INVALID_ANSWER)] [(.ref w_INVALID_ANSWER)])) rfl (hb hby d1_1)
  obtain ⟨T2, X2, e2, st2⟩ := getS2 X1 hx hZ hown (host := "") (Or.inl (hw _ (List.mem_of_getElem? (i := 25) rfl))) Via.refl e1 S_w_TIMEOUT (g := (mkF m 8 #[.val (.ref w_INVALID_ANSWER)] [(.ref w_INVALID_ANSWER)])) rfl (hb hby d1_8)
  obtain ⟨fs, hr, hrun, hended, hW, hsame⟩ := X2.leave (v := some (.int (0 : Int32))) (fun h => by rw [Bd.returns] at h; cases h)
  refine ⟨_, _, pre0 _ ?_, hrun, hended, _, _, rfl, ?_, ⟨_, rfl⟩, hW, hsame.mono (by decide) (by decide)⟩
  · show Steps p.tables e below (s₁.setTop (mkF m 0 #[.val (.ref w_INVALID_ANSWER)] [])) _
    refine XS.aloadN X0.here hx rfl (hb hby d1_0) rfl rfl ?_
    show Steps p.tables e below (s₁.setTop (mkF m 1 #[.val (.ref w_INVALID_ANSWER)] [(.ref w_INVALID_ANSWER)])) _
    refine st1 _ ?_
    show Steps p.tables e below (T1.setTop (mkF m 4 #[.val (.ref w_INVALID_ANSWER)] [(.ref w_TRANSIENT), (.ref w_INVALID_ANSWER)])) _
    refine Jvm.RoadKit.acmp (g := (mkF m 4 #[.val (.ref w_INVALID_ANSWER)] [(.ref w_TRANSIENT), (.ref w_INVALID_ANSWER)])) X1 hx rfl rfl rfl (pc0 := 4) (pc' := 7) (same := false) rfl (hb hby d1_4) rfl (decide_eq_false fun q => (Fld.ne F_ordinal_w_INVALID_ANSWER F_ordinal_w_TRANSIENT (by decide)) (Value.ref.inj q)) (by decide) (by decide) ?_
    show Steps p.tables e below (T1.setTop (mkF m 7 #[.val (.ref w_INVALID_ANSWER)] [])) _
    refine XS.aloadN X1.here hx rfl (hb hby d1_7) rfl rfl ?_
    show Steps p.tables e below (T1.setTop (mkF m 8 #[.val (.ref w_INVALID_ANSWER)] [(.ref w_INVALID_ANSWER)])) _
    refine st2 _ ?_
    show Steps p.tables e below (T2.setTop (mkF m 11 #[.val (.ref w_INVALID_ANSWER)] [(.ref w_TIMEOUT), (.ref w_INVALID_ANSWER)])) _
    refine Jvm.RoadKit.acmp (g := (mkF m 11 #[.val (.ref w_INVALID_ANSWER)] [(.ref w_TIMEOUT), (.ref w_INVALID_ANSWER)])) X2 hx rfl rfl rfl (pc0 := 11) (pc' := 18) (same := false) rfl (hb hby d1_11) rfl (decide_eq_false fun q => (Fld.ne F_ordinal_w_INVALID_ANSWER F_ordinal_w_TIMEOUT (by decide)) (Value.ref.inj q)) (by decide) (by decide) ?_
    show Steps p.tables e below (T2.setTop (mkF m 18 #[.val (.ref w_INVALID_ANSWER)] [])) _
    refine XS.iconst X2.here hx rfl (hb hby d1_18) ?_
    show Steps p.tables e below (T2.setTop (mkF m 19 #[.val (.ref w_INVALID_ANSWER)] [(.int (0 : Int32))])) _
    exact retOut X2 hx Bd.returns rfl (Or.inl ⟨rfl, Or.inr (Or.inl rfl), _, rfl⟩) (hb hby d1_19) hr
  · show QR _ h0 n0 _ T2.heap _
    rw [e2]
    exact ⟨rfl, N0, rfl⟩
set_option maxRecDepth 65536 in
set_option maxHeartbeats 40000000 in
theorem law_4 (l : Launch) (Z : State) (a0 : Array Value) (hw : ∀ d ∈ tables_1, d.before a0 Z = true) (ws : List Jvm.Cond) (w_REFUSAL : Addr) (w_TRANSIENT : Addr) (w_TIMEOUT : Addr) (w_INVALID_CALL : Addr) (w_INVALID_ANSWER : Addr) (w_CONTEXT_TOO_LARGE : Addr) (w_JUMP_LIMIT : Addr) (h0 : Heap) (n0 : Nat) (Z0 : n0 ≤ h0.size) (G : Glob Z h0 w_REFUSAL w_TRANSIENT w_TIMEOUT w_INVALID_CALL w_INVALID_ANSWER w_CONTEXT_TOO_LARGE w_JUMP_LIMIT) (p0 : Int32) (hi4 : ((p0 &&& (2147483647 : Int32)) % (7 : Int32)) = (4 : Int32)) :
    MetFree l x (head1 (Jvm.Cond.code x code maxLocals ret :: ws) room_1) (fun a U => a = #[(.int p0)] ∧ Z.Warmed39 U.vm ∧ U.heap = h0) (fun _ _ _ _ _ => True) (fun _ U o U' => ∃ v L, o = .returned v ∧ QL (some (.int (1 : Int32))) h0 n0 v U'.heap L ∧ FrameEnd U o U' L room_1.cells room_1.slots) := by
  refine MetFree.of_bodySF (plainFor_of_name pn_com_example_lungfish_lungfish_engine_FailureKindIsRetryablePinLaw) hisR ?_
  intro p e s m args below meth c s₁ Bd hml0 hP hK
  obtain ⟨rfl, hZ, hh⟩ := hP
  have hx := Bd.exec
  have hby := Bd.bytes
  have hml : c.maxLocals = 4 := hml0
  have hown : s.vm.findClass "com/example/lungfish/lungfish/engine/FailureKindIsRetryablePinLaw" = some m.cls := findClass_of_methodNamed Bd.named
  have X0 : Stand p l e room_1 s m #[(.int p0)] below meth c s₁ [] 0 0 := Stand.of_body Bd
  have e0 : s₁.heap = h0 := by rw [← hh, Bd.state]; rfl
  have N0 := Fr.nil n0
  have pre0 : ∀ t, Steps p.tables e below (s₁.setTop (mkF m 0 #[.val (.int p0), .unset, .unset, .unset] [])) t → Steps p.tables e below (s₁.setTop (entryFrame m #[(.int p0)] maxLocals)) t := fun t k => castTop (ef_0_I m p0) k
  have G' := G
  obtain ⟨S_w_REFUSAL, E_w_REFUSAL, S_w_TRANSIENT, E_w_TRANSIENT, S_w_TIMEOUT, E_w_TIMEOUT, S_w_INVALID_CALL, E_w_INVALID_CALL, S_w_INVALID_ANSWER, E_w_INVALID_ANSWER, S_w_CONTEXT_TOO_LARGE, E_w_CONTEXT_TOO_LARGE, S_w_JUMP_LIMIT, E_w_JUMP_LIMIT, F_ordinal_w_REFUSAL, F_ordinal_w_TRANSIENT, F_ordinal_w_TIMEOUT, F_ordinal_w_INVALID_CALL, F_ordinal_w_CONTEXT_TOO_LARGE, F_ordinal_w_JUMP_LIMIT, F_ordinal_w_INVALID_ANSWER⟩ := G'
  obtain ⟨T1, h1, k1, X1, e1, E1, A1, O1, st1⟩ := newR X0 hx hZ hown (hw _ (List.mem_of_getElem? (i := 0) rfl)) (hw _ (List.mem_of_getElem? (i := 1) rfl)) e0 (g := (mkF m 2 #[.val (.int p0), .unset, .unset, .unset] [(.int (7 : Int32))])) rfl (hb hby at_2) rfl (by decide) (cap := 7) (by decide) (by decide) (by decide) (by decide)
  obtain ⟨b1, g1⟩ : ∃ z, z = h0.size := ⟨_, rfl⟩
  rw [← g1] at A1 st1
  have V1 : Arv Z h1 b1 k1 (.object "com/example/lungfish/lungfish/engine/FailureKind") (7 : Int32) [.null, .null, .null, .null, .null, .null, .null] .null := (Arv.new A1 (by decide)).pad (pad_rep [] .null 7)
  have K1 : Keep h0 h1 [] := (Keep.refl h0 []).ext E1
  have sz_b1 : h0.size ≤ b1 := Nat.le_of_eq g1.symm
  have g_b1 : n0 ≤ b1 := Nat.le_trans Z0 sz_b1
  obtain ⟨T2, X2, e2, st2⟩ := getS2 X1 hx hZ hown (host := "") (Or.inl (hw _ (List.mem_of_getElem? (i := 2) rfl))) Via.refl e1 (own_sta_keep S_w_REFUSAL K1) (g := (mkF m 7 #[.val (.int p0), .unset, .unset, .unset] [(.int (0 : Int32)), (.ref b1), (.ref b1)])) rfl (hb hby at_7)
  obtain ⟨cl3, Ar3, q3, s3, m3, H3, F3⟩ := V1
  have hin3 : ¬ ((0 : Int32) < 0 ∨ cl3.slots.size ≤ ((0 : Int32)).toNatClampNeg) := inb_of s3 ⟨by decide, by decide⟩
  have sto3 : Sto Z h1 b1 (.ref w_REFUSAL) := Sto.ofV Ar3 q3 O1 (Ins.of_exa (E_w_REFUSAL.keep K1) (hw _ (List.mem_of_getElem? (i := 5) rfl)))
  obtain ⟨T3, h3, X3, e3, W3, st3⟩ := stR X2 hx hZ e2 Ar3 (j := (0 : Int32)) hin3 rfl sto3 (g := (mkF m 10 #[.val (.int p0), .unset, .unset, .unset] [(.ref w_REFUSAL), (.int (0 : Int32)), (.ref b1), (.ref b1)])) rfl rfl (hb hby at_10)
  have V3 : Arv Z h3 b1 k1 (.object "com/example/lungfish/lungfish/engine/FailureKind") (7 : Int32) [(.ref w_REFUSAL), .null, .null, .null, .null, .null, .null] .null := Arv.set Ar3 q3 s3 m3 H3 F3 rfl W3 0 rfl (Nat.le_of_ble_eq_true rfl)
  have K3 : Keep h0 h3 [] := K1.wr W3 (Or.inr sz_b1)
  have N3 := Fr.snoc X3 N0 g_b1
  obtain ⟨T4, X4, e4, st4⟩ := getS2 X3 hx hZ hown (host := "") (Or.inl (hw _ (List.mem_of_getElem? (i := 6) rfl))) Via.refl e3 (own_sta_keep S_w_TRANSIENT K3) (g := (mkF m 13 #[.val (.int p0), .unset, .unset, .unset] [(.int (1 : Int32)), (.ref b1), (.ref b1)])) rfl (hb hby at_13)
  obtain ⟨cl5, Ar5, q5, s5, m5, H5, F5⟩ := V3
  have hin5 : ¬ ((1 : Int32) < 0 ∨ cl5.slots.size ≤ ((1 : Int32)).toNatClampNeg) := inb_of s5 ⟨by decide, by decide⟩
  have sto5 : Sto Z h3 b1 (.ref w_TRANSIENT) := Sto.ofV Ar5 q5 O1 (Ins.of_exa (E_w_TRANSIENT.keep K3) (hw _ (List.mem_of_getElem? (i := 5) rfl)))
  obtain ⟨T5, h5, X5, e5, W5, st5⟩ := stR X4 hx hZ e4 Ar5 (j := (1 : Int32)) hin5 rfl sto5 (g := (mkF m 16 #[.val (.int p0), .unset, .unset, .unset] [(.ref w_TRANSIENT), (.int (1 : Int32)), (.ref b1), (.ref b1)])) rfl rfl (hb hby at_16)
  have V5 : Arv Z h5 b1 k1 (.object "com/example/lungfish/lungfish/engine/FailureKind") (7 : Int32) [(.ref w_REFUSAL), (.ref w_TRANSIENT), .null, .null, .null, .null, .null] .null := Arv.set Ar5 q5 s5 m5 H5 F5 rfl W5 1 rfl (Nat.le_of_ble_eq_true rfl)
  have K5 : Keep h0 h5 [] := K3.wr W5 (Or.inr sz_b1)
  have N5 := Fr.snoc X5 N3 g_b1
  obtain ⟨T6, X6, e6, st6⟩ := getS2 X5 hx hZ hown (host := "") (Or.inl (hw _ (List.mem_of_getElem? (i := 8) rfl))) Via.refl e5 (own_sta_keep S_w_TIMEOUT K5) (g := (mkF m 19 #[.val (.int p0), .unset, .unset, .unset] [(.int (2 : Int32)), (.ref b1), (.ref b1)])) rfl (hb hby at_19)
  obtain ⟨cl7, Ar7, q7, s7, m7, H7, F7⟩ := V5
  have hin7 : ¬ ((2 : Int32) < 0 ∨ cl7.slots.size ≤ ((2 : Int32)).toNatClampNeg) := inb_of s7 ⟨by decide, by decide⟩
  have sto7 : Sto Z h5 b1 (.ref w_TIMEOUT) := Sto.ofV Ar7 q7 O1 (Ins.of_exa (E_w_TIMEOUT.keep K5) (hw _ (List.mem_of_getElem? (i := 5) rfl)))
  obtain ⟨T7, h7, X7, e7, W7, st7⟩ := stR X6 hx hZ e6 Ar7 (j := (2 : Int32)) hin7 rfl sto7 (g := (mkF m 22 #[.val (.int p0), .unset, .unset, .unset] [(.ref w_TIMEOUT), (.int (2 : Int32)), (.ref b1), (.ref b1)])) rfl rfl (hb hby at_22)
  have V7 : Arv Z h7 b1 k1 (.object "com/example/lungfish/lungfish/engine/FailureKind") (7 : Int32) [(.ref w_REFUSAL), (.ref w_TRANSIENT), (.ref w_TIMEOUT), .null, .null, .null, .null] .null := Arv.set Ar7 q7 s7 m7 H7 F7 rfl W7 2 rfl (Nat.le_of_ble_eq_true rfl)
  have K7 : Keep h0 h7 [] := K5.wr W7 (Or.inr sz_b1)
  have N7 := Fr.snoc X7 N5 g_b1
  obtain ⟨T8, X8, e8, st8⟩ := getS2 X7 hx hZ hown (host := "") (Or.inl (hw _ (List.mem_of_getElem? (i := 10) rfl))) Via.refl e7 (own_sta_keep S_w_INVALID_CALL K7) (g := (mkF m 25 #[.val (.int p0), .unset, .unset, .unset] [(.int (3 : Int32)), (.ref b1), (.ref b1)])) rfl (hb hby at_25)
  obtain ⟨cl9, Ar9, q9, s9, m9, H9, F9⟩ := V7
  have hin9 : ¬ ((3 : Int32) < 0 ∨ cl9.slots.size ≤ ((3 : Int32)).toNatClampNeg) := inb_of s9 ⟨by decide, by decide⟩
  have sto9 : Sto Z h7 b1 (.ref w_INVALID_CALL) := Sto.ofV Ar9 q9 O1 (Ins.of_exa (E_w_INVALID_CALL.keep K7) (hw _ (List.mem_of_getElem? (i := 5) rfl)))
  obtain ⟨T9, h9, X9, e9, W9, st9⟩ := stR X8 hx hZ e8 Ar9 (j := (3 : Int32)) hin9 rfl sto9 (g := (mkF m 28 #[.val (.int p0), .unset, .unset, .unset] [(.ref w_INVALID_CALL), (.int (3 : Int32)), (.ref b1), (.ref b1)])) rfl rfl (hb hby at_28)
  have V9 : Arv Z h9 b1 k1 (.object "com/example/lungfish/lungfish/engine/FailureKind") (7 : Int32) [(.ref w_REFUSAL), (.ref w_TRANSIENT), (.ref w_TIMEOUT), (.ref w_INVALID_CALL), .null, .null, .null] .null := Arv.set Ar9 q9 s9 m9 H9 F9 rfl W9 3 rfl (Nat.le_of_ble_eq_true rfl)
  have K9 : Keep h0 h9 [] := K7.wr W9 (Or.inr sz_b1)
  have N9 := Fr.snoc X9 N7 g_b1
  obtain ⟨T10, X10, e10, st10⟩ := getS2 X9 hx hZ hown (host := "") (Or.inl (hw _ (List.mem_of_getElem? (i := 12) rfl))) Via.refl e9 (own_sta_keep S_w_INVALID_ANSWER K9) (g := (mkF m 31 #[.val (.int p0), .unset, .unset, .unset] [(.int (4 : Int32)), (.ref b1), (.ref b1)])) rfl (hb hby at_31)
  obtain ⟨cl11, Ar11, q11, s11, m11, H11, F11⟩ := V9
  have hin11 : ¬ ((4 : Int32) < 0 ∨ cl11.slots.size ≤ ((4 : Int32)).toNatClampNeg) := inb_of s11 ⟨by decide, by decide⟩
  have sto11 : Sto Z h9 b1 (.ref w_INVALID_ANSWER) := Sto.ofV Ar11 q11 O1 (Ins.of_exa (E_w_INVALID_ANSWER.keep K9) (hw _ (List.mem_of_getElem? (i := 5) rfl)))
  obtain ⟨T11, h11, X11, e11, W11, st11⟩ := stR X10 hx hZ e10 Ar11 (j := (4 : Int32)) hin11 rfl sto11 (g := (mkF m 34 #[.val (.int p0), .unset, .unset, .unset] [(.ref w_INVALID_ANSWER), (.int (4 : Int32)), (.ref b1), (.ref b1)])) rfl rfl (hb hby at_34)
  have V11 : Arv Z h11 b1 k1 (.object "com/example/lungfish/lungfish/engine/FailureKind") (7 : Int32) [(.ref w_REFUSAL), (.ref w_TRANSIENT), (.ref w_TIMEOUT), (.ref w_INVALID_CALL), (.ref w_INVALID_ANSWER), .null, .null] .null := Arv.set Ar11 q11 s11 m11 H11 F11 rfl W11 4 rfl (Nat.le_of_ble_eq_true rfl)
  have K11 : Keep h0 h11 [] := K9.wr W11 (Or.inr sz_b1)
  have N11 := Fr.snoc X11 N9 g_b1
  obtain ⟨T12, X12, e12, st12⟩ := getS2 X11 hx hZ hown (host := "") (Or.inl (hw _ (List.mem_of_getElem? (i := 14) rfl))) Via.refl e11 (own_sta_keep S_w_CONTEXT_TOO_LARGE K11) (g := (mkF m 37 #[.val (.int p0), .unset, .unset, .unset] [(.int (5 : Int32)), (.ref b1), (.ref b1)])) rfl (hb hby at_37)
  obtain ⟨cl13, Ar13, q13, s13, m13, H13, F13⟩ := V11
  have hin13 : ¬ ((5 : Int32) < 0 ∨ cl13.slots.size ≤ ((5 : Int32)).toNatClampNeg) := inb_of s13 ⟨by decide, by decide⟩
  have sto13 : Sto Z h11 b1 (.ref w_CONTEXT_TOO_LARGE) := Sto.ofV Ar13 q13 O1 (Ins.of_exa (E_w_CONTEXT_TOO_LARGE.keep K11) (hw _ (List.mem_of_getElem? (i := 5) rfl)))
  obtain ⟨T13, h13, X13, e13, W13, st13⟩ := stR X12 hx hZ e12 Ar13 (j := (5 : Int32)) hin13 rfl sto13 (g := (mkF m 40 #[.val (.int p0), .unset, .unset, .unset] [(.ref w_CONTEXT_TOO_LARGE), (.int (5 : Int32)), (.ref b1), (.ref b1)])) rfl rfl (hb hby at_40)
  have V13 : Arv Z h13 b1 k1 (.object "com/example/lungfish/lungfish/engine/FailureKind") (7 : Int32) [(.ref w_REFUSAL), (.ref w_TRANSIENT), (.ref w_TIMEOUT), (.ref w_INVALID_CALL), (.ref w_INVALID_ANSWER), (.ref w_CONTEXT_TOO_LARGE), .null] .null := Arv.set Ar13 q13 s13 m13 H13 F13 rfl W13 5 rfl (Nat.le_of_ble_eq_true rfl)
  have K13 : Keep h0 h13 [] := K11.wr W13 (Or.inr sz_b1)
  have N13 := Fr.snoc X13 N11 g_b1
  obtain ⟨T14, X14, e14, st14⟩ := getS2 X13 hx hZ hown (host := "") (Or.inl (hw _ (List.mem_of_getElem? (i := 16) rfl))) Via.refl e13 (own_sta_keep S_w_JUMP_LIMIT K13) (g := (mkF m 44 #[.val (.int p0), .unset, .unset, .unset] [(.int (6 : Int32)), (.ref b1), (.ref b1)])) rfl (hb hby at_44)
  obtain ⟨cl15, Ar15, q15, s15, m15, H15, F15⟩ := V13
  have hin15 : ¬ ((6 : Int32) < 0 ∨ cl15.slots.size ≤ ((6 : Int32)).toNatClampNeg) := inb_of s15 ⟨by decide, by decide⟩
  have sto15 : Sto Z h13 b1 (.ref w_JUMP_LIMIT) := Sto.ofV Ar15 q15 O1 (Ins.of_exa (E_w_JUMP_LIMIT.keep K13) (hw _ (List.mem_of_getElem? (i := 5) rfl)))
  obtain ⟨T15, h15, X15, e15, W15, st15⟩ := stR X14 hx hZ e14 Ar15 (j := (6 : Int32)) hin15 rfl sto15 (g := (mkF m 47 #[.val (.int p0), .unset, .unset, .unset] [(.ref w_JUMP_LIMIT), (.int (6 : Int32)), (.ref b1), (.ref b1)])) rfl rfl (hb hby at_47)
  have V15 : Arv Z h15 b1 k1 (.object "com/example/lungfish/lungfish/engine/FailureKind") (7 : Int32) [(.ref w_REFUSAL), (.ref w_TRANSIENT), (.ref w_TIMEOUT), (.ref w_INVALID_CALL), (.ref w_INVALID_ANSWER), (.ref w_CONTEXT_TOO_LARGE), (.ref w_JUMP_LIMIT)] .null := Arv.set Ar15 q15 s15 m15 H15 F15 rfl W15 6 rfl (Nat.le_of_ble_eq_true rfl)
  have K15 : Keep h0 h15 [] := K13.wr W15 (Or.inr sz_b1)
  have N15 := Fr.snoc X15 N13 g_b1
  obtain ⟨cl16, Ar16, q16, s16, m16, H16, F16⟩ := V15
  have hin16 : ¬ ((4 : Int32) < 0 ∨ cl16.slots.size ≤ ((4 : Int32)).toNatClampNeg) := inb_of s16 ⟨by decide, by decide⟩
  have hat16 : cl16.slots[((4 : Int32)).toNatClampNeg]? = some (.ref w_INVALID_ANSWER) := H16.at hin16 rfl
  obtain ⟨cq17, kq17, q17a, q17b, q17c⟩ := isOf hZ e15 (E_w_INVALID_ANSWER.keep K15)
  obtain ⟨_, _, ⟨T17, L17, k17, n17⟩, -, X17, ⟨Lc17, hQ17, l17, y17, z17⟩, st17⟩ := X15.virtualBack hx (y := (⟨"com/example/lungfish/lungfish/engine/FailureKind", "isRetryable", "()Z"⟩ : MethodName)) (z := (⟨"com/example/lungfish/lungfish/engine/FailureKind", "isRetryable", "()Z"⟩ : MethodName)) hown (mvT hZ (hw _ (List.mem_of_getElem? (i := 19) rfl))) (mvT hZ (hw _ (List.mem_of_getElem? (i := 20) rfl))) (notFace_of_selects (args := #[]) (mvT hZ (hw _ (List.mem_of_getElem? (i := 22) rfl)))) (mvT hZ (hw _ (List.mem_of_getElem? (i := 22) rfl))) (mvT hZ (hw _ (List.mem_of_getElem? (i := 21) rfl))) (by decide) (backOf (W := 0) (c1_4 l Z a0 hw [] w_REFUSAL w_TRANSIENT w_TIMEOUT w_INVALID_CALL w_INVALID_ANSWER w_CONTEXT_TOO_LARGE w_JUMP_LIMIT h15 n0 (Nat.le_trans Z0 K15.1) (G.keep K15)) hZ (hw _ (List.mem_of_getElem? (i := 23) rfl)) (hw _ (List.mem_of_getElem? (i := 3) rfl)) (by decide) (by decide)) q17a q17c (g := (mkF m 76 #[.val (.int p0), .val (.ref b1), .val (.int (4 : Int32)), .val (.int (0 : Int32))] [(.ref w_INVALID_ANSWER)])) rfl (by rw [hml]; rfl) (Steps.refl _) (argsL := []) (rest := []) (lenOf pd___Z rfl) rfl (by show 2 * 0 + _ ≤ _; exact Nat.le_of_eq rfl) (hb hby at_76) (fun _ _ => ⟨rfl, e15, (by decide : 1 + 0 ≤ _), (by decide : 7 + 0 ≤ _)⟩)
  dsimp only [Pt.U, Pt.locs, Pt.cells, Pt.slots] at X17 l17 y17 z17 st17 hQ17
  subst l17 y17 z17
  obtain ⟨rfl, N17q, e17⟩ := hQ17
  have N17 := Fr.app N15 N17q
  obtain ⟨fs, hr, hrun, hended, hW, hsame⟩ := X17.leave (v := some (.int (1 : Int32))) (fun h => by rw [Bd.returns] at h; cases h)
  refine ⟨_, _, pre0 _ ?_, hrun, hended, _, _, rfl, ?_, ⟨_, rfl⟩, hW, hsame.mono (by decide) (by decide)⟩
  · show Steps p.tables e below (s₁.setTop (mkF m 0 #[.val (.int p0), .unset, .unset, .unset] [])) _
    refine XS.bipush X0.here hx rfl (hb hby at_0) ?_
    show Steps p.tables e below (s₁.setTop (mkF m 2 #[.val (.int p0), .unset, .unset, .unset] [(.int (7 : Int32))])) _
    refine st1 _ ?_
    show Steps p.tables e below (T1.setTop (mkF m 5 #[.val (.int p0), .unset, .unset, .unset] [(.ref b1)])) _
    refine XS.dup X1.here hx rfl (hb hby at_5) rfl rfl ?_
    show Steps p.tables e below (T1.setTop (mkF m 6 #[.val (.int p0), .unset, .unset, .unset] [(.ref b1), (.ref b1)])) _
    refine XS.iconst X1.here hx rfl (hb hby at_6) ?_
    show Steps p.tables e below (T1.setTop (mkF m 7 #[.val (.int p0), .unset, .unset, .unset] [(.int (0 : Int32)), (.ref b1), (.ref b1)])) _
    refine st2 _ ?_
    show Steps p.tables e below (T2.setTop (mkF m 10 #[.val (.int p0), .unset, .unset, .unset] [(.ref w_REFUSAL), (.int (0 : Int32)), (.ref b1), (.ref b1)])) _
    refine st3 _ ?_
    show Steps p.tables e below (T3.setTop (mkF m 11 #[.val (.int p0), .unset, .unset, .unset] [(.ref b1)])) _
    refine XS.dup X3.here hx rfl (hb hby at_11) rfl rfl ?_
    show Steps p.tables e below (T3.setTop (mkF m 12 #[.val (.int p0), .unset, .unset, .unset] [(.ref b1), (.ref b1)])) _
    refine XS.iconst X3.here hx rfl (hb hby at_12) ?_
    show Steps p.tables e below (T3.setTop (mkF m 13 #[.val (.int p0), .unset, .unset, .unset] [(.int (1 : Int32)), (.ref b1), (.ref b1)])) _
    refine st4 _ ?_
    show Steps p.tables e below (T4.setTop (mkF m 16 #[.val (.int p0), .unset, .unset, .unset] [(.ref w_TRANSIENT), (.int (1 : Int32)), (.ref b1), (.ref b1)])) _
    refine st5 _ ?_
    show Steps p.tables e below (T5.setTop (mkF m 17 #[.val (.int p0), .unset, .unset, .unset] [(.ref b1)])) _
    refine XS.dup X5.here hx rfl (hb hby at_17) rfl rfl ?_
    show Steps p.tables e below (T5.setTop (mkF m 18 #[.val (.int p0), .unset, .unset, .unset] [(.ref b1), (.ref b1)])) _
    refine XS.iconst X5.here hx rfl (hb hby at_18) ?_
    show Steps p.tables e below (T5.setTop (mkF m 19 #[.val (.int p0), .unset, .unset, .unset] [(.int (2 : Int32)), (.ref b1), (.ref b1)])) _
    refine st6 _ ?_
    show Steps p.tables e below (T6.setTop (mkF m 22 #[.val (.int p0), .unset, .unset, .unset] [(.ref w_TIMEOUT), (.int (2 : Int32)), (.ref b1), (.ref b1)])) _
    refine st7 _ ?_
    show Steps p.tables e below (T7.setTop (mkF m 23 #[.val (.int p0), .unset, .unset, .unset] [(.ref b1)])) _
    refine XS.dup X7.here hx rfl (hb hby at_23) rfl rfl ?_
    show Steps p.tables e below (T7.setTop (mkF m 24 #[.val (.int p0), .unset, .unset, .unset] [(.ref b1), (.ref b1)])) _
    refine XS.iconst X7.here hx rfl (hb hby at_24) ?_
    show Steps p.tables e below (T7.setTop (mkF m 25 #[.val (.int p0), .unset, .unset, .unset] [(.int (3 : Int32)), (.ref b1), (.ref b1)])) _
    refine st8 _ ?_
    show Steps p.tables e below (T8.setTop (mkF m 28 #[.val (.int p0), .unset, .unset, .unset] [(.ref w_INVALID_CALL), (.int (3 : Int32)), (.ref b1), (.ref b1)])) _
    refine st9 _ ?_
    show Steps p.tables e below (T9.setTop (mkF m 29 #[.val (.int p0), .unset, .unset, .unset] [(.ref b1)])) _
    refine XS.dup X9.here hx rfl (hb hby at_29) rfl rfl ?_
    show Steps p.tables e below (T9.setTop (mkF m 30 #[.val (.int p0), .unset, .unset, .unset] [(.ref b1), (.ref b1)])) _
    refine XS.iconst X9.here hx rfl (hb hby at_30) ?_
    show Steps p.tables e below (T9.setTop (mkF m 31 #[.val (.int p0), .unset, .unset, .unset] [(.int (4 : Int32)), (.ref b1), (.ref b1)])) _
    refine st10 _ ?_
    show Steps p.tables e below (T10.setTop (mkF m 34 #[.val (.int p0), .unset, .unset, .unset] [(.ref w_INVALID_ANSWER), (.int (4 : Int32)), (.ref b1), (.ref b1)])) _
    refine st11 _ ?_
    show Steps p.tables e below (T11.setTop (mkF m 35 #[.val (.int p0), .unset, .unset, .unset] [(.ref b1)])) _
    refine XS.dup X11.here hx rfl (hb hby at_35) rfl rfl ?_
    show Steps p.tables e below (T11.setTop (mkF m 36 #[.val (.int p0), .unset, .unset, .unset] [(.ref b1), (.ref b1)])) _
    refine XS.iconst X11.here hx rfl (hb hby at_36) ?_
    show Steps p.tables e below (T11.setTop (mkF m 37 #[.val (.int p0), .unset, .unset, .unset] [(.int (5 : Int32)), (.ref b1), (.ref b1)])) _
    refine st12 _ ?_
    show Steps p.tables e below (T12.setTop (mkF m 40 #[.val (.int p0), .unset, .unset, .unset] [(.ref w_CONTEXT_TOO_LARGE), (.int (5 : Int32)), (.ref b1), (.ref b1)])) _
    refine st13 _ ?_
    show Steps p.tables e below (T13.setTop (mkF m 41 #[.val (.int p0), .unset, .unset, .unset] [(.ref b1)])) _
    refine XS.dup X13.here hx rfl (hb hby at_41) rfl rfl ?_
    show Steps p.tables e below (T13.setTop (mkF m 42 #[.val (.int p0), .unset, .unset, .unset] [(.ref b1), (.ref b1)])) _
    refine XS.bipush X13.here hx rfl (hb hby at_42) ?_
    show Steps p.tables e below (T13.setTop (mkF m 44 #[.val (.int p0), .unset, .unset, .unset] [(.int (6 : Int32)), (.ref b1), (.ref b1)])) _
    refine st14 _ ?_
    show Steps p.tables e below (T14.setTop (mkF m 47 #[.val (.int p0), .unset, .unset, .unset] [(.ref w_JUMP_LIMIT), (.int (6 : Int32)), (.ref b1), (.ref b1)])) _
    refine st15 _ ?_
    show Steps p.tables e below (T15.setTop (mkF m 48 #[.val (.int p0), .unset, .unset, .unset] [(.ref b1)])) _
    refine XS.astoreN X15.here hx rfl (hb hby at_48) rfl rfl (l' := #[.val (.int p0), .val (.ref b1), .unset, .unset]) rfl ?_
    show Steps p.tables e below (T15.setTop (mkF m 49 #[.val (.int p0), .val (.ref b1), .unset, .unset] [])) _
    refine XS.iloadN X15.here hx rfl (hb hby at_49) rfl ?_
    show Steps p.tables e below (T15.setTop (mkF m 50 #[.val (.int p0), .val (.ref b1), .unset, .unset] [(.int p0)])) _
    refine X15.ldcInt hx hown (mvT hZ (hw _ (List.mem_of_getElem? (i := 18) rfl))) (g := (mkF m 50 #[.val (.int p0), .val (.ref b1), .unset, .unset] [(.int p0)])) rfl (hb hby at_50) _ ?_
    show Steps p.tables e below (T15.setTop (mkF m 52 #[.val (.int p0), .val (.ref b1), .unset, .unset] [(.int (2147483647 : Int32)), (.int p0)])) _
    refine XS.iand X15.here hx rfl (hb hby at_52) rfl ?_
    show Steps p.tables e below (T15.setTop (mkF m 53 #[.val (.int p0), .val (.ref b1), .unset, .unset] [(.int (p0 &&& (2147483647 : Int32)))])) _
    refine XS.bipush X15.here hx rfl (hb hby at_53) ?_
    show Steps p.tables e below (T15.setTop (mkF m 55 #[.val (.int p0), .val (.ref b1), .unset, .unset] [(.int (7 : Int32)), (.int (p0 &&& (2147483647 : Int32)))])) _
    refine iremM X15 hx rfl (hb hby at_55) rfl (by decide) ?_
    show Steps p.tables e below (T15.setTop (mkF m 56 #[.val (.int p0), .val (.ref b1), .unset, .unset] [(.int ((p0 &&& (2147483647 : Int32)) % (7 : Int32)))])) _
    rw [hi4]
    show Steps p.tables e below (T15.setTop (mkF m 56 #[.val (.int p0), .val (.ref b1), .unset, .unset] [(.int (4 : Int32))])) _
    refine XS.istoreN X15.here hx rfl (hb hby at_56) rfl (l' := #[.val (.int p0), .val (.ref b1), .val (.int (4 : Int32)), .unset]) rfl ?_
    show Steps p.tables e below (T15.setTop (mkF m 57 #[.val (.int p0), .val (.ref b1), .val (.int (4 : Int32)), .unset] [])) _
    refine XS.iloadN X15.here hx rfl (hb hby at_57) rfl ?_
    show Steps p.tables e below (T15.setTop (mkF m 58 #[.val (.int p0), .val (.ref b1), .val (.int (4 : Int32)), .unset] [(.int (4 : Int32))])) _
    refine XS.iconst X15.here hx rfl (hb hby at_58) ?_
    show Steps p.tables e below (T15.setTop (mkF m 59 #[.val (.int p0), .val (.ref b1), .val (.int (4 : Int32)), .unset] [(.int (1 : Int32)), (.int (4 : Int32))])) _
    refine XS.icmpNo X15.here hx rfl (hb hby at_59) rfl (feq (by decide : ¬ ((4 : Int32) = (1 : Int32)))).1 ?_
    show Steps p.tables e below (T15.setTop (mkF m 62 #[.val (.int p0), .val (.ref b1), .val (.int (4 : Int32)), .unset] [])) _
    refine XS.iloadN X15.here hx rfl (hb hby at_62) rfl ?_
    show Steps p.tables e below (T15.setTop (mkF m 63 #[.val (.int p0), .val (.ref b1), .val (.int (4 : Int32)), .unset] [(.int (4 : Int32))])) _
    refine XS.iconst X15.here hx rfl (hb hby at_63) ?_
    show Steps p.tables e below (T15.setTop (mkF m 64 #[.val (.int p0), .val (.ref b1), .val (.int (4 : Int32)), .unset] [(.int (2 : Int32)), (.int (4 : Int32))])) _
    refine XS.icmpYes X15.here hx rfl (pc0 := 64) (pc' := 71) rfl (hb hby at_64) rfl (feq (by decide : ¬ ((4 : Int32) = (2 : Int32)))).2 (by decide) (by decide) ?_
    show Steps p.tables e below (T15.setTop (mkF m 71 #[.val (.int p0), .val (.ref b1), .val (.int (4 : Int32)), .unset] [])) _
    refine XS.iconst X15.here hx rfl (hb hby at_71) ?_
    show Steps p.tables e below (T15.setTop (mkF m 72 #[.val (.int p0), .val (.ref b1), .val (.int (4 : Int32)), .unset] [(.int (0 : Int32))])) _
    refine XS.istoreN X15.here hx rfl (hb hby at_72) rfl (l' := #[.val (.int p0), .val (.ref b1), .val (.int (4 : Int32)), .val (.int (0 : Int32))]) rfl ?_
    show Steps p.tables e below (T15.setTop (mkF m 73 #[.val (.int p0), .val (.ref b1), .val (.int (4 : Int32)), .val (.int (0 : Int32))] [])) _
    refine XS.aloadN X15.here hx rfl (hb hby at_73) rfl rfl ?_
    show Steps p.tables e below (T15.setTop (mkF m 74 #[.val (.int p0), .val (.ref b1), .val (.int (4 : Int32)), .val (.int (0 : Int32))] [(.ref b1)])) _
    refine XS.iloadN X15.here hx rfl (hb hby at_74) rfl ?_
    show Steps p.tables e below (T15.setTop (mkF m 75 #[.val (.int p0), .val (.ref b1), .val (.int (4 : Int32)), .val (.int (0 : Int32))] [(.int (4 : Int32)), (.ref b1)])) _
    refine X15.aaload hx (j := (4 : Int32)) (v := (.ref w_INVALID_ANSWER)) (by rw [e15]; exact Ar16.1) (State.isArrayOf_alike hZ.alike Ar16.2.1) rfl Ar16.2.2 hin16 hat16 (g := (mkF m 75 #[.val (.int p0), .val (.ref b1), .val (.int (4 : Int32)), .val (.int (0 : Int32))] [(.int (4 : Int32)), (.ref b1)])) rfl rfl (hb hby at_75) _ ?_
    show Steps p.tables e below (T15.setTop (mkF m 76 #[.val (.int p0), .val (.ref b1), .val (.int (4 : Int32)), .val (.int (0 : Int32))] [(.ref w_INVALID_ANSWER)])) _
    refine st17.trans ?_
    show Steps p.tables e below (T17.setTop (mkF m 79 #[.val (.int p0), .val (.ref b1), .val (.int (4 : Int32)), .val (.int (0 : Int32))] [(.int (0 : Int32))])) _
    refine XS.iloadN X17.here hx rfl (hb hby at_79) rfl ?_
    show Steps p.tables e below (T17.setTop (mkF m 80 #[.val (.int p0), .val (.ref b1), .val (.int (4 : Int32)), .val (.int (0 : Int32))] [(.int (0 : Int32)), (.int (0 : Int32))])) _
    refine XS.icmpNo X17.here hx rfl (hb hby at_80) rfl (teq (by decide : (0 : Int32) = (0 : Int32))).2 ?_
    show Steps p.tables e below (T17.setTop (mkF m 83 #[.val (.int p0), .val (.ref b1), .val (.int (4 : Int32)), .val (.int (0 : Int32))] [])) _
    refine XS.iconst X17.here hx rfl (hb hby at_83) ?_
    show Steps p.tables e below (T17.setTop (mkF m 84 #[.val (.int p0), .val (.ref b1), .val (.int (4 : Int32)), .val (.int (0 : Int32))] [(.int (1 : Int32))])) _
    refine XS.goto X17.here hx rfl (pc0 := 84) (pc' := 88) rfl (hb hby at_84) (by decide) (by decide) ?_
    show Steps p.tables e below (T17.setTop (mkF m 88 #[.val (.int p0), .val (.ref b1), .val (.int (4 : Int32)), .val (.int (0 : Int32))] [(.int (1 : Int32))])) _
    exact retOut X17 hx Bd.returns rfl (Or.inl ⟨rfl, Or.inr (Or.inl rfl), _, rfl⟩) (hb hby at_88) hr
  · exact ⟨rfl, N17⟩
set_option maxRecDepth 65536 in
set_option maxHeartbeats 40000000 in
theorem c1_5 (l : Launch) (Z : State) (a0 : Array Value) (hw : ∀ d ∈ tables_1, d.before a0 Z = true) (ws : List Jvm.Cond) (w_REFUSAL : Addr) (w_TRANSIENT : Addr) (w_TIMEOUT : Addr) (w_INVALID_CALL : Addr) (w_INVALID_ANSWER : Addr) (w_CONTEXT_TOO_LARGE : Addr) (w_JUMP_LIMIT : Addr) (h0 : Heap) (n0 : Nat) (Z0 : n0 ≤ h0.size) (G : Glob Z h0 w_REFUSAL w_TRANSIENT w_TIMEOUT w_INVALID_CALL w_INVALID_ANSWER w_CONTEXT_TOO_LARGE w_JUMP_LIMIT)  :
    MetFree l (⟨"com/example/lungfish/lungfish/engine/FailureKind", "isRetryable", "()Z"⟩ : MethodName) (head1 (Jvm.Cond.code (⟨"com/example/lungfish/lungfish/engine/FailureKind", "isRetryable", "()Z"⟩ : MethodName) prog_10_method_5_code 1 (some .boolean) :: ws) ({ frames := 0, cells := 0, slots := 0, locals := 0 } : Room)) (fun a U => a = #[(.ref w_CONTEXT_TOO_LARGE)] ∧ Z.Warmed39 U.vm ∧ U.heap = h0) (fun _ _ _ _ _ => True) (fun _ U o U' => ∃ v L, o = .returned v ∧ QR (some (.int (0 : Int32))) h0 n0 v U'.heap L ∧ FrameEnd U o U' L ({ frames := 0, cells := 0, slots := 0, locals := 0 } : Room).cells ({ frames := 0, cells := 0, slots := 0, locals := 0 } : Room).slots) := by
  refine MetFree.of_bodySF (plainFor_of_name pn_com_example_lungfish_lungfish_engine_FailureKind) hisR ?_
  intro p e s m args below meth c s₁ Bd hml0 hP hK
  obtain ⟨rfl, hZ, hh⟩ := hP
  have hx := Bd.exec
  have hby := Bd.bytes
  have hml : c.maxLocals = 1 := hml0
  have hown : s.vm.findClass "com/example/lungfish/lungfish/engine/FailureKind" = some m.cls := findClass_of_methodNamed Bd.named
  have X0 : Stand p l e ({ frames := 0, cells := 0, slots := 0, locals := 0 } : Room) s m #[(.ref w_CONTEXT_TOO_LARGE)] below meth c s₁ [] 0 0 := Stand.of_body Bd
  have e0 : s₁.heap = h0 := by rw [← hh, Bd.state]; rfl
  have N0 := Fr.nil n0
  have pre0 : ∀ t, Steps p.tables e below (s₁.setTop (mkF m 0 #[.val (.ref w_CONTEXT_TOO_LARGE)] [])) t → Steps p.tables e below (s₁.setTop (entryFrame m #[(.ref w_CONTEXT_TOO_LARGE)] 1)) t := fun t k => castTop (ef_1_R m w_CONTEXT_TOO_LARGE) k
  have G' := G
  obtain ⟨S_w_REFUSAL, E_w_REFUSAL, S_w_TRANSIENT, E_w_TRANSIENT, S_w_TIMEOUT, E_w_TIMEOUT, S_w_INVALID_CALL, E_w_INVALID_CALL, S_w_INVALID_ANSWER, E_w_INVALID_ANSWER, S_w_CONTEXT_TOO_LARGE, E_w_CONTEXT_TOO_LARGE, S_w_JUMP_LIMIT, E_w_JUMP_LIMIT, F_ordinal_w_REFUSAL, F_ordinal_w_TRANSIENT, F_ordinal_w_TIMEOUT, F_ordinal_w_INVALID_CALL, F_ordinal_w_CONTEXT_TOO_LARGE, F_ordinal_w_JUMP_LIMIT, F_ordinal_w_INVALID_ANSWER⟩ := G'
  obtain ⟨T1, X1, e1, st1⟩ := getS2 X0 hx hZ hown (host := "") (Or.inl (hw _ (List.mem_of_getElem? (i := 24) rfl))) Via.refl e0 S_w_TRANSIENT (g := (mkF m 1 #[.val (.ref w_CONTEXT_TOO_LARGE)] [(.ref w_CONTEXT_TOO_LARGE)])) rfl (hb hby d1_1)
  obtain ⟨T2, X2, e2, st2⟩ := getS2 X1 hx hZ hown (host := "") (Or.inl (hw _ (List.mem_of_getElem? (i := 25) rfl))) Via.refl e1 S_w_TIMEOUT (g := (mkF m 8 #[.val (.ref w_CONTEXT_TOO_LARGE)] [(.ref w_CONTEXT_TOO_LARGE)])) rfl (hb hby d1_8)
  obtain ⟨fs, hr, hrun, hended, hW, hsame⟩ := X2.leave (v := some (.int (0 : Int32))) (fun h => by rw [Bd.returns] at h; cases h)
  refine ⟨_, _, pre0 _ ?_, hrun, hended, _, _, rfl, ?_, ⟨_, rfl⟩, hW, hsame.mono (by decide) (by decide)⟩
  · show Steps p.tables e below (s₁.setTop (mkF m 0 #[.val (.ref w_CONTEXT_TOO_LARGE)] [])) _
    refine XS.aloadN X0.here hx rfl (hb hby d1_0) rfl rfl ?_
    show Steps p.tables e below (s₁.setTop (mkF m 1 #[.val (.ref w_CONTEXT_TOO_LARGE)] [(.ref w_CONTEXT_TOO_LARGE)])) _
    refine st1 _ ?_
    show Steps p.tables e below (T1.setTop (mkF m 4 #[.val (.ref w_CONTEXT_TOO_LARGE)] [(.ref w_TRANSIENT), (.ref w_CONTEXT_TOO_LARGE)])) _
    refine Jvm.RoadKit.acmp (g := (mkF m 4 #[.val (.ref w_CONTEXT_TOO_LARGE)] [(.ref w_TRANSIENT), (.ref w_CONTEXT_TOO_LARGE)])) X1 hx rfl rfl rfl (pc0 := 4) (pc' := 7) (same := false) rfl (hb hby d1_4) rfl (decide_eq_false fun q => (Fld.ne F_ordinal_w_CONTEXT_TOO_LARGE F_ordinal_w_TRANSIENT (by decide)) (Value.ref.inj q)) (by decide) (by decide) ?_
    show Steps p.tables e below (T1.setTop (mkF m 7 #[.val (.ref w_CONTEXT_TOO_LARGE)] [])) _
    refine XS.aloadN X1.here hx rfl (hb hby d1_7) rfl rfl ?_
    show Steps p.tables e below (T1.setTop (mkF m 8 #[.val (.ref w_CONTEXT_TOO_LARGE)] [(.ref w_CONTEXT_TOO_LARGE)])) _
    refine st2 _ ?_
    show Steps p.tables e below (T2.setTop (mkF m 11 #[.val (.ref w_CONTEXT_TOO_LARGE)] [(.ref w_TIMEOUT), (.ref w_CONTEXT_TOO_LARGE)])) _
    refine Jvm.RoadKit.acmp (g := (mkF m 11 #[.val (.ref w_CONTEXT_TOO_LARGE)] [(.ref w_TIMEOUT), (.ref w_CONTEXT_TOO_LARGE)])) X2 hx rfl rfl rfl (pc0 := 11) (pc' := 18) (same := false) rfl (hb hby d1_11) rfl (decide_eq_false fun q => (Fld.ne F_ordinal_w_CONTEXT_TOO_LARGE F_ordinal_w_TIMEOUT (by decide)) (Value.ref.inj q)) (by decide) (by decide) ?_
    show Steps p.tables e below (T2.setTop (mkF m 18 #[.val (.ref w_CONTEXT_TOO_LARGE)] [])) _
    refine XS.iconst X2.here hx rfl (hb hby d1_18) ?_
    show Steps p.tables e below (T2.setTop (mkF m 19 #[.val (.ref w_CONTEXT_TOO_LARGE)] [(.int (0 : Int32))])) _
    exact retOut X2 hx Bd.returns rfl (Or.inl ⟨rfl, Or.inr (Or.inl rfl), _, rfl⟩) (hb hby d1_19) hr
  · show QR _ h0 n0 _ T2.heap _
    rw [e2]
    exact ⟨rfl, N0, rfl⟩
set_option maxRecDepth 65536 in
set_option maxHeartbeats 40000000 in
theorem law_5 (l : Launch) (Z : State) (a0 : Array Value) (hw : ∀ d ∈ tables_1, d.before a0 Z = true) (ws : List Jvm.Cond) (w_REFUSAL : Addr) (w_TRANSIENT : Addr) (w_TIMEOUT : Addr) (w_INVALID_CALL : Addr) (w_INVALID_ANSWER : Addr) (w_CONTEXT_TOO_LARGE : Addr) (w_JUMP_LIMIT : Addr) (h0 : Heap) (n0 : Nat) (Z0 : n0 ≤ h0.size) (G : Glob Z h0 w_REFUSAL w_TRANSIENT w_TIMEOUT w_INVALID_CALL w_INVALID_ANSWER w_CONTEXT_TOO_LARGE w_JUMP_LIMIT) (p0 : Int32) (hi5 : ((p0 &&& (2147483647 : Int32)) % (7 : Int32)) = (5 : Int32)) :
    MetFree l x (head1 (Jvm.Cond.code x code maxLocals ret :: ws) room_1) (fun a U => a = #[(.int p0)] ∧ Z.Warmed39 U.vm ∧ U.heap = h0) (fun _ _ _ _ _ => True) (fun _ U o U' => ∃ v L, o = .returned v ∧ QL (some (.int (1 : Int32))) h0 n0 v U'.heap L ∧ FrameEnd U o U' L room_1.cells room_1.slots) := by
  refine MetFree.of_bodySF (plainFor_of_name pn_com_example_lungfish_lungfish_engine_FailureKindIsRetryablePinLaw) hisR ?_
  intro p e s m args below meth c s₁ Bd hml0 hP hK
  obtain ⟨rfl, hZ, hh⟩ := hP
  have hx := Bd.exec
  have hby := Bd.bytes
  have hml : c.maxLocals = 4 := hml0
  have hown : s.vm.findClass "com/example/lungfish/lungfish/engine/FailureKindIsRetryablePinLaw" = some m.cls := findClass_of_methodNamed Bd.named
  have X0 : Stand p l e room_1 s m #[(.int p0)] below meth c s₁ [] 0 0 := Stand.of_body Bd
  have e0 : s₁.heap = h0 := by rw [← hh, Bd.state]; rfl
  have N0 := Fr.nil n0
  have pre0 : ∀ t, Steps p.tables e below (s₁.setTop (mkF m 0 #[.val (.int p0), .unset, .unset, .unset] [])) t → Steps p.tables e below (s₁.setTop (entryFrame m #[(.int p0)] maxLocals)) t := fun t k => castTop (ef_0_I m p0) k
  have G' := G
  obtain ⟨S_w_REFUSAL, E_w_REFUSAL, S_w_TRANSIENT, E_w_TRANSIENT, S_w_TIMEOUT, E_w_TIMEOUT, S_w_INVALID_CALL, E_w_INVALID_CALL, S_w_INVALID_ANSWER, E_w_INVALID_ANSWER, S_w_CONTEXT_TOO_LARGE, E_w_CONTEXT_TOO_LARGE, S_w_JUMP_LIMIT, E_w_JUMP_LIMIT, F_ordinal_w_REFUSAL, F_ordinal_w_TRANSIENT, F_ordinal_w_TIMEOUT, F_ordinal_w_INVALID_CALL, F_ordinal_w_CONTEXT_TOO_LARGE, F_ordinal_w_JUMP_LIMIT, F_ordinal_w_INVALID_ANSWER⟩ := G'
  obtain ⟨T1, h1, k1, X1, e1, E1, A1, O1, st1⟩ := newR X0 hx hZ hown (hw _ (List.mem_of_getElem? (i := 0) rfl)) (hw _ (List.mem_of_getElem? (i := 1) rfl)) e0 (g := (mkF m 2 #[.val (.int p0), .unset, .unset, .unset] [(.int (7 : Int32))])) rfl (hb hby at_2) rfl (by decide) (cap := 7) (by decide) (by decide) (by decide) (by decide)
  obtain ⟨b1, g1⟩ : ∃ z, z = h0.size := ⟨_, rfl⟩
  rw [← g1] at A1 st1
  have V1 : Arv Z h1 b1 k1 (.object "com/example/lungfish/lungfish/engine/FailureKind") (7 : Int32) [.null, .null, .null, .null, .null, .null, .null] .null := (Arv.new A1 (by decide)).pad (pad_rep [] .null 7)
  have K1 : Keep h0 h1 [] := (Keep.refl h0 []).ext E1
  have sz_b1 : h0.size ≤ b1 := Nat.le_of_eq g1.symm
  have g_b1 : n0 ≤ b1 := Nat.le_trans Z0 sz_b1
  obtain ⟨T2, X2, e2, st2⟩ := getS2 X1 hx hZ hown (host := "") (Or.inl (hw _ (List.mem_of_getElem? (i := 2) rfl))) Via.refl e1 (own_sta_keep S_w_REFUSAL K1) (g := (mkF m 7 #[.val (.int p0), .unset, .unset, .unset] [(.int (0 : Int32)), (.ref b1), (.ref b1)])) rfl (hb hby at_7)
  obtain ⟨cl3, Ar3, q3, s3, m3, H3, F3⟩ := V1
  have hin3 : ¬ ((0 : Int32) < 0 ∨ cl3.slots.size ≤ ((0 : Int32)).toNatClampNeg) := inb_of s3 ⟨by decide, by decide⟩
  have sto3 : Sto Z h1 b1 (.ref w_REFUSAL) := Sto.ofV Ar3 q3 O1 (Ins.of_exa (E_w_REFUSAL.keep K1) (hw _ (List.mem_of_getElem? (i := 5) rfl)))
  obtain ⟨T3, h3, X3, e3, W3, st3⟩ := stR X2 hx hZ e2 Ar3 (j := (0 : Int32)) hin3 rfl sto3 (g := (mkF m 10 #[.val (.int p0), .unset, .unset, .unset] [(.ref w_REFUSAL), (.int (0 : Int32)), (.ref b1), (.ref b1)])) rfl rfl (hb hby at_10)
  have V3 : Arv Z h3 b1 k1 (.object "com/example/lungfish/lungfish/engine/FailureKind") (7 : Int32) [(.ref w_REFUSAL), .null, .null, .null, .null, .null, .null] .null := Arv.set Ar3 q3 s3 m3 H3 F3 rfl W3 0 rfl (Nat.le_of_ble_eq_true rfl)
  have K3 : Keep h0 h3 [] := K1.wr W3 (Or.inr sz_b1)
  have N3 := Fr.snoc X3 N0 g_b1
  obtain ⟨T4, X4, e4, st4⟩ := getS2 X3 hx hZ hown (host := "") (Or.inl (hw _ (List.mem_of_getElem? (i := 6) rfl))) Via.refl e3 (own_sta_keep S_w_TRANSIENT K3) (g := (mkF m 13 #[.val (.int p0), .unset, .unset, .unset] [(.int (1 : Int32)), (.ref b1), (.ref b1)])) rfl (hb hby at_13)
  obtain ⟨cl5, Ar5, q5, s5, m5, H5, F5⟩ := V3
  have hin5 : ¬ ((1 : Int32) < 0 ∨ cl5.slots.size ≤ ((1 : Int32)).toNatClampNeg) := inb_of s5 ⟨by decide, by decide⟩
  have sto5 : Sto Z h3 b1 (.ref w_TRANSIENT) := Sto.ofV Ar5 q5 O1 (Ins.of_exa (E_w_TRANSIENT.keep K3) (hw _ (List.mem_of_getElem? (i := 5) rfl)))
  obtain ⟨T5, h5, X5, e5, W5, st5⟩ := stR X4 hx hZ e4 Ar5 (j := (1 : Int32)) hin5 rfl sto5 (g := (mkF m 16 #[.val (.int p0), .unset, .unset, .unset] [(.ref w_TRANSIENT), (.int (1 : Int32)), (.ref b1), (.ref b1)])) rfl rfl (hb hby at_16)
  have V5 : Arv Z h5 b1 k1 (.object "com/example/lungfish/lungfish/engine/FailureKind") (7 : Int32) [(.ref w_REFUSAL), (.ref w_TRANSIENT), .null, .null, .null, .null, .null] .null := Arv.set Ar5 q5 s5 m5 H5 F5 rfl W5 1 rfl (Nat.le_of_ble_eq_true rfl)
  have K5 : Keep h0 h5 [] := K3.wr W5 (Or.inr sz_b1)
  have N5 := Fr.snoc X5 N3 g_b1
  obtain ⟨T6, X6, e6, st6⟩ := getS2 X5 hx hZ hown (host := "") (Or.inl (hw _ (List.mem_of_getElem? (i := 8) rfl))) Via.refl e5 (own_sta_keep S_w_TIMEOUT K5) (g := (mkF m 19 #[.val (.int p0), .unset, .unset, .unset] [(.int (2 : Int32)), (.ref b1), (.ref b1)])) rfl (hb hby at_19)
  obtain ⟨cl7, Ar7, q7, s7, m7, H7, F7⟩ := V5
  have hin7 : ¬ ((2 : Int32) < 0 ∨ cl7.slots.size ≤ ((2 : Int32)).toNatClampNeg) := inb_of s7 ⟨by decide, by decide⟩
  have sto7 : Sto Z h5 b1 (.ref w_TIMEOUT) := Sto.ofV Ar7 q7 O1 (Ins.of_exa (E_w_TIMEOUT.keep K5) (hw _ (List.mem_of_getElem? (i := 5) rfl)))
  obtain ⟨T7, h7, X7, e7, W7, st7⟩ := stR X6 hx hZ e6 Ar7 (j := (2 : Int32)) hin7 rfl sto7 (g := (mkF m 22 #[.val (.int p0), .unset, .unset, .unset] [(.ref w_TIMEOUT), (.int (2 : Int32)), (.ref b1), (.ref b1)])) rfl rfl (hb hby at_22)
  have V7 : Arv Z h7 b1 k1 (.object "com/example/lungfish/lungfish/engine/FailureKind") (7 : Int32) [(.ref w_REFUSAL), (.ref w_TRANSIENT), (.ref w_TIMEOUT), .null, .null, .null, .null] .null := Arv.set Ar7 q7 s7 m7 H7 F7 rfl W7 2 rfl (Nat.le_of_ble_eq_true rfl)
  have K7 : Keep h0 h7 [] := K5.wr W7 (Or.inr sz_b1)
  have N7 := Fr.snoc X7 N5 g_b1
  obtain ⟨T8, X8, e8, st8⟩ := getS2 X7 hx hZ hown (host := "") (Or.inl (hw _ (List.mem_of_getElem? (i := 10) rfl))) Via.refl e7 (own_sta_keep S_w_INVALID_CALL K7) (g := (mkF m 25 #[.val (.int p0), .unset, .unset, .unset] [(.int (3 : Int32)), (.ref b1), (.ref b1)])) rfl (hb hby at_25)
  obtain ⟨cl9, Ar9, q9, s9, m9, H9, F9⟩ := V7
  have hin9 : ¬ ((3 : Int32) < 0 ∨ cl9.slots.size ≤ ((3 : Int32)).toNatClampNeg) := inb_of s9 ⟨by decide, by decide⟩
  have sto9 : Sto Z h7 b1 (.ref w_INVALID_CALL) := Sto.ofV Ar9 q9 O1 (Ins.of_exa (E_w_INVALID_CALL.keep K7) (hw _ (List.mem_of_getElem? (i := 5) rfl)))
  obtain ⟨T9, h9, X9, e9, W9, st9⟩ := stR X8 hx hZ e8 Ar9 (j := (3 : Int32)) hin9 rfl sto9 (g := (mkF m 28 #[.val (.int p0), .unset, .unset, .unset] [(.ref w_INVALID_CALL), (.int (3 : Int32)), (.ref b1), (.ref b1)])) rfl rfl (hb hby at_28)
  have V9 : Arv Z h9 b1 k1 (.object "com/example/lungfish/lungfish/engine/FailureKind") (7 : Int32) [(.ref w_REFUSAL), (.ref w_TRANSIENT), (.ref w_TIMEOUT), (.ref w_INVALID_CALL), .null, .null, .null] .null := Arv.set Ar9 q9 s9 m9 H9 F9 rfl W9 3 rfl (Nat.le_of_ble_eq_true rfl)
  have K9 : Keep h0 h9 [] := K7.wr W9 (Or.inr sz_b1)
  have N9 := Fr.snoc X9 N7 g_b1
  obtain ⟨T10, X10, e10, st10⟩ := getS2 X9 hx hZ hown (host := "") (Or.inl (hw _ (List.mem_of_getElem? (i := 12) rfl))) Via.refl e9 (own_sta_keep S_w_INVALID_ANSWER K9) (g := (mkF m 31 #[.val (.int p0), .unset, .unset, .unset] [(.int (4 : Int32)), (.ref b1), (.ref b1)])) rfl (hb hby at_31)
  obtain ⟨cl11, Ar11, q11, s11, m11, H11, F11⟩ := V9
  have hin11 : ¬ ((4 : Int32) < 0 ∨ cl11.slots.size ≤ ((4 : Int32)).toNatClampNeg) := inb_of s11 ⟨by decide, by decide⟩
  have sto11 : Sto Z h9 b1 (.ref w_INVALID_ANSWER) := Sto.ofV Ar11 q11 O1 (Ins.of_exa (E_w_INVALID_ANSWER.keep K9) (hw _ (List.mem_of_getElem? (i := 5) rfl)))
  obtain ⟨T11, h11, X11, e11, W11, st11⟩ := stR X10 hx hZ e10 Ar11 (j := (4 : Int32)) hin11 rfl sto11 (g := (mkF m 34 #[.val (.int p0), .unset, .unset, .unset] [(.ref w_INVALID_ANSWER), (.int (4 : Int32)), (.ref b1), (.ref b1)])) rfl rfl (hb hby at_34)
  have V11 : Arv Z h11 b1 k1 (.object "com/example/lungfish/lungfish/engine/FailureKind") (7 : Int32) [(.ref w_REFUSAL), (.ref w_TRANSIENT), (.ref w_TIMEOUT), (.ref w_INVALID_CALL), (.ref w_INVALID_ANSWER), .null, .null] .null := Arv.set Ar11 q11 s11 m11 H11 F11 rfl W11 4 rfl (Nat.le_of_ble_eq_true rfl)
  have K11 : Keep h0 h11 [] := K9.wr W11 (Or.inr sz_b1)
  have N11 := Fr.snoc X11 N9 g_b1
  obtain ⟨T12, X12, e12, st12⟩ := getS2 X11 hx hZ hown (host := "") (Or.inl (hw _ (List.mem_of_getElem? (i := 14) rfl))) Via.refl e11 (own_sta_keep S_w_CONTEXT_TOO_LARGE K11) (g := (mkF m 37 #[.val (.int p0), .unset, .unset, .unset] [(.int (5 : Int32)), (.ref b1), (.ref b1)])) rfl (hb hby at_37)
  obtain ⟨cl13, Ar13, q13, s13, m13, H13, F13⟩ := V11
  have hin13 : ¬ ((5 : Int32) < 0 ∨ cl13.slots.size ≤ ((5 : Int32)).toNatClampNeg) := inb_of s13 ⟨by decide, by decide⟩
  have sto13 : Sto Z h11 b1 (.ref w_CONTEXT_TOO_LARGE) := Sto.ofV Ar13 q13 O1 (Ins.of_exa (E_w_CONTEXT_TOO_LARGE.keep K11) (hw _ (List.mem_of_getElem? (i := 5) rfl)))
  obtain ⟨T13, h13, X13, e13, W13, st13⟩ := stR X12 hx hZ e12 Ar13 (j := (5 : Int32)) hin13 rfl sto13 (g := (mkF m 40 #[.val (.int p0), .unset, .unset, .unset] [(.ref w_CONTEXT_TOO_LARGE), (.int (5 : Int32)), (.ref b1), (.ref b1)])) rfl rfl (hb hby at_40)
  have V13 : Arv Z h13 b1 k1 (.object "com/example/lungfish/lungfish/engine/FailureKind") (7 : Int32) [(.ref w_REFUSAL), (.ref w_TRANSIENT), (.ref w_TIMEOUT), (.ref w_INVALID_CALL), (.ref w_INVALID_ANSWER), (.ref w_CONTEXT_TOO_LARGE), .null] .null := Arv.set Ar13 q13 s13 m13 H13 F13 rfl W13 5 rfl (Nat.le_of_ble_eq_true rfl)
  have K13 : Keep h0 h13 [] := K11.wr W13 (Or.inr sz_b1)
  have N13 := Fr.snoc X13 N11 g_b1
  obtain ⟨T14, X14, e14, st14⟩ := getS2 X13 hx hZ hown (host := "") (Or.inl (hw _ (List.mem_of_getElem? (i := 16) rfl))) Via.refl e13 (own_sta_keep S_w_JUMP_LIMIT K13) (g := (mkF m 44 #[.val (.int p0), .unset, .unset, .unset] [(.int (6 : Int32)), (.ref b1), (.ref b1)])) rfl (hb hby at_44)
  obtain ⟨cl15, Ar15, q15, s15, m15, H15, F15⟩ := V13
  have hin15 : ¬ ((6 : Int32) < 0 ∨ cl15.slots.size ≤ ((6 : Int32)).toNatClampNeg) := inb_of s15 ⟨by decide, by decide⟩
  have sto15 : Sto Z h13 b1 (.ref w_JUMP_LIMIT) := Sto.ofV Ar15 q15 O1 (Ins.of_exa (E_w_JUMP_LIMIT.keep K13) (hw _ (List.mem_of_getElem? (i := 5) rfl)))
  obtain ⟨T15, h15, X15, e15, W15, st15⟩ := stR X14 hx hZ e14 Ar15 (j := (6 : Int32)) hin15 rfl sto15 (g := (mkF m 47 #[.val (.int p0), .unset, .unset, .unset] [(.ref w_JUMP_LIMIT), (.int (6 : Int32)), (.ref b1), (.ref b1)])) rfl rfl (hb hby at_47)
  have V15 : Arv Z h15 b1 k1 (.object "com/example/lungfish/lungfish/engine/FailureKind") (7 : Int32) [(.ref w_REFUSAL), (.ref w_TRANSIENT), (.ref w_TIMEOUT), (.ref w_INVALID_CALL), (.ref w_INVALID_ANSWER), (.ref w_CONTEXT_TOO_LARGE), (.ref w_JUMP_LIMIT)] .null := Arv.set Ar15 q15 s15 m15 H15 F15 rfl W15 6 rfl (Nat.le_of_ble_eq_true rfl)
  have K15 : Keep h0 h15 [] := K13.wr W15 (Or.inr sz_b1)
  have N15 := Fr.snoc X15 N13 g_b1
  obtain ⟨cl16, Ar16, q16, s16, m16, H16, F16⟩ := V15
  have hin16 : ¬ ((5 : Int32) < 0 ∨ cl16.slots.size ≤ ((5 : Int32)).toNatClampNeg) := inb_of s16 ⟨by decide, by decide⟩
  have hat16 : cl16.slots[((5 : Int32)).toNatClampNeg]? = some (.ref w_CONTEXT_TOO_LARGE) := H16.at hin16 rfl
  obtain ⟨cq17, kq17, q17a, q17b, q17c⟩ := isOf hZ e15 (E_w_CONTEXT_TOO_LARGE.keep K15)
  obtain ⟨_, _, ⟨T17, L17, k17, n17⟩, -, X17, ⟨Lc17, hQ17, l17, y17, z17⟩, st17⟩ := X15.virtualBack hx (y := (⟨"com/example/lungfish/lungfish/engine/FailureKind", "isRetryable", "()Z"⟩ : MethodName)) (z := (⟨"com/example/lungfish/lungfish/engine/FailureKind", "isRetryable", "()Z"⟩ : MethodName)) hown (mvT hZ (hw _ (List.mem_of_getElem? (i := 19) rfl))) (mvT hZ (hw _ (List.mem_of_getElem? (i := 20) rfl))) (notFace_of_selects (args := #[]) (mvT hZ (hw _ (List.mem_of_getElem? (i := 22) rfl)))) (mvT hZ (hw _ (List.mem_of_getElem? (i := 22) rfl))) (mvT hZ (hw _ (List.mem_of_getElem? (i := 21) rfl))) (by decide) (backOf (W := 0) (c1_5 l Z a0 hw [] w_REFUSAL w_TRANSIENT w_TIMEOUT w_INVALID_CALL w_INVALID_ANSWER w_CONTEXT_TOO_LARGE w_JUMP_LIMIT h15 n0 (Nat.le_trans Z0 K15.1) (G.keep K15)) hZ (hw _ (List.mem_of_getElem? (i := 23) rfl)) (hw _ (List.mem_of_getElem? (i := 3) rfl)) (by decide) (by decide)) q17a q17c (g := (mkF m 76 #[.val (.int p0), .val (.ref b1), .val (.int (5 : Int32)), .val (.int (0 : Int32))] [(.ref w_CONTEXT_TOO_LARGE)])) rfl (by rw [hml]; rfl) (Steps.refl _) (argsL := []) (rest := []) (lenOf pd___Z rfl) rfl (by show 2 * 0 + _ ≤ _; exact Nat.le_of_eq rfl) (hb hby at_76) (fun _ _ => ⟨rfl, e15, (by decide : 1 + 0 ≤ _), (by decide : 7 + 0 ≤ _)⟩)
  dsimp only [Pt.U, Pt.locs, Pt.cells, Pt.slots] at X17 l17 y17 z17 st17 hQ17
  subst l17 y17 z17
  obtain ⟨rfl, N17q, e17⟩ := hQ17
  have N17 := Fr.app N15 N17q
  obtain ⟨fs, hr, hrun, hended, hW, hsame⟩ := X17.leave (v := some (.int (1 : Int32))) (fun h => by rw [Bd.returns] at h; cases h)
  refine ⟨_, _, pre0 _ ?_, hrun, hended, _, _, rfl, ?_, ⟨_, rfl⟩, hW, hsame.mono (by decide) (by decide)⟩
  · show Steps p.tables e below (s₁.setTop (mkF m 0 #[.val (.int p0), .unset, .unset, .unset] [])) _
    refine XS.bipush X0.here hx rfl (hb hby at_0) ?_
    show Steps p.tables e below (s₁.setTop (mkF m 2 #[.val (.int p0), .unset, .unset, .unset] [(.int (7 : Int32))])) _
    refine st1 _ ?_
    show Steps p.tables e below (T1.setTop (mkF m 5 #[.val (.int p0), .unset, .unset, .unset] [(.ref b1)])) _
    refine XS.dup X1.here hx rfl (hb hby at_5) rfl rfl ?_
    show Steps p.tables e below (T1.setTop (mkF m 6 #[.val (.int p0), .unset, .unset, .unset] [(.ref b1), (.ref b1)])) _
    refine XS.iconst X1.here hx rfl (hb hby at_6) ?_
    show Steps p.tables e below (T1.setTop (mkF m 7 #[.val (.int p0), .unset, .unset, .unset] [(.int (0 : Int32)), (.ref b1), (.ref b1)])) _
    refine st2 _ ?_
    show Steps p.tables e below (T2.setTop (mkF m 10 #[.val (.int p0), .unset, .unset, .unset] [(.ref w_REFUSAL), (.int (0 : Int32)), (.ref b1), (.ref b1)])) _
    refine st3 _ ?_
    show Steps p.tables e below (T3.setTop (mkF m 11 #[.val (.int p0), .unset, .unset, .unset] [(.ref b1)])) _
    refine XS.dup X3.here hx rfl (hb hby at_11) rfl rfl ?_
    show Steps p.tables e below (T3.setTop (mkF m 12 #[.val (.int p0), .unset, .unset, .unset] [(.ref b1), (.ref b1)])) _
    refine XS.iconst X3.here hx rfl (hb hby at_12) ?_
    show Steps p.tables e below (T3.setTop (mkF m 13 #[.val (.int p0), .unset, .unset, .unset] [(.int (1 : Int32)), (.ref b1), (.ref b1)])) _
    refine st4 _ ?_
    show Steps p.tables e below (T4.setTop (mkF m 16 #[.val (.int p0), .unset, .unset, .unset] [(.ref w_TRANSIENT), (.int (1 : Int32)), (.ref b1), (.ref b1)])) _
    refine st5 _ ?_
    show Steps p.tables e below (T5.setTop (mkF m 17 #[.val (.int p0), .unset, .unset, .unset] [(.ref b1)])) _
    refine XS.dup X5.here hx rfl (hb hby at_17) rfl rfl ?_
    show Steps p.tables e below (T5.setTop (mkF m 18 #[.val (.int p0), .unset, .unset, .unset] [(.ref b1), (.ref b1)])) _
    refine XS.iconst X5.here hx rfl (hb hby at_18) ?_
    show Steps p.tables e below (T5.setTop (mkF m 19 #[.val (.int p0), .unset, .unset, .unset] [(.int (2 : Int32)), (.ref b1), (.ref b1)])) _
    refine st6 _ ?_
    show Steps p.tables e below (T6.setTop (mkF m 22 #[.val (.int p0), .unset, .unset, .unset] [(.ref w_TIMEOUT), (.int (2 : Int32)), (.ref b1), (.ref b1)])) _
    refine st7 _ ?_
    show Steps p.tables e below (T7.setTop (mkF m 23 #[.val (.int p0), .unset, .unset, .unset] [(.ref b1)])) _
    refine XS.dup X7.here hx rfl (hb hby at_23) rfl rfl ?_
    show Steps p.tables e below (T7.setTop (mkF m 24 #[.val (.int p0), .unset, .unset, .unset] [(.ref b1), (.ref b1)])) _
    refine XS.iconst X7.here hx rfl (hb hby at_24) ?_
    show Steps p.tables e below (T7.setTop (mkF m 25 #[.val (.int p0), .unset, .unset, .unset] [(.int (3 : Int32)), (.ref b1), (.ref b1)])) _
    refine st8 _ ?_
    show Steps p.tables e below (T8.setTop (mkF m 28 #[.val (.int p0), .unset, .unset, .unset] [(.ref w_INVALID_CALL), (.int (3 : Int32)), (.ref b1), (.ref b1)])) _
    refine st9 _ ?_
    show Steps p.tables e below (T9.setTop (mkF m 29 #[.val (.int p0), .unset, .unset, .unset] [(.ref b1)])) _
    refine XS.dup X9.here hx rfl (hb hby at_29) rfl rfl ?_
    show Steps p.tables e below (T9.setTop (mkF m 30 #[.val (.int p0), .unset, .unset, .unset] [(.ref b1), (.ref b1)])) _
    refine XS.iconst X9.here hx rfl (hb hby at_30) ?_
    show Steps p.tables e below (T9.setTop (mkF m 31 #[.val (.int p0), .unset, .unset, .unset] [(.int (4 : Int32)), (.ref b1), (.ref b1)])) _
    refine st10 _ ?_
    show Steps p.tables e below (T10.setTop (mkF m 34 #[.val (.int p0), .unset, .unset, .unset] [(.ref w_INVALID_ANSWER), (.int (4 : Int32)), (.ref b1), (.ref b1)])) _
    refine st11 _ ?_
    show Steps p.tables e below (T11.setTop (mkF m 35 #[.val (.int p0), .unset, .unset, .unset] [(.ref b1)])) _
    refine XS.dup X11.here hx rfl (hb hby at_35) rfl rfl ?_
    show Steps p.tables e below (T11.setTop (mkF m 36 #[.val (.int p0), .unset, .unset, .unset] [(.ref b1), (.ref b1)])) _
    refine XS.iconst X11.here hx rfl (hb hby at_36) ?_
    show Steps p.tables e below (T11.setTop (mkF m 37 #[.val (.int p0), .unset, .unset, .unset] [(.int (5 : Int32)), (.ref b1), (.ref b1)])) _
    refine st12 _ ?_
    show Steps p.tables e below (T12.setTop (mkF m 40 #[.val (.int p0), .unset, .unset, .unset] [(.ref w_CONTEXT_TOO_LARGE), (.int (5 : Int32)), (.ref b1), (.ref b1)])) _
    refine st13 _ ?_
    show Steps p.tables e below (T13.setTop (mkF m 41 #[.val (.int p0), .unset, .unset, .unset] [(.ref b1)])) _
    refine XS.dup X13.here hx rfl (hb hby at_41) rfl rfl ?_
    show Steps p.tables e below (T13.setTop (mkF m 42 #[.val (.int p0), .unset, .unset, .unset] [(.ref b1), (.ref b1)])) _
    refine XS.bipush X13.here hx rfl (hb hby at_42) ?_
    show Steps p.tables e below (T13.setTop (mkF m 44 #[.val (.int p0), .unset, .unset, .unset] [(.int (6 : Int32)), (.ref b1), (.ref b1)])) _
    refine st14 _ ?_
    show Steps p.tables e below (T14.setTop (mkF m 47 #[.val (.int p0), .unset, .unset, .unset] [(.ref w_JUMP_LIMIT), (.int (6 : Int32)), (.ref b1), (.ref b1)])) _
    refine st15 _ ?_
    show Steps p.tables e below (T15.setTop (mkF m 48 #[.val (.int p0), .unset, .unset, .unset] [(.ref b1)])) _
    refine XS.astoreN X15.here hx rfl (hb hby at_48) rfl rfl (l' := #[.val (.int p0), .val (.ref b1), .unset, .unset]) rfl ?_
    show Steps p.tables e below (T15.setTop (mkF m 49 #[.val (.int p0), .val (.ref b1), .unset, .unset] [])) _
    refine XS.iloadN X15.here hx rfl (hb hby at_49) rfl ?_
    show Steps p.tables e below (T15.setTop (mkF m 50 #[.val (.int p0), .val (.ref b1), .unset, .unset] [(.int p0)])) _
    refine X15.ldcInt hx hown (mvT hZ (hw _ (List.mem_of_getElem? (i := 18) rfl))) (g := (mkF m 50 #[.val (.int p0), .val (.ref b1), .unset, .unset] [(.int p0)])) rfl (hb hby at_50) _ ?_
    show Steps p.tables e below (T15.setTop (mkF m 52 #[.val (.int p0), .val (.ref b1), .unset, .unset] [(.int (2147483647 : Int32)), (.int p0)])) _
    refine XS.iand X15.here hx rfl (hb hby at_52) rfl ?_
    show Steps p.tables e below (T15.setTop (mkF m 53 #[.val (.int p0), .val (.ref b1), .unset, .unset] [(.int (p0 &&& (2147483647 : Int32)))])) _
    refine XS.bipush X15.here hx rfl (hb hby at_53) ?_
    show Steps p.tables e below (T15.setTop (mkF m 55 #[.val (.int p0), .val (.ref b1), .unset, .unset] [(.int (7 : Int32)), (.int (p0 &&& (2147483647 : Int32)))])) _
    refine iremM X15 hx rfl (hb hby at_55) rfl (by decide) ?_
    show Steps p.tables e below (T15.setTop (mkF m 56 #[.val (.int p0), .val (.ref b1), .unset, .unset] [(.int ((p0 &&& (2147483647 : Int32)) % (7 : Int32)))])) _
    rw [hi5]
    show Steps p.tables e below (T15.setTop (mkF m 56 #[.val (.int p0), .val (.ref b1), .unset, .unset] [(.int (5 : Int32))])) _
    refine XS.istoreN X15.here hx rfl (hb hby at_56) rfl (l' := #[.val (.int p0), .val (.ref b1), .val (.int (5 : Int32)), .unset]) rfl ?_
    show Steps p.tables e below (T15.setTop (mkF m 57 #[.val (.int p0), .val (.ref b1), .val (.int (5 : Int32)), .unset] [])) _
    refine XS.iloadN X15.here hx rfl (hb hby at_57) rfl ?_
    show Steps p.tables e below (T15.setTop (mkF m 58 #[.val (.int p0), .val (.ref b1), .val (.int (5 : Int32)), .unset] [(.int (5 : Int32))])) _
    refine XS.iconst X15.here hx rfl (hb hby at_58) ?_
    show Steps p.tables e below (T15.setTop (mkF m 59 #[.val (.int p0), .val (.ref b1), .val (.int (5 : Int32)), .unset] [(.int (1 : Int32)), (.int (5 : Int32))])) _
    refine XS.icmpNo X15.here hx rfl (hb hby at_59) rfl (feq (by decide : ¬ ((5 : Int32) = (1 : Int32)))).1 ?_
    show Steps p.tables e below (T15.setTop (mkF m 62 #[.val (.int p0), .val (.ref b1), .val (.int (5 : Int32)), .unset] [])) _
    refine XS.iloadN X15.here hx rfl (hb hby at_62) rfl ?_
    show Steps p.tables e below (T15.setTop (mkF m 63 #[.val (.int p0), .val (.ref b1), .val (.int (5 : Int32)), .unset] [(.int (5 : Int32))])) _
    refine XS.iconst X15.here hx rfl (hb hby at_63) ?_
    show Steps p.tables e below (T15.setTop (mkF m 64 #[.val (.int p0), .val (.ref b1), .val (.int (5 : Int32)), .unset] [(.int (2 : Int32)), (.int (5 : Int32))])) _
    refine XS.icmpYes X15.here hx rfl (pc0 := 64) (pc' := 71) rfl (hb hby at_64) rfl (feq (by decide : ¬ ((5 : Int32) = (2 : Int32)))).2 (by decide) (by decide) ?_
    show Steps p.tables e below (T15.setTop (mkF m 71 #[.val (.int p0), .val (.ref b1), .val (.int (5 : Int32)), .unset] [])) _
    refine XS.iconst X15.here hx rfl (hb hby at_71) ?_
    show Steps p.tables e below (T15.setTop (mkF m 72 #[.val (.int p0), .val (.ref b1), .val (.int (5 : Int32)), .unset] [(.int (0 : Int32))])) _
    refine XS.istoreN X15.here hx rfl (hb hby at_72) rfl (l' := #[.val (.int p0), .val (.ref b1), .val (.int (5 : Int32)), .val (.int (0 : Int32))]) rfl ?_
    show Steps p.tables e below (T15.setTop (mkF m 73 #[.val (.int p0), .val (.ref b1), .val (.int (5 : Int32)), .val (.int (0 : Int32))] [])) _
    refine XS.aloadN X15.here hx rfl (hb hby at_73) rfl rfl ?_
    show Steps p.tables e below (T15.setTop (mkF m 74 #[.val (.int p0), .val (.ref b1), .val (.int (5 : Int32)), .val (.int (0 : Int32))] [(.ref b1)])) _
    refine XS.iloadN X15.here hx rfl (hb hby at_74) rfl ?_
    show Steps p.tables e below (T15.setTop (mkF m 75 #[.val (.int p0), .val (.ref b1), .val (.int (5 : Int32)), .val (.int (0 : Int32))] [(.int (5 : Int32)), (.ref b1)])) _
    refine X15.aaload hx (j := (5 : Int32)) (v := (.ref w_CONTEXT_TOO_LARGE)) (by rw [e15]; exact Ar16.1) (State.isArrayOf_alike hZ.alike Ar16.2.1) rfl Ar16.2.2 hin16 hat16 (g := (mkF m 75 #[.val (.int p0), .val (.ref b1), .val (.int (5 : Int32)), .val (.int (0 : Int32))] [(.int (5 : Int32)), (.ref b1)])) rfl rfl (hb hby at_75) _ ?_
    show Steps p.tables e below (T15.setTop (mkF m 76 #[.val (.int p0), .val (.ref b1), .val (.int (5 : Int32)), .val (.int (0 : Int32))] [(.ref w_CONTEXT_TOO_LARGE)])) _
    refine st17.trans ?_
    show Steps p.tables e below (T17.setTop (mkF m 79 #[.val (.int p0), .val (.ref b1), .val (.int (5 : Int32)), .val (.int (0 : Int32))] [(.int (0 : Int32))])) _
    refine XS.iloadN X17.here hx rfl (hb hby at_79) rfl ?_
    show Steps p.tables e below (T17.setTop (mkF m 80 #[.val (.int p0), .val (.ref b1), .val (.int (5 : Int32)), .val (.int (0 : Int32))] [(.int (0 : Int32)), (.int (0 : Int32))])) _
    refine XS.icmpNo X17.here hx rfl (hb hby at_80) rfl (teq (by decide : (0 : Int32) = (0 : Int32))).2 ?_
    show Steps p.tables e below (T17.setTop (mkF m 83 #[.val (.int p0), .val (.ref b1), .val (.int (5 : Int32)), .val (.int (0 : Int32))] [])) _
    refine XS.iconst X17.here hx rfl (hb hby at_83) ?_
    show Steps p.tables e below (T17.setTop (mkF m 84 #[.val (.int p0), .val (.ref b1), .val (.int (5 : Int32)), .val (.int (0 : Int32))] [(.int (1 : Int32))])) _
    refine XS.goto X17.here hx rfl (pc0 := 84) (pc' := 88) rfl (hb hby at_84) (by decide) (by decide) ?_
    show Steps p.tables e below (T17.setTop (mkF m 88 #[.val (.int p0), .val (.ref b1), .val (.int (5 : Int32)), .val (.int (0 : Int32))] [(.int (1 : Int32))])) _
    exact retOut X17 hx Bd.returns rfl (Or.inl ⟨rfl, Or.inr (Or.inl rfl), _, rfl⟩) (hb hby at_88) hr
  · exact ⟨rfl, N17⟩
set_option maxRecDepth 65536 in
set_option maxHeartbeats 40000000 in
theorem c1_6 (l : Launch) (Z : State) (a0 : Array Value) (hw : ∀ d ∈ tables_1, d.before a0 Z = true) (ws : List Jvm.Cond) (w_REFUSAL : Addr) (w_TRANSIENT : Addr) (w_TIMEOUT : Addr) (w_INVALID_CALL : Addr) (w_INVALID_ANSWER : Addr) (w_CONTEXT_TOO_LARGE : Addr) (w_JUMP_LIMIT : Addr) (h0 : Heap) (n0 : Nat) (Z0 : n0 ≤ h0.size) (G : Glob Z h0 w_REFUSAL w_TRANSIENT w_TIMEOUT w_INVALID_CALL w_INVALID_ANSWER w_CONTEXT_TOO_LARGE w_JUMP_LIMIT)  :
    MetFree l (⟨"com/example/lungfish/lungfish/engine/FailureKind", "isRetryable", "()Z"⟩ : MethodName) (head1 (Jvm.Cond.code (⟨"com/example/lungfish/lungfish/engine/FailureKind", "isRetryable", "()Z"⟩ : MethodName) prog_10_method_5_code 1 (some .boolean) :: ws) ({ frames := 0, cells := 0, slots := 0, locals := 0 } : Room)) (fun a U => a = #[(.ref w_JUMP_LIMIT)] ∧ Z.Warmed39 U.vm ∧ U.heap = h0) (fun _ _ _ _ _ => True) (fun _ U o U' => ∃ v L, o = .returned v ∧ QR (some (.int (0 : Int32))) h0 n0 v U'.heap L ∧ FrameEnd U o U' L ({ frames := 0, cells := 0, slots := 0, locals := 0 } : Room).cells ({ frames := 0, cells := 0, slots := 0, locals := 0 } : Room).slots) := by
  refine MetFree.of_bodySF (plainFor_of_name pn_com_example_lungfish_lungfish_engine_FailureKind) hisR ?_
  intro p e s m args below meth c s₁ Bd hml0 hP hK
  obtain ⟨rfl, hZ, hh⟩ := hP
  have hx := Bd.exec
  have hby := Bd.bytes
  have hml : c.maxLocals = 1 := hml0
  have hown : s.vm.findClass "com/example/lungfish/lungfish/engine/FailureKind" = some m.cls := findClass_of_methodNamed Bd.named
  have X0 : Stand p l e ({ frames := 0, cells := 0, slots := 0, locals := 0 } : Room) s m #[(.ref w_JUMP_LIMIT)] below meth c s₁ [] 0 0 := Stand.of_body Bd
  have e0 : s₁.heap = h0 := by rw [← hh, Bd.state]; rfl
  have N0 := Fr.nil n0
  have pre0 : ∀ t, Steps p.tables e below (s₁.setTop (mkF m 0 #[.val (.ref w_JUMP_LIMIT)] [])) t → Steps p.tables e below (s₁.setTop (entryFrame m #[(.ref w_JUMP_LIMIT)] 1)) t := fun t k => castTop (ef_1_R m w_JUMP_LIMIT) k
  have G' := G
  obtain ⟨S_w_REFUSAL, E_w_REFUSAL, S_w_TRANSIENT, E_w_TRANSIENT, S_w_TIMEOUT, E_w_TIMEOUT, S_w_INVALID_CALL, E_w_INVALID_CALL, S_w_INVALID_ANSWER, E_w_INVALID_ANSWER, S_w_CONTEXT_TOO_LARGE, E_w_CONTEXT_TOO_LARGE, S_w_JUMP_LIMIT, E_w_JUMP_LIMIT, F_ordinal_w_REFUSAL, F_ordinal_w_TRANSIENT, F_ordinal_w_TIMEOUT, F_ordinal_w_INVALID_CALL, F_ordinal_w_CONTEXT_TOO_LARGE, F_ordinal_w_JUMP_LIMIT, F_ordinal_w_INVALID_ANSWER⟩ := G'
  obtain ⟨T1, X1, e1, st1⟩ := getS2 X0 hx hZ hown (host := "") (Or.inl (hw _ (List.mem_of_getElem? (i := 24) rfl))) Via.refl e0 S_w_TRANSIENT (g := (mkF m 1 #[.val (.ref w_JUMP_LIMIT)] [(.ref w_JUMP_LIMIT)])) rfl (hb hby d1_1)
  obtain ⟨T2, X2, e2, st2⟩ := getS2 X1 hx hZ hown (host := "") (Or.inl (hw _ (List.mem_of_getElem? (i := 25) rfl))) Via.refl e1 S_w_TIMEOUT (g := (mkF m 8 #[.val (.ref w_JUMP_LIMIT)] [(.ref w_JUMP_LIMIT)])) rfl (hb hby d1_8)
  obtain ⟨fs, hr, hrun, hended, hW, hsame⟩ := X2.leave (v := some (.int (0 : Int32))) (fun h => by rw [Bd.returns] at h; cases h)
  refine ⟨_, _, pre0 _ ?_, hrun, hended, _, _, rfl, ?_, ⟨_, rfl⟩, hW, hsame.mono (by decide) (by decide)⟩
  · show Steps p.tables e below (s₁.setTop (mkF m 0 #[.val (.ref w_JUMP_LIMIT)] [])) _
    refine XS.aloadN X0.here hx rfl (hb hby d1_0) rfl rfl ?_
    show Steps p.tables e below (s₁.setTop (mkF m 1 #[.val (.ref w_JUMP_LIMIT)] [(.ref w_JUMP_LIMIT)])) _
    refine st1 _ ?_
    show Steps p.tables e below (T1.setTop (mkF m 4 #[.val (.ref w_JUMP_LIMIT)] [(.ref w_TRANSIENT), (.ref w_JUMP_LIMIT)])) _
    refine Jvm.RoadKit.acmp (g := (mkF m 4 #[.val (.ref w_JUMP_LIMIT)] [(.ref w_TRANSIENT), (.ref w_JUMP_LIMIT)])) X1 hx rfl rfl rfl (pc0 := 4) (pc' := 7) (same := false) rfl (hb hby d1_4) rfl (decide_eq_false fun q => (Fld.ne F_ordinal_w_JUMP_LIMIT F_ordinal_w_TRANSIENT (by decide)) (Value.ref.inj q)) (by decide) (by decide) ?_
    show Steps p.tables e below (T1.setTop (mkF m 7 #[.val (.ref w_JUMP_LIMIT)] [])) _
    refine XS.aloadN X1.here hx rfl (hb hby d1_7) rfl rfl ?_
    show Steps p.tables e below (T1.setTop (mkF m 8 #[.val (.ref w_JUMP_LIMIT)] [(.ref w_JUMP_LIMIT)])) _
    refine st2 _ ?_
    show Steps p.tables e below (T2.setTop (mkF m 11 #[.val (.ref w_JUMP_LIMIT)] [(.ref w_TIMEOUT), (.ref w_JUMP_LIMIT)])) _
    refine Jvm.RoadKit.acmp (g := (mkF m 11 #[.val (.ref w_JUMP_LIMIT)] [(.ref w_TIMEOUT), (.ref w_JUMP_LIMIT)])) X2 hx rfl rfl rfl (pc0 := 11) (pc' := 18) (same := false) rfl (hb hby d1_11) rfl (decide_eq_false fun q => (Fld.ne F_ordinal_w_JUMP_LIMIT F_ordinal_w_TIMEOUT (by decide)) (Value.ref.inj q)) (by decide) (by decide) ?_
    show Steps p.tables e below (T2.setTop (mkF m 18 #[.val (.ref w_JUMP_LIMIT)] [])) _
    refine XS.iconst X2.here hx rfl (hb hby d1_18) ?_
    show Steps p.tables e below (T2.setTop (mkF m 19 #[.val (.ref w_JUMP_LIMIT)] [(.int (0 : Int32))])) _
    exact retOut X2 hx Bd.returns rfl (Or.inl ⟨rfl, Or.inr (Or.inl rfl), _, rfl⟩) (hb hby d1_19) hr
  · show QR _ h0 n0 _ T2.heap _
    rw [e2]
    exact ⟨rfl, N0, rfl⟩
set_option maxRecDepth 65536 in
set_option maxHeartbeats 40000000 in
theorem law_6 (l : Launch) (Z : State) (a0 : Array Value) (hw : ∀ d ∈ tables_1, d.before a0 Z = true) (ws : List Jvm.Cond) (w_REFUSAL : Addr) (w_TRANSIENT : Addr) (w_TIMEOUT : Addr) (w_INVALID_CALL : Addr) (w_INVALID_ANSWER : Addr) (w_CONTEXT_TOO_LARGE : Addr) (w_JUMP_LIMIT : Addr) (h0 : Heap) (n0 : Nat) (Z0 : n0 ≤ h0.size) (G : Glob Z h0 w_REFUSAL w_TRANSIENT w_TIMEOUT w_INVALID_CALL w_INVALID_ANSWER w_CONTEXT_TOO_LARGE w_JUMP_LIMIT) (p0 : Int32) (hi6 : ((p0 &&& (2147483647 : Int32)) % (7 : Int32)) = (6 : Int32)) :
    MetFree l x (head1 (Jvm.Cond.code x code maxLocals ret :: ws) room_1) (fun a U => a = #[(.int p0)] ∧ Z.Warmed39 U.vm ∧ U.heap = h0) (fun _ _ _ _ _ => True) (fun _ U o U' => ∃ v L, o = .returned v ∧ QL (some (.int (1 : Int32))) h0 n0 v U'.heap L ∧ FrameEnd U o U' L room_1.cells room_1.slots) := by
  refine MetFree.of_bodySF (plainFor_of_name pn_com_example_lungfish_lungfish_engine_FailureKindIsRetryablePinLaw) hisR ?_
  intro p e s m args below meth c s₁ Bd hml0 hP hK
  obtain ⟨rfl, hZ, hh⟩ := hP
  have hx := Bd.exec
  have hby := Bd.bytes
  have hml : c.maxLocals = 4 := hml0
  have hown : s.vm.findClass "com/example/lungfish/lungfish/engine/FailureKindIsRetryablePinLaw" = some m.cls := findClass_of_methodNamed Bd.named
  have X0 : Stand p l e room_1 s m #[(.int p0)] below meth c s₁ [] 0 0 := Stand.of_body Bd
  have e0 : s₁.heap = h0 := by rw [← hh, Bd.state]; rfl
  have N0 := Fr.nil n0
  have pre0 : ∀ t, Steps p.tables e below (s₁.setTop (mkF m 0 #[.val (.int p0), .unset, .unset, .unset] [])) t → Steps p.tables e below (s₁.setTop (entryFrame m #[(.int p0)] maxLocals)) t := fun t k => castTop (ef_0_I m p0) k
  have G' := G
  obtain ⟨S_w_REFUSAL, E_w_REFUSAL, S_w_TRANSIENT, E_w_TRANSIENT, S_w_TIMEOUT, E_w_TIMEOUT, S_w_INVALID_CALL, E_w_INVALID_CALL, S_w_INVALID_ANSWER, E_w_INVALID_ANSWER, S_w_CONTEXT_TOO_LARGE, E_w_CONTEXT_TOO_LARGE, S_w_JUMP_LIMIT, E_w_JUMP_LIMIT, F_ordinal_w_REFUSAL, F_ordinal_w_TRANSIENT, F_ordinal_w_TIMEOUT, F_ordinal_w_INVALID_CALL, F_ordinal_w_CONTEXT_TOO_LARGE, F_ordinal_w_JUMP_LIMIT, F_ordinal_w_INVALID_ANSWER⟩ := G'
  obtain ⟨T1, h1, k1, X1, e1, E1, A1, O1, st1⟩ := newR X0 hx hZ hown (hw _ (List.mem_of_getElem? (i := 0) rfl)) (hw _ (List.mem_of_getElem? (i := 1) rfl)) e0 (g := (mkF m 2 #[.val (.int p0), .unset, .unset, .unset] [(.int (7 : Int32))])) rfl (hb hby at_2) rfl (by decide) (cap := 7) (by decide) (by decide) (by decide) (by decide)
  obtain ⟨b1, g1⟩ : ∃ z, z = h0.size := ⟨_, rfl⟩
  rw [← g1] at A1 st1
  have V1 : Arv Z h1 b1 k1 (.object "com/example/lungfish/lungfish/engine/FailureKind") (7 : Int32) [.null, .null, .null, .null, .null, .null, .null] .null := (Arv.new A1 (by decide)).pad (pad_rep [] .null 7)
  have K1 : Keep h0 h1 [] := (Keep.refl h0 []).ext E1
  have sz_b1 : h0.size ≤ b1 := Nat.le_of_eq g1.symm
  have g_b1 : n0 ≤ b1 := Nat.le_trans Z0 sz_b1
  obtain ⟨T2, X2, e2, st2⟩ := getS2 X1 hx hZ hown (host := "") (Or.inl (hw _ (List.mem_of_getElem? (i := 2) rfl))) Via.refl e1 (own_sta_keep S_w_REFUSAL K1) (g := (mkF m 7 #[.val (.int p0), .unset, .unset, .unset] [(.int (0 : Int32)), (.ref b1), (.ref b1)])) rfl (hb hby at_7)
  obtain ⟨cl3, Ar3, q3, s3, m3, H3, F3⟩ := V1
  have hin3 : ¬ ((0 : Int32) < 0 ∨ cl3.slots.size ≤ ((0 : Int32)).toNatClampNeg) := inb_of s3 ⟨by decide, by decide⟩
  have sto3 : Sto Z h1 b1 (.ref w_REFUSAL) := Sto.ofV Ar3 q3 O1 (Ins.of_exa (E_w_REFUSAL.keep K1) (hw _ (List.mem_of_getElem? (i := 5) rfl)))
  obtain ⟨T3, h3, X3, e3, W3, st3⟩ := stR X2 hx hZ e2 Ar3 (j := (0 : Int32)) hin3 rfl sto3 (g := (mkF m 10 #[.val (.int p0), .unset, .unset, .unset] [(.ref w_REFUSAL), (.int (0 : Int32)), (.ref b1), (.ref b1)])) rfl rfl (hb hby at_10)
  have V3 : Arv Z h3 b1 k1 (.object "com/example/lungfish/lungfish/engine/FailureKind") (7 : Int32) [(.ref w_REFUSAL), .null, .null, .null, .null, .null, .null] .null := Arv.set Ar3 q3 s3 m3 H3 F3 rfl W3 0 rfl (Nat.le_of_ble_eq_true rfl)
  have K3 : Keep h0 h3 [] := K1.wr W3 (Or.inr sz_b1)
  have N3 := Fr.snoc X3 N0 g_b1
  obtain ⟨T4, X4, e4, st4⟩ := getS2 X3 hx hZ hown (host := "") (Or.inl (hw _ (List.mem_of_getElem? (i := 6) rfl))) Via.refl e3 (own_sta_keep S_w_TRANSIENT K3) (g := (mkF m 13 #[.val (.int p0), .unset, .unset, .unset] [(.int (1 : Int32)), (.ref b1), (.ref b1)])) rfl (hb hby at_13)
  obtain ⟨cl5, Ar5, q5, s5, m5, H5, F5⟩ := V3
  have hin5 : ¬ ((1 : Int32) < 0 ∨ cl5.slots.size ≤ ((1 : Int32)).toNatClampNeg) := inb_of s5 ⟨by decide, by decide⟩
  have sto5 : Sto Z h3 b1 (.ref w_TRANSIENT) := Sto.ofV Ar5 q5 O1 (Ins.of_exa (E_w_TRANSIENT.keep K3) (hw _ (List.mem_of_getElem? (i := 5) rfl)))
  obtain ⟨T5, h5, X5, e5, W5, st5⟩ := stR X4 hx hZ e4 Ar5 (j := (1 : Int32)) hin5 rfl sto5 (g := (mkF m 16 #[.val (.int p0), .unset, .unset, .unset] [(.ref w_TRANSIENT), (.int (1 : Int32)), (.ref b1), (.ref b1)])) rfl rfl (hb hby at_16)
  have V5 : Arv Z h5 b1 k1 (.object "com/example/lungfish/lungfish/engine/FailureKind") (7 : Int32) [(.ref w_REFUSAL), (.ref w_TRANSIENT), .null, .null, .null, .null, .null] .null := Arv.set Ar5 q5 s5 m5 H5 F5 rfl W5 1 rfl (Nat.le_of_ble_eq_true rfl)
  have K5 : Keep h0 h5 [] := K3.wr W5 (Or.inr sz_b1)
  have N5 := Fr.snoc X5 N3 g_b1
  obtain ⟨T6, X6, e6, st6⟩ := getS2 X5 hx hZ hown (host := "") (Or.inl (hw _ (List.mem_of_getElem? (i := 8) rfl))) Via.refl e5 (own_sta_keep S_w_TIMEOUT K5) (g := (mkF m 19 #[.val (.int p0), .unset, .unset, .unset] [(.int (2 : Int32)), (.ref b1), (.ref b1)])) rfl (hb hby at_19)
  obtain ⟨cl7, Ar7, q7, s7, m7, H7, F7⟩ := V5
  have hin7 : ¬ ((2 : Int32) < 0 ∨ cl7.slots.size ≤ ((2 : Int32)).toNatClampNeg) := inb_of s7 ⟨by decide, by decide⟩
  have sto7 : Sto Z h5 b1 (.ref w_TIMEOUT) := Sto.ofV Ar7 q7 O1 (Ins.of_exa (E_w_TIMEOUT.keep K5) (hw _ (List.mem_of_getElem? (i := 5) rfl)))
  obtain ⟨T7, h7, X7, e7, W7, st7⟩ := stR X6 hx hZ e6 Ar7 (j := (2 : Int32)) hin7 rfl sto7 (g := (mkF m 22 #[.val (.int p0), .unset, .unset, .unset] [(.ref w_TIMEOUT), (.int (2 : Int32)), (.ref b1), (.ref b1)])) rfl rfl (hb hby at_22)
  have V7 : Arv Z h7 b1 k1 (.object "com/example/lungfish/lungfish/engine/FailureKind") (7 : Int32) [(.ref w_REFUSAL), (.ref w_TRANSIENT), (.ref w_TIMEOUT), .null, .null, .null, .null] .null := Arv.set Ar7 q7 s7 m7 H7 F7 rfl W7 2 rfl (Nat.le_of_ble_eq_true rfl)
  have K7 : Keep h0 h7 [] := K5.wr W7 (Or.inr sz_b1)
  have N7 := Fr.snoc X7 N5 g_b1
  obtain ⟨T8, X8, e8, st8⟩ := getS2 X7 hx hZ hown (host := "") (Or.inl (hw _ (List.mem_of_getElem? (i := 10) rfl))) Via.refl e7 (own_sta_keep S_w_INVALID_CALL K7) (g := (mkF m 25 #[.val (.int p0), .unset, .unset, .unset] [(.int (3 : Int32)), (.ref b1), (.ref b1)])) rfl (hb hby at_25)
  obtain ⟨cl9, Ar9, q9, s9, m9, H9, F9⟩ := V7
  have hin9 : ¬ ((3 : Int32) < 0 ∨ cl9.slots.size ≤ ((3 : Int32)).toNatClampNeg) := inb_of s9 ⟨by decide, by decide⟩
  have sto9 : Sto Z h7 b1 (.ref w_INVALID_CALL) := Sto.ofV Ar9 q9 O1 (Ins.of_exa (E_w_INVALID_CALL.keep K7) (hw _ (List.mem_of_getElem? (i := 5) rfl)))
  obtain ⟨T9, h9, X9, e9, W9, st9⟩ := stR X8 hx hZ e8 Ar9 (j := (3 : Int32)) hin9 rfl sto9 (g := (mkF m 28 #[.val (.int p0), .unset, .unset, .unset] [(.ref w_INVALID_CALL), (.int (3 : Int32)), (.ref b1), (.ref b1)])) rfl rfl (hb hby at_28)
  have V9 : Arv Z h9 b1 k1 (.object "com/example/lungfish/lungfish/engine/FailureKind") (7 : Int32) [(.ref w_REFUSAL), (.ref w_TRANSIENT), (.ref w_TIMEOUT), (.ref w_INVALID_CALL), .null, .null, .null] .null := Arv.set Ar9 q9 s9 m9 H9 F9 rfl W9 3 rfl (Nat.le_of_ble_eq_true rfl)
  have K9 : Keep h0 h9 [] := K7.wr W9 (Or.inr sz_b1)
  have N9 := Fr.snoc X9 N7 g_b1
  obtain ⟨T10, X10, e10, st10⟩ := getS2 X9 hx hZ hown (host := "") (Or.inl (hw _ (List.mem_of_getElem? (i := 12) rfl))) Via.refl e9 (own_sta_keep S_w_INVALID_ANSWER K9) (g := (mkF m 31 #[.val (.int p0), .unset, .unset, .unset] [(.int (4 : Int32)), (.ref b1), (.ref b1)])) rfl (hb hby at_31)
  obtain ⟨cl11, Ar11, q11, s11, m11, H11, F11⟩ := V9
  have hin11 : ¬ ((4 : Int32) < 0 ∨ cl11.slots.size ≤ ((4 : Int32)).toNatClampNeg) := inb_of s11 ⟨by decide, by decide⟩
  have sto11 : Sto Z h9 b1 (.ref w_INVALID_ANSWER) := Sto.ofV Ar11 q11 O1 (Ins.of_exa (E_w_INVALID_ANSWER.keep K9) (hw _ (List.mem_of_getElem? (i := 5) rfl)))
  obtain ⟨T11, h11, X11, e11, W11, st11⟩ := stR X10 hx hZ e10 Ar11 (j := (4 : Int32)) hin11 rfl sto11 (g := (mkF m 34 #[.val (.int p0), .unset, .unset, .unset] [(.ref w_INVALID_ANSWER), (.int (4 : Int32)), (.ref b1), (.ref b1)])) rfl rfl (hb hby at_34)
  have V11 : Arv Z h11 b1 k1 (.object "com/example/lungfish/lungfish/engine/FailureKind") (7 : Int32) [(.ref w_REFUSAL), (.ref w_TRANSIENT), (.ref w_TIMEOUT), (.ref w_INVALID_CALL), (.ref w_INVALID_ANSWER), .null, .null] .null := Arv.set Ar11 q11 s11 m11 H11 F11 rfl W11 4 rfl (Nat.le_of_ble_eq_true rfl)
  have K11 : Keep h0 h11 [] := K9.wr W11 (Or.inr sz_b1)
  have N11 := Fr.snoc X11 N9 g_b1
  obtain ⟨T12, X12, e12, st12⟩ := getS2 X11 hx hZ hown (host := "") (Or.inl (hw _ (List.mem_of_getElem? (i := 14) rfl))) Via.refl e11 (own_sta_keep S_w_CONTEXT_TOO_LARGE K11) (g := (mkF m 37 #[.val (.int p0), .unset, .unset, .unset] [(.int (5 : Int32)), (.ref b1), (.ref b1)])) rfl (hb hby at_37)
  obtain ⟨cl13, Ar13, q13, s13, m13, H13, F13⟩ := V11
  have hin13 : ¬ ((5 : Int32) < 0 ∨ cl13.slots.size ≤ ((5 : Int32)).toNatClampNeg) := inb_of s13 ⟨by decide, by decide⟩
  have sto13 : Sto Z h11 b1 (.ref w_CONTEXT_TOO_LARGE) := Sto.ofV Ar13 q13 O1 (Ins.of_exa (E_w_CONTEXT_TOO_LARGE.keep K11) (hw _ (List.mem_of_getElem? (i := 5) rfl)))
  obtain ⟨T13, h13, X13, e13, W13, st13⟩ := stR X12 hx hZ e12 Ar13 (j := (5 : Int32)) hin13 rfl sto13 (g := (mkF m 40 #[.val (.int p0), .unset, .unset, .unset] [(.ref w_CONTEXT_TOO_LARGE), (.int (5 : Int32)), (.ref b1), (.ref b1)])) rfl rfl (hb hby at_40)
  have V13 : Arv Z h13 b1 k1 (.object "com/example/lungfish/lungfish/engine/FailureKind") (7 : Int32) [(.ref w_REFUSAL), (.ref w_TRANSIENT), (.ref w_TIMEOUT), (.ref w_INVALID_CALL), (.ref w_INVALID_ANSWER), (.ref w_CONTEXT_TOO_LARGE), .null] .null := Arv.set Ar13 q13 s13 m13 H13 F13 rfl W13 5 rfl (Nat.le_of_ble_eq_true rfl)
  have K13 : Keep h0 h13 [] := K11.wr W13 (Or.inr sz_b1)
  have N13 := Fr.snoc X13 N11 g_b1
  obtain ⟨T14, X14, e14, st14⟩ := getS2 X13 hx hZ hown (host := "") (Or.inl (hw _ (List.mem_of_getElem? (i := 16) rfl))) Via.refl e13 (own_sta_keep S_w_JUMP_LIMIT K13) (g := (mkF m 44 #[.val (.int p0), .unset, .unset, .unset] [(.int (6 : Int32)), (.ref b1), (.ref b1)])) rfl (hb hby at_44)
  obtain ⟨cl15, Ar15, q15, s15, m15, H15, F15⟩ := V13
  have hin15 : ¬ ((6 : Int32) < 0 ∨ cl15.slots.size ≤ ((6 : Int32)).toNatClampNeg) := inb_of s15 ⟨by decide, by decide⟩
  have sto15 : Sto Z h13 b1 (.ref w_JUMP_LIMIT) := Sto.ofV Ar15 q15 O1 (Ins.of_exa (E_w_JUMP_LIMIT.keep K13) (hw _ (List.mem_of_getElem? (i := 5) rfl)))
  obtain ⟨T15, h15, X15, e15, W15, st15⟩ := stR X14 hx hZ e14 Ar15 (j := (6 : Int32)) hin15 rfl sto15 (g := (mkF m 47 #[.val (.int p0), .unset, .unset, .unset] [(.ref w_JUMP_LIMIT), (.int (6 : Int32)), (.ref b1), (.ref b1)])) rfl rfl (hb hby at_47)
  have V15 : Arv Z h15 b1 k1 (.object "com/example/lungfish/lungfish/engine/FailureKind") (7 : Int32) [(.ref w_REFUSAL), (.ref w_TRANSIENT), (.ref w_TIMEOUT), (.ref w_INVALID_CALL), (.ref w_INVALID_ANSWER), (.ref w_CONTEXT_TOO_LARGE), (.ref w_JUMP_LIMIT)] .null := Arv.set Ar15 q15 s15 m15 H15 F15 rfl W15 6 rfl (Nat.le_of_ble_eq_true rfl)
  have K15 : Keep h0 h15 [] := K13.wr W15 (Or.inr sz_b1)
  have N15 := Fr.snoc X15 N13 g_b1
  obtain ⟨cl16, Ar16, q16, s16, m16, H16, F16⟩ := V15
  have hin16 : ¬ ((6 : Int32) < 0 ∨ cl16.slots.size ≤ ((6 : Int32)).toNatClampNeg) := inb_of s16 ⟨by decide, by decide⟩
  have hat16 : cl16.slots[((6 : Int32)).toNatClampNeg]? = some (.ref w_JUMP_LIMIT) := H16.at hin16 rfl
  obtain ⟨cq17, kq17, q17a, q17b, q17c⟩ := isOf hZ e15 (E_w_JUMP_LIMIT.keep K15)
  obtain ⟨_, _, ⟨T17, L17, k17, n17⟩, -, X17, ⟨Lc17, hQ17, l17, y17, z17⟩, st17⟩ := X15.virtualBack hx (y := (⟨"com/example/lungfish/lungfish/engine/FailureKind", "isRetryable", "()Z"⟩ : MethodName)) (z := (⟨"com/example/lungfish/lungfish/engine/FailureKind", "isRetryable", "()Z"⟩ : MethodName)) hown (mvT hZ (hw _ (List.mem_of_getElem? (i := 19) rfl))) (mvT hZ (hw _ (List.mem_of_getElem? (i := 20) rfl))) (notFace_of_selects (args := #[]) (mvT hZ (hw _ (List.mem_of_getElem? (i := 22) rfl)))) (mvT hZ (hw _ (List.mem_of_getElem? (i := 22) rfl))) (mvT hZ (hw _ (List.mem_of_getElem? (i := 21) rfl))) (by decide) (backOf (W := 0) (c1_6 l Z a0 hw [] w_REFUSAL w_TRANSIENT w_TIMEOUT w_INVALID_CALL w_INVALID_ANSWER w_CONTEXT_TOO_LARGE w_JUMP_LIMIT h15 n0 (Nat.le_trans Z0 K15.1) (G.keep K15)) hZ (hw _ (List.mem_of_getElem? (i := 23) rfl)) (hw _ (List.mem_of_getElem? (i := 3) rfl)) (by decide) (by decide)) q17a q17c (g := (mkF m 76 #[.val (.int p0), .val (.ref b1), .val (.int (6 : Int32)), .val (.int (0 : Int32))] [(.ref w_JUMP_LIMIT)])) rfl (by rw [hml]; rfl) (Steps.refl _) (argsL := []) (rest := []) (lenOf pd___Z rfl) rfl (by show 2 * 0 + _ ≤ _; exact Nat.le_of_eq rfl) (hb hby at_76) (fun _ _ => ⟨rfl, e15, (by decide : 1 + 0 ≤ _), (by decide : 7 + 0 ≤ _)⟩)
  dsimp only [Pt.U, Pt.locs, Pt.cells, Pt.slots] at X17 l17 y17 z17 st17 hQ17
  subst l17 y17 z17
  obtain ⟨rfl, N17q, e17⟩ := hQ17
  have N17 := Fr.app N15 N17q
  obtain ⟨fs, hr, hrun, hended, hW, hsame⟩ := X17.leave (v := some (.int (1 : Int32))) (fun h => by rw [Bd.returns] at h; cases h)
  refine ⟨_, _, pre0 _ ?_, hrun, hended, _, _, rfl, ?_, ⟨_, rfl⟩, hW, hsame.mono (by decide) (by decide)⟩
  · show Steps p.tables e below (s₁.setTop (mkF m 0 #[.val (.int p0), .unset, .unset, .unset] [])) _
    refine XS.bipush X0.here hx rfl (hb hby at_0) ?_
    show Steps p.tables e below (s₁.setTop (mkF m 2 #[.val (.int p0), .unset, .unset, .unset] [(.int (7 : Int32))])) _
    refine st1 _ ?_
    show Steps p.tables e below (T1.setTop (mkF m 5 #[.val (.int p0), .unset, .unset, .unset] [(.ref b1)])) _
    refine XS.dup X1.here hx rfl (hb hby at_5) rfl rfl ?_
    show Steps p.tables e below (T1.setTop (mkF m 6 #[.val (.int p0), .unset, .unset, .unset] [(.ref b1), (.ref b1)])) _
    refine XS.iconst X1.here hx rfl (hb hby at_6) ?_
    show Steps p.tables e below (T1.setTop (mkF m 7 #[.val (.int p0), .unset, .unset, .unset] [(.int (0 : Int32)), (.ref b1), (.ref b1)])) _
    refine st2 _ ?_
    show Steps p.tables e below (T2.setTop (mkF m 10 #[.val (.int p0), .unset, .unset, .unset] [(.ref w_REFUSAL), (.int (0 : Int32)), (.ref b1), (.ref b1)])) _
    refine st3 _ ?_
    show Steps p.tables e below (T3.setTop (mkF m 11 #[.val (.int p0), .unset, .unset, .unset] [(.ref b1)])) _
    refine XS.dup X3.here hx rfl (hb hby at_11) rfl rfl ?_
    show Steps p.tables e below (T3.setTop (mkF m 12 #[.val (.int p0), .unset, .unset, .unset] [(.ref b1), (.ref b1)])) _
    refine XS.iconst X3.here hx rfl (hb hby at_12) ?_
    show Steps p.tables e below (T3.setTop (mkF m 13 #[.val (.int p0), .unset, .unset, .unset] [(.int (1 : Int32)), (.ref b1), (.ref b1)])) _
    refine st4 _ ?_
    show Steps p.tables e below (T4.setTop (mkF m 16 #[.val (.int p0), .unset, .unset, .unset] [(.ref w_TRANSIENT), (.int (1 : Int32)), (.ref b1), (.ref b1)])) _
    refine st5 _ ?_
    show Steps p.tables e below (T5.setTop (mkF m 17 #[.val (.int p0), .unset, .unset, .unset] [(.ref b1)])) _
    refine XS.dup X5.here hx rfl (hb hby at_17) rfl rfl ?_
    show Steps p.tables e below (T5.setTop (mkF m 18 #[.val (.int p0), .unset, .unset, .unset] [(.ref b1), (.ref b1)])) _
    refine XS.iconst X5.here hx rfl (hb hby at_18) ?_
    show Steps p.tables e below (T5.setTop (mkF m 19 #[.val (.int p0), .unset, .unset, .unset] [(.int (2 : Int32)), (.ref b1), (.ref b1)])) _
    refine st6 _ ?_
    show Steps p.tables e below (T6.setTop (mkF m 22 #[.val (.int p0), .unset, .unset, .unset] [(.ref w_TIMEOUT), (.int (2 : Int32)), (.ref b1), (.ref b1)])) _
    refine st7 _ ?_
    show Steps p.tables e below (T7.setTop (mkF m 23 #[.val (.int p0), .unset, .unset, .unset] [(.ref b1)])) _
    refine XS.dup X7.here hx rfl (hb hby at_23) rfl rfl ?_
    show Steps p.tables e below (T7.setTop (mkF m 24 #[.val (.int p0), .unset, .unset, .unset] [(.ref b1), (.ref b1)])) _
    refine XS.iconst X7.here hx rfl (hb hby at_24) ?_
    show Steps p.tables e below (T7.setTop (mkF m 25 #[.val (.int p0), .unset, .unset, .unset] [(.int (3 : Int32)), (.ref b1), (.ref b1)])) _
    refine st8 _ ?_
    show Steps p.tables e below (T8.setTop (mkF m 28 #[.val (.int p0), .unset, .unset, .unset] [(.ref w_INVALID_CALL), (.int (3 : Int32)), (.ref b1), (.ref b1)])) _
    refine st9 _ ?_
    show Steps p.tables e below (T9.setTop (mkF m 29 #[.val (.int p0), .unset, .unset, .unset] [(.ref b1)])) _
    refine XS.dup X9.here hx rfl (hb hby at_29) rfl rfl ?_
    show Steps p.tables e below (T9.setTop (mkF m 30 #[.val (.int p0), .unset, .unset, .unset] [(.ref b1), (.ref b1)])) _
    refine XS.iconst X9.here hx rfl (hb hby at_30) ?_
    show Steps p.tables e below (T9.setTop (mkF m 31 #[.val (.int p0), .unset, .unset, .unset] [(.int (4 : Int32)), (.ref b1), (.ref b1)])) _
    refine st10 _ ?_
    show Steps p.tables e below (T10.setTop (mkF m 34 #[.val (.int p0), .unset, .unset, .unset] [(.ref w_INVALID_ANSWER), (.int (4 : Int32)), (.ref b1), (.ref b1)])) _
    refine st11 _ ?_
    show Steps p.tables e below (T11.setTop (mkF m 35 #[.val (.int p0), .unset, .unset, .unset] [(.ref b1)])) _
    refine XS.dup X11.here hx rfl (hb hby at_35) rfl rfl ?_
    show Steps p.tables e below (T11.setTop (mkF m 36 #[.val (.int p0), .unset, .unset, .unset] [(.ref b1), (.ref b1)])) _
    refine XS.iconst X11.here hx rfl (hb hby at_36) ?_
    show Steps p.tables e below (T11.setTop (mkF m 37 #[.val (.int p0), .unset, .unset, .unset] [(.int (5 : Int32)), (.ref b1), (.ref b1)])) _
    refine st12 _ ?_
    show Steps p.tables e below (T12.setTop (mkF m 40 #[.val (.int p0), .unset, .unset, .unset] [(.ref w_CONTEXT_TOO_LARGE), (.int (5 : Int32)), (.ref b1), (.ref b1)])) _
    refine st13 _ ?_
    show Steps p.tables e below (T13.setTop (mkF m 41 #[.val (.int p0), .unset, .unset, .unset] [(.ref b1)])) _
    refine XS.dup X13.here hx rfl (hb hby at_41) rfl rfl ?_
    show Steps p.tables e below (T13.setTop (mkF m 42 #[.val (.int p0), .unset, .unset, .unset] [(.ref b1), (.ref b1)])) _
    refine XS.bipush X13.here hx rfl (hb hby at_42) ?_
    show Steps p.tables e below (T13.setTop (mkF m 44 #[.val (.int p0), .unset, .unset, .unset] [(.int (6 : Int32)), (.ref b1), (.ref b1)])) _
    refine st14 _ ?_
    show Steps p.tables e below (T14.setTop (mkF m 47 #[.val (.int p0), .unset, .unset, .unset] [(.ref w_JUMP_LIMIT), (.int (6 : Int32)), (.ref b1), (.ref b1)])) _
    refine st15 _ ?_
    show Steps p.tables e below (T15.setTop (mkF m 48 #[.val (.int p0), .unset, .unset, .unset] [(.ref b1)])) _
    refine XS.astoreN X15.here hx rfl (hb hby at_48) rfl rfl (l' := #[.val (.int p0), .val (.ref b1), .unset, .unset]) rfl ?_
    show Steps p.tables e below (T15.setTop (mkF m 49 #[.val (.int p0), .val (.ref b1), .unset, .unset] [])) _
    refine XS.iloadN X15.here hx rfl (hb hby at_49) rfl ?_
    show Steps p.tables e below (T15.setTop (mkF m 50 #[.val (.int p0), .val (.ref b1), .unset, .unset] [(.int p0)])) _
    refine X15.ldcInt hx hown (mvT hZ (hw _ (List.mem_of_getElem? (i := 18) rfl))) (g := (mkF m 50 #[.val (.int p0), .val (.ref b1), .unset, .unset] [(.int p0)])) rfl (hb hby at_50) _ ?_
    show Steps p.tables e below (T15.setTop (mkF m 52 #[.val (.int p0), .val (.ref b1), .unset, .unset] [(.int (2147483647 : Int32)), (.int p0)])) _
    refine XS.iand X15.here hx rfl (hb hby at_52) rfl ?_
    show Steps p.tables e below (T15.setTop (mkF m 53 #[.val (.int p0), .val (.ref b1), .unset, .unset] [(.int (p0 &&& (2147483647 : Int32)))])) _
    refine XS.bipush X15.here hx rfl (hb hby at_53) ?_
    show Steps p.tables e below (T15.setTop (mkF m 55 #[.val (.int p0), .val (.ref b1), .unset, .unset] [(.int (7 : Int32)), (.int (p0 &&& (2147483647 : Int32)))])) _
    refine iremM X15 hx rfl (hb hby at_55) rfl (by decide) ?_
    show Steps p.tables e below (T15.setTop (mkF m 56 #[.val (.int p0), .val (.ref b1), .unset, .unset] [(.int ((p0 &&& (2147483647 : Int32)) % (7 : Int32)))])) _
    rw [hi6]
    show Steps p.tables e below (T15.setTop (mkF m 56 #[.val (.int p0), .val (.ref b1), .unset, .unset] [(.int (6 : Int32))])) _
    refine XS.istoreN X15.here hx rfl (hb hby at_56) rfl (l' := #[.val (.int p0), .val (.ref b1), .val (.int (6 : Int32)), .unset]) rfl ?_
    show Steps p.tables e below (T15.setTop (mkF m 57 #[.val (.int p0), .val (.ref b1), .val (.int (6 : Int32)), .unset] [])) _
    refine XS.iloadN X15.here hx rfl (hb hby at_57) rfl ?_
    show Steps p.tables e below (T15.setTop (mkF m 58 #[.val (.int p0), .val (.ref b1), .val (.int (6 : Int32)), .unset] [(.int (6 : Int32))])) _
    refine XS.iconst X15.here hx rfl (hb hby at_58) ?_
    show Steps p.tables e below (T15.setTop (mkF m 59 #[.val (.int p0), .val (.ref b1), .val (.int (6 : Int32)), .unset] [(.int (1 : Int32)), (.int (6 : Int32))])) _
    refine XS.icmpNo X15.here hx rfl (hb hby at_59) rfl (feq (by decide : ¬ ((6 : Int32) = (1 : Int32)))).1 ?_
    show Steps p.tables e below (T15.setTop (mkF m 62 #[.val (.int p0), .val (.ref b1), .val (.int (6 : Int32)), .unset] [])) _
    refine XS.iloadN X15.here hx rfl (hb hby at_62) rfl ?_
    show Steps p.tables e below (T15.setTop (mkF m 63 #[.val (.int p0), .val (.ref b1), .val (.int (6 : Int32)), .unset] [(.int (6 : Int32))])) _
    refine XS.iconst X15.here hx rfl (hb hby at_63) ?_
    show Steps p.tables e below (T15.setTop (mkF m 64 #[.val (.int p0), .val (.ref b1), .val (.int (6 : Int32)), .unset] [(.int (2 : Int32)), (.int (6 : Int32))])) _
    refine XS.icmpYes X15.here hx rfl (pc0 := 64) (pc' := 71) rfl (hb hby at_64) rfl (feq (by decide : ¬ ((6 : Int32) = (2 : Int32)))).2 (by decide) (by decide) ?_
    show Steps p.tables e below (T15.setTop (mkF m 71 #[.val (.int p0), .val (.ref b1), .val (.int (6 : Int32)), .unset] [])) _
    refine XS.iconst X15.here hx rfl (hb hby at_71) ?_
    show Steps p.tables e below (T15.setTop (mkF m 72 #[.val (.int p0), .val (.ref b1), .val (.int (6 : Int32)), .unset] [(.int (0 : Int32))])) _
    refine XS.istoreN X15.here hx rfl (hb hby at_72) rfl (l' := #[.val (.int p0), .val (.ref b1), .val (.int (6 : Int32)), .val (.int (0 : Int32))]) rfl ?_
    show Steps p.tables e below (T15.setTop (mkF m 73 #[.val (.int p0), .val (.ref b1), .val (.int (6 : Int32)), .val (.int (0 : Int32))] [])) _
    refine XS.aloadN X15.here hx rfl (hb hby at_73) rfl rfl ?_
    show Steps p.tables e below (T15.setTop (mkF m 74 #[.val (.int p0), .val (.ref b1), .val (.int (6 : Int32)), .val (.int (0 : Int32))] [(.ref b1)])) _
    refine XS.iloadN X15.here hx rfl (hb hby at_74) rfl ?_
    show Steps p.tables e below (T15.setTop (mkF m 75 #[.val (.int p0), .val (.ref b1), .val (.int (6 : Int32)), .val (.int (0 : Int32))] [(.int (6 : Int32)), (.ref b1)])) _
    refine X15.aaload hx (j := (6 : Int32)) (v := (.ref w_JUMP_LIMIT)) (by rw [e15]; exact Ar16.1) (State.isArrayOf_alike hZ.alike Ar16.2.1) rfl Ar16.2.2 hin16 hat16 (g := (mkF m 75 #[.val (.int p0), .val (.ref b1), .val (.int (6 : Int32)), .val (.int (0 : Int32))] [(.int (6 : Int32)), (.ref b1)])) rfl rfl (hb hby at_75) _ ?_
    show Steps p.tables e below (T15.setTop (mkF m 76 #[.val (.int p0), .val (.ref b1), .val (.int (6 : Int32)), .val (.int (0 : Int32))] [(.ref w_JUMP_LIMIT)])) _
    refine st17.trans ?_
    show Steps p.tables e below (T17.setTop (mkF m 79 #[.val (.int p0), .val (.ref b1), .val (.int (6 : Int32)), .val (.int (0 : Int32))] [(.int (0 : Int32))])) _
    refine XS.iloadN X17.here hx rfl (hb hby at_79) rfl ?_
    show Steps p.tables e below (T17.setTop (mkF m 80 #[.val (.int p0), .val (.ref b1), .val (.int (6 : Int32)), .val (.int (0 : Int32))] [(.int (0 : Int32)), (.int (0 : Int32))])) _
    refine XS.icmpNo X17.here hx rfl (hb hby at_80) rfl (teq (by decide : (0 : Int32) = (0 : Int32))).2 ?_
    show Steps p.tables e below (T17.setTop (mkF m 83 #[.val (.int p0), .val (.ref b1), .val (.int (6 : Int32)), .val (.int (0 : Int32))] [])) _
    refine XS.iconst X17.here hx rfl (hb hby at_83) ?_
    show Steps p.tables e below (T17.setTop (mkF m 84 #[.val (.int p0), .val (.ref b1), .val (.int (6 : Int32)), .val (.int (0 : Int32))] [(.int (1 : Int32))])) _
    refine XS.goto X17.here hx rfl (pc0 := 84) (pc' := 88) rfl (hb hby at_84) (by decide) (by decide) ?_
    show Steps p.tables e below (T17.setTop (mkF m 88 #[.val (.int p0), .val (.ref b1), .val (.int (6 : Int32)), .val (.int (0 : Int32))] [(.int (1 : Int32))])) _
    exact retOut X17 hx Bd.returns rfl (Or.inl ⟨rfl, Or.inr (Or.inl rfl), _, rfl⟩) (hb hby at_88) hr
  · exact ⟨rfl, N17⟩
set_option maxRecDepth 65536 in
set_option maxHeartbeats 40000000 in
theorem comes_1 {Post : Tables → Env → Array Value → State → Outcome → State → Prop} (hpost : ∀ tb e args s v u, (limb_1_1.after args s (.returned v) u = true ∧ limb_1_2.after args s (.returned v) u = true) → FrameEnd s (.returned v) u (Jvm.fieldLocs frame_1_writes args s ++ Jvm.arrayLocs frame_1_arrays args s ++ Jvm.staticLocs frame_1_statics s) 16 128 → Post tb e args s (.returned v) u) :
    ArmFor flags0 classFile x code maxLocals ret World_1 tables_1 room_1 Calls_1 rest_1 Pre_1 Post := by
  intro l hfl _ _ p e ha hc hk s m args below hf hA hF happ hP
  obtain ⟨hcalls, hrest, hpre⟩ := hP
  obtain ⟨-, -, -, hnamed, -, -, -, hat⟩ := (Spec.applies_iff hf).mp happ
  obtain ⟨hg, n⟩ := and_e (Cond.before_iff.mp (show (Jvm.Cond.and given_1 narrow_1).before args s = true from hpre))
  obtain ⟨gc, g0⟩ := and_e hg
  obtain ⟨w0, rfl⟩ : ∃ w0 : Value, args = #[w0] := by
    have hs : args.size = 1 := by simpa [Cond.value, given_1] using gc
    obtain ⟨L⟩ := args
    match L, hs with
    | [w0], _ => exact ⟨w0, rfl⟩
  have hw := fun d (hd : d ∈ tables_1) => atoms_spec (ws := Jvm.Cond.code x code maxLocals ret :: tables_1) hat d (List.mem_cons_of_mem _ hd)
  obtain ⟨i0, ei0⟩ := is_v g0
  obtain rfl : w0 = (.int i0) := Option.some.inj ei0
  obtain ⟨n1, n2⟩ := and_e n
  obtain ⟨n21, n22⟩ := and_e n2
  obtain ⟨n221, n222⟩ := and_e n22
  obtain ⟨n2221, n2222⟩ := and_e n222
  obtain ⟨n22221, n22222⟩ := and_e n2222
  obtain ⟨n222221, n222222⟩ := and_e n22222
  obtain ⟨n2222221, n2222222⟩ := and_e n222222
  obtain ⟨n22222221, n22222222⟩ := and_e n2222222
  obtain ⟨n222222221, n222222222⟩ := and_e n22222222
  obtain ⟨n2222222221, n2222222222⟩ := and_e n222222222
  obtain ⟨n22222222221, n22222222222⟩ := and_e n2222222222
  obtain ⟨n222222222221, n222222222222⟩ := and_e n22222222222
  obtain ⟨n2222222222221, n2222222222222⟩ := and_e n222222222222
  obtain ⟨w_REFUSAL, v_w_REFUSAL⟩ := exa_v n1
  have S_w_REFUSAL : Sta s s.heap "com/example/lungfish/lungfish/engine/FailureKind" "REFUSAL" "Lcom/example/lungfish/lungfish/engine/FailureKind;" (.ref w_REFUSAL) := Sta.start v_w_REFUSAL (Or.inr ⟨(hw _ (List.mem_of_getElem? (i := 3) rfl)), (hw _ (List.mem_of_getElem? (i := 4) rfl))⟩)
  have E_w_REFUSAL := Exa.start v_w_REFUSAL n1
  obtain ⟨w_TRANSIENT, v_w_TRANSIENT⟩ := exa_v n21
  have S_w_TRANSIENT : Sta s s.heap "com/example/lungfish/lungfish/engine/FailureKind" "TRANSIENT" "Lcom/example/lungfish/lungfish/engine/FailureKind;" (.ref w_TRANSIENT) := Sta.start v_w_TRANSIENT (Or.inr ⟨(hw _ (List.mem_of_getElem? (i := 3) rfl)), (hw _ (List.mem_of_getElem? (i := 7) rfl))⟩)
  have E_w_TRANSIENT := Exa.start v_w_TRANSIENT n21
  obtain ⟨w_TIMEOUT, v_w_TIMEOUT⟩ := exa_v n221
  have S_w_TIMEOUT : Sta s s.heap "com/example/lungfish/lungfish/engine/FailureKind" "TIMEOUT" "Lcom/example/lungfish/lungfish/engine/FailureKind;" (.ref w_TIMEOUT) := Sta.start v_w_TIMEOUT (Or.inr ⟨(hw _ (List.mem_of_getElem? (i := 3) rfl)), (hw _ (List.mem_of_getElem? (i := 9) rfl))⟩)
  have E_w_TIMEOUT := Exa.start v_w_TIMEOUT n221
  obtain ⟨w_INVALID_CALL, v_w_INVALID_CALL⟩ := exa_v n2221
  have S_w_INVALID_CALL : Sta s s.heap "com/example/lungfish/lungfish/engine/FailureKind" "INVALID_CALL" "Lcom/example/lungfish/lungfish/engine/FailureKind;" (.ref w_INVALID_CALL) := Sta.start v_w_INVALID_CALL (Or.inr ⟨(hw _ (List.mem_of_getElem? (i := 3) rfl)), (hw _ (List.mem_of_getElem? (i := 11) rfl))⟩)
  have E_w_INVALID_CALL := Exa.start v_w_INVALID_CALL n2221
  obtain ⟨w_INVALID_ANSWER, v_w_INVALID_ANSWER⟩ := exa_v n22221
  have S_w_INVALID_ANSWER : Sta s s.heap "com/example/lungfish/lungfish/engine/FailureKind" "INVALID_ANSWER" "Lcom/example/lungfish/lungfish/engine/FailureKind;" (.ref w_INVALID_ANSWER) := Sta.start v_w_INVALID_ANSWER (Or.inr ⟨(hw _ (List.mem_of_getElem? (i := 3) rfl)), (hw _ (List.mem_of_getElem? (i := 13) rfl))⟩)
  have E_w_INVALID_ANSWER := Exa.start v_w_INVALID_ANSWER n22221
  obtain ⟨w_CONTEXT_TOO_LARGE, v_w_CONTEXT_TOO_LARGE⟩ := exa_v n222221
  have S_w_CONTEXT_TOO_LARGE : Sta s s.heap "com/example/lungfish/lungfish/engine/FailureKind" "CONTEXT_TOO_LARGE" "Lcom/example/lungfish/lungfish/engine/FailureKind;" (.ref w_CONTEXT_TOO_LARGE) := Sta.start v_w_CONTEXT_TOO_LARGE (Or.inr ⟨(hw _ (List.mem_of_getElem? (i := 3) rfl)), (hw _ (List.mem_of_getElem? (i := 15) rfl))⟩)
  have E_w_CONTEXT_TOO_LARGE := Exa.start v_w_CONTEXT_TOO_LARGE n222221
  obtain ⟨w_JUMP_LIMIT, v_w_JUMP_LIMIT⟩ := exa_v n2222221
  have S_w_JUMP_LIMIT : Sta s s.heap "com/example/lungfish/lungfish/engine/FailureKind" "JUMP_LIMIT" "Lcom/example/lungfish/lungfish/engine/FailureKind;" (.ref w_JUMP_LIMIT) := Sta.start v_w_JUMP_LIMIT (Or.inr ⟨(hw _ (List.mem_of_getElem? (i := 3) rfl)), (hw _ (List.mem_of_getElem? (i := 17) rfl))⟩)
  have E_w_JUMP_LIMIT := Exa.start v_w_JUMP_LIMIT n2222221
  have F_ordinal_w_REFUSAL := own_fld v_w_REFUSAL n22222221
  have F_ordinal_w_TRANSIENT := own_fld v_w_TRANSIENT n222222221
  have F_ordinal_w_TIMEOUT := own_fld v_w_TIMEOUT n2222222221
  have F_ordinal_w_INVALID_CALL := own_fld v_w_INVALID_CALL n22222222221
  have F_ordinal_w_CONTEXT_TOO_LARGE := own_fld v_w_CONTEXT_TOO_LARGE n222222222221
  have F_ordinal_w_JUMP_LIMIT := own_fld v_w_JUMP_LIMIT n2222222222221
  have F_ordinal_w_INVALID_ANSWER := own_fld v_w_INVALID_ANSWER n2222222222222
  have G : Glob s s.heap w_REFUSAL w_TRANSIENT w_TIMEOUT w_INVALID_CALL w_INVALID_ANSWER w_CONTEXT_TOO_LARGE w_JUMP_LIMIT := ⟨S_w_REFUSAL, E_w_REFUSAL, S_w_TRANSIENT, E_w_TRANSIENT, S_w_TIMEOUT, E_w_TIMEOUT, S_w_INVALID_CALL, E_w_INVALID_CALL, S_w_INVALID_ANSWER, E_w_INVALID_ANSWER, S_w_CONTEXT_TOO_LARGE, E_w_CONTEXT_TOO_LARGE, S_w_JUMP_LIMIT, E_w_JUMP_LIMIT, F_ordinal_w_REFUSAL, F_ordinal_w_TRANSIENT, F_ordinal_w_TIMEOUT, F_ordinal_w_INVALID_CALL, F_ordinal_w_CONTEXT_TOO_LARGE, F_ordinal_w_JUMP_LIMIT, F_ordinal_w_INVALID_ANSWER⟩
  rcases own_cases_rem7 i0 with hi | hi | hi | hi | hi | hi | hi
  · obtain ⟨n, o, h1, h2, h3, _, L, rfl, ⟨rfl, N⟩, hq⟩ := law_0 l s _ hw tables_1 w_REFUSAL w_TRANSIENT w_TIMEOUT w_INVALID_CALL w_INVALID_ANSWER w_CONTEXT_TOO_LARGE w_JUMP_LIMIT s.heap s.heap.size (Nat.le_refl _) G i0 hi p e ha hc hk s m _ below hf ((Spec.applies_iff_loose hf).mp happ).1 ⟨rfl, State.Warmed39.refl s, rfl⟩ trivial
    exact ⟨n, _, h1, h2, h3, hpost _ _ _ _ _ _ ⟨Cond.after_iff.mpr rfl, Cond.after_iff.mpr (eq_i res_at (Term.int_eval (1)) rfl)⟩ ⟨hq.1, hq.2.1, (hq.2.2.sift fun y hy => Or.inr (N y hy)).mono (by decide) (by decide)⟩⟩
  · obtain ⟨n, o, h1, h2, h3, _, L, rfl, ⟨rfl, N⟩, hq⟩ := law_1 l s _ hw tables_1 w_REFUSAL w_TRANSIENT w_TIMEOUT w_INVALID_CALL w_INVALID_ANSWER w_CONTEXT_TOO_LARGE w_JUMP_LIMIT s.heap s.heap.size (Nat.le_refl _) G i0 hi p e ha hc hk s m _ below hf ((Spec.applies_iff_loose hf).mp happ).1 ⟨rfl, State.Warmed39.refl s, rfl⟩ trivial
    exact ⟨n, _, h1, h2, h3, hpost _ _ _ _ _ _ ⟨Cond.after_iff.mpr rfl, Cond.after_iff.mpr (eq_i res_at (Term.int_eval (1)) rfl)⟩ ⟨hq.1, hq.2.1, (hq.2.2.sift fun y hy => Or.inr (N y hy)).mono (by decide) (by decide)⟩⟩
  · obtain ⟨n, o, h1, h2, h3, _, L, rfl, ⟨rfl, N⟩, hq⟩ := law_2 l s _ hw tables_1 w_REFUSAL w_TRANSIENT w_TIMEOUT w_INVALID_CALL w_INVALID_ANSWER w_CONTEXT_TOO_LARGE w_JUMP_LIMIT s.heap s.heap.size (Nat.le_refl _) G i0 hi p e ha hc hk s m _ below hf ((Spec.applies_iff_loose hf).mp happ).1 ⟨rfl, State.Warmed39.refl s, rfl⟩ trivial
    exact ⟨n, _, h1, h2, h3, hpost _ _ _ _ _ _ ⟨Cond.after_iff.mpr rfl, Cond.after_iff.mpr (eq_i res_at (Term.int_eval (1)) rfl)⟩ ⟨hq.1, hq.2.1, (hq.2.2.sift fun y hy => Or.inr (N y hy)).mono (by decide) (by decide)⟩⟩
  · obtain ⟨n, o, h1, h2, h3, _, L, rfl, ⟨rfl, N⟩, hq⟩ := law_3 l s _ hw tables_1 w_REFUSAL w_TRANSIENT w_TIMEOUT w_INVALID_CALL w_INVALID_ANSWER w_CONTEXT_TOO_LARGE w_JUMP_LIMIT s.heap s.heap.size (Nat.le_refl _) G i0 hi p e ha hc hk s m _ below hf ((Spec.applies_iff_loose hf).mp happ).1 ⟨rfl, State.Warmed39.refl s, rfl⟩ trivial
    exact ⟨n, _, h1, h2, h3, hpost _ _ _ _ _ _ ⟨Cond.after_iff.mpr rfl, Cond.after_iff.mpr (eq_i res_at (Term.int_eval (1)) rfl)⟩ ⟨hq.1, hq.2.1, (hq.2.2.sift fun y hy => Or.inr (N y hy)).mono (by decide) (by decide)⟩⟩
  · obtain ⟨n, o, h1, h2, h3, _, L, rfl, ⟨rfl, N⟩, hq⟩ := law_4 l s _ hw tables_1 w_REFUSAL w_TRANSIENT w_TIMEOUT w_INVALID_CALL w_INVALID_ANSWER w_CONTEXT_TOO_LARGE w_JUMP_LIMIT s.heap s.heap.size (Nat.le_refl _) G i0 hi p e ha hc hk s m _ below hf ((Spec.applies_iff_loose hf).mp happ).1 ⟨rfl, State.Warmed39.refl s, rfl⟩ trivial
    exact ⟨n, _, h1, h2, h3, hpost _ _ _ _ _ _ ⟨Cond.after_iff.mpr rfl, Cond.after_iff.mpr (eq_i res_at (Term.int_eval (1)) rfl)⟩ ⟨hq.1, hq.2.1, (hq.2.2.sift fun y hy => Or.inr (N y hy)).mono (by decide) (by decide)⟩⟩
  · obtain ⟨n, o, h1, h2, h3, _, L, rfl, ⟨rfl, N⟩, hq⟩ := law_5 l s _ hw tables_1 w_REFUSAL w_TRANSIENT w_TIMEOUT w_INVALID_CALL w_INVALID_ANSWER w_CONTEXT_TOO_LARGE w_JUMP_LIMIT s.heap s.heap.size (Nat.le_refl _) G i0 hi p e ha hc hk s m _ below hf ((Spec.applies_iff_loose hf).mp happ).1 ⟨rfl, State.Warmed39.refl s, rfl⟩ trivial
    exact ⟨n, _, h1, h2, h3, hpost _ _ _ _ _ _ ⟨Cond.after_iff.mpr rfl, Cond.after_iff.mpr (eq_i res_at (Term.int_eval (1)) rfl)⟩ ⟨hq.1, hq.2.1, (hq.2.2.sift fun y hy => Or.inr (N y hy)).mono (by decide) (by decide)⟩⟩
  · obtain ⟨n, o, h1, h2, h3, _, L, rfl, ⟨rfl, N⟩, hq⟩ := law_6 l s _ hw tables_1 w_REFUSAL w_TRANSIENT w_TIMEOUT w_INVALID_CALL w_INVALID_ANSWER w_CONTEXT_TOO_LARGE w_JUMP_LIMIT s.heap s.heap.size (Nat.le_refl _) G i0 hi p e ha hc hk s m _ below hf ((Spec.applies_iff_loose hf).mp happ).1 ⟨rfl, State.Warmed39.refl s, rfl⟩ trivial
    exact ⟨n, _, h1, h2, h3, hpost _ _ _ _ _ _ ⟨Cond.after_iff.mpr rfl, Cond.after_iff.mpr (eq_i res_at (Term.int_eval (1)) rfl)⟩ ⟨hq.1, hq.2.1, (hq.2.2.sift fun y hy => Or.inr (N y hy)).mono (by decide) (by decide)⟩⟩
theorem main_1_1 : Claimed_1_1 := comes_1 fun _ _ _ _ _ _ h hF => ⟨h.1, hF⟩
theorem main_1_2 : Claimed_1_2 := comes_1 fun _ _ _ _ _ _ h hF => ⟨h.2, hF⟩
end Jvm.Pilot.@@N@@
namespace Jvm.Pilot.@@N@@
open Jvm Jvm.ClassFile Sem Op Lib Jvm.Free Jvm.Stand Jvm.Pilot.@@N@@.Jvm.D
/-! MADE BY PROGRAM (witnessworld.py) out of the Statement's table words and the real class files: 11 classes; the members and pool entries that the words name. The judged class is class 1, her method 1. -/
namespace start1
open Jvm.ClassFile
def u (s : String) : CpInfo := .utf8 (stringToUtf16 s)
/-- a pool by its gaps: so many unusable entries, then the entry; so many at the end -/
def gap : Nat → List CpInfo → List CpInfo
  | 0, r => r
  | n + 1, r => .unusable :: gap n r
def poolList (es : List (Nat × CpInfo)) (last : Nat) : List CpInfo := es.foldr (fun e r => gap e.1 (e.2 :: r)) (gap last [])
def pool (es : List (Nat × CpInfo)) (last : Nat) : Array CpInfo := ⟨poolList es last⟩
def fileOf (pool : Array CpInfo) (this : Nat) (attrs : Array Attribute := #[]) (ms : Array MethodInfo := #[]) (fl : Nat := 33) (sup : Nat := 0) (ifs : Array Nat := #[]) (fds : Array FieldInfo := #[]) : ClassFile where
  minorVersion := 0
  majorVersion := 65
  constantPool := pool
  accessFlags := fl
  thisClass := this
  superClass := sup
  interfaces := ifs
  fields := fds
  methods := ms
  attributes := attrs
def plain (name : String) (sup : Option ClassId) : Class where
  name := name
  kind := .ordinary
  loader := none
  accessFlags := 33
  super := sup
  interfaces := #[]
  cf := none
  fields := #[]
  methods := #[]
  instanceTypes := #[]
  staticTypes := #[]
  resolved := #[]
  callSites := []
  init := .initialized
  statics := none
  mirror := none

def pool0 : Array CpInfo := pool [(5, u "<init>"), (0, u "()V"), (1, .class_ 10), (1, u "java/lang/Object")] 113

def k0m0 : Method := { name := "<init>", desc := "()V", sig := { parameters := [], returnType := none }, accessFlags := 1, code := none }
/-- java/lang/Object -/
def k0 : Class := { plain "java/lang/Object" none with
  accessFlags := 33
  interfaces := #[]
  cf := some (fileOf pool0 8 #[] #[{ accessFlags := 1, nameIndex := 5, descriptorIndex := 6, attributes := #[] }] 33 0 #[] #[])
  fields := #[]
  methods := #[k0m0]
  instanceTypes := #[]
  staticTypes := #[]
  resolved := Array.replicate 124 none
  statics := none }

def pool1 : Array CpInfo := pool [(2, .class_ 4), (1, u "java/lang/Object"), (0, u "<init>"), (0, u "()V"), (0, .class_ 8), (0, u "com/example/lungfish/lungfish/engine/FailureKind"), (0, .fieldref 7 10), (0, .nameAndType 11 12), (0, u "REFUSAL"), (0, u "Lcom/example/lungfish/lungfish/engine/FailureKind;"), (0, .fieldref 7 14), (0, .nameAndType 15 12), (0, u "TRANSIENT"), (0, .fieldref 7 17), (0, .nameAndType 18 12), (0, u "TIMEOUT"), (0, .fieldref 7 20), (0, .nameAndType 21 12), (0, u "INVALID_CALL"), (0, .fieldref 7 23), (0, .nameAndType 24 12), (0, u "INVALID_ANSWER"), (0, .fieldref 7 26), (0, .nameAndType 27 12), (0, u "CONTEXT_TOO_LARGE"), (0, .fieldref 7 29), (0, .nameAndType 30 12), (0, u "JUMP_LIMIT"), (0, .integer 2147483647), (0, .methodref 7 33), (0, .nameAndType 34 35), (0, u "isRetryable"), (0, u "()Z"), (0, .class_ 37), (0, u "com/example/lungfish/lungfish/engine/FailureKindIsRetryablePinLaw"), (2, u "law"), (0, u "(I)Z")] 5

def k1m0 : Method := { name := "<init>", desc := "()V", sig := { parameters := [], returnType := none }, accessFlags := 1, code := none }
def k1c1 : Code := { maxStack := 4, maxLocals := 4, code := code, exceptionTable := #[], attributes := #[] }
def k1m1 : Method := { name := "law", desc := "(I)Z", sig := { parameters := [.int], returnType := some .boolean }, accessFlags := 9, code := some k1c1 }
/-- com/example/lungfish/lungfish/engine/FailureKindIsRetryablePinLaw -/
def k1 : Class := { plain "com/example/lungfish/lungfish/engine/FailureKindIsRetryablePinLaw" (some 0) with
  accessFlags := 49
  interfaces := #[]
  cf := some (fileOf pool1 36 #[] #[{ accessFlags := 1, nameIndex := 5, descriptorIndex := 6, attributes := #[] }, { accessFlags := 9, nameIndex := 40, descriptorIndex := 41, attributes := #[] }] 49 2 #[] #[])
  fields := #[]
  methods := #[k1m0, k1m1]
  instanceTypes := #[]
  staticTypes := #[]
  resolved := Array.replicate 47 none
  statics := none }

def pool2 : Array CpInfo := pool [(1, .class_ 2), (0, u "java/lang/constant/Constable"), (0, .class_ 4), (0, u "java/lang/Object")] 6

/-- java/lang/constant/Constable -/
def k2 : Class := { plain "java/lang/constant/Constable" (some 0) with
  accessFlags := 1537
  interfaces := #[]
  cf := some (fileOf pool2 1 #[] #[] 1537 3 #[] #[])
  fields := #[]
  methods := #[]
  instanceTypes := #[]
  staticTypes := #[]
  resolved := Array.replicate 11 none
  statics := none }

def pool3 : Array CpInfo := pool [(1, .class_ 2), (0, u "java/lang/Comparable"), (0, .class_ 4), (0, u "java/lang/Object")] 7

/-- java/lang/Comparable -/
def k3 : Class := { plain "java/lang/Comparable" (some 0) with
  accessFlags := 1537
  interfaces := #[]
  cf := some (fileOf pool3 1 #[] #[] 1537 3 #[] #[])
  fields := #[]
  methods := #[]
  instanceTypes := #[]
  staticTypes := #[]
  resolved := Array.replicate 12 none
  statics := none }

def pool4 : Array CpInfo := pool [(1, .class_ 2), (0, u "java/io/Serializable"), (0, .class_ 4), (0, u "java/lang/Object")] 2

/-- java/io/Serializable -/
def k4 : Class := { plain "java/io/Serializable" (some 0) with
  accessFlags := 1537
  interfaces := #[]
  cf := some (fileOf pool4 1 #[] #[] 1537 3 #[] #[])
  fields := #[]
  methods := #[]
  instanceTypes := #[]
  staticTypes := #[]
  resolved := Array.replicate 7 none
  statics := none }

def pool5 : Array CpInfo := pool [(2, .class_ 4), (1, u "java/lang/Enum"), (0, u "name"), (0, u "Ljava/lang/String;"), (2, u "ordinal"), (0, u "I"), (1, .class_ 14), (1, u "java/lang/Object"), (4, u "hash"), (86, .class_ 108), (1, u "java/lang/Enum$EnumDesc"), (2, .class_ 112), (0, u "java/lang/constant/Constable"), (0, .class_ 114), (0, u "java/lang/Comparable"), (0, .class_ 116), (0, u "java/io/Serializable")] 87

/-- java/lang/Enum -/
def k5 : Class := { plain "java/lang/Enum" (some 0) with
  accessFlags := 1057
  interfaces := #[2, 3, 4]
  cf := some (fileOf pool5 2 #[.nestMembers #[106]] #[] 1057 12 #[111, 113, 115] #[{ accessFlags := 18, nameIndex := 5, descriptorIndex := 6, attributes := #[] }, { accessFlags := 18, nameIndex := 9, descriptorIndex := 10, attributes := #[] }, { accessFlags := 2, nameIndex := 19, descriptorIndex := 10, attributes := #[] }])
  fields := #[{ name := "name", type := (.object "java/lang/String"), accessFlags := 18, slot := 0, constantValue := 0 }, { name := "ordinal", type := .int, accessFlags := 18, slot := 1, constantValue := 0 }, { name := "hash", type := .int, accessFlags := 2, slot := 2, constantValue := 0 }]
  methods := #[]
  instanceTypes := #[(.object "java/lang/String"), .int, .int]
  staticTypes := #[]
  resolved := Array.replicate 204 none
  statics := none }

def pool6 : Array CpInfo := pool [(1, .class_ 2), (0, u "com/example/lungfish/lungfish/engine/FailureKind"), (2, u "REFUSAL"), (0, u "Lcom/example/lungfish/lungfish/engine/FailureKind;"), (0, .fieldref 1 8), (0, .nameAndType 9 6), (0, u "TRANSIENT"), (0, .fieldref 1 11), (0, .nameAndType 12 6), (0, u "TIMEOUT"), (2, u "INVALID_CALL"), (2, u "INVALID_ANSWER"), (2, u "CONTEXT_TOO_LARGE"), (2, u "JUMP_LIMIT"), (2, u "$VALUES"), (0, u "[Lcom/example/lungfish/lungfish/engine/FailureKind;"), (6, .class_ 37), (1, u "java/lang/Enum"), (47, u "isRetryable"), (0, u "()Z")] 6

def k6c0 : Code := { maxStack := 2, maxLocals := 1, code := prog_10_method_5_code, exceptionTable := #[], attributes := #[] }
def k6m0 : Method := { name := "isRetryable", desc := "()Z", sig := { parameters := [], returnType := some .boolean }, accessFlags := 1, code := some k6c0 }
/-- com/example/lungfish/lungfish/engine/FailureKind -/
def k6 : Class := { plain "com/example/lungfish/lungfish/engine/FailureKind" (some 5) with
  accessFlags := 16433
  interfaces := #[]
  cf := some (fileOf pool6 1 #[] #[{ accessFlags := 1, nameIndex := 85, descriptorIndex := 86, attributes := #[] }] 16433 35 #[] #[{ accessFlags := 16409, nameIndex := 5, descriptorIndex := 6, attributes := #[] }, { accessFlags := 16409, nameIndex := 9, descriptorIndex := 6, attributes := #[] }, { accessFlags := 16409, nameIndex := 12, descriptorIndex := 6, attributes := #[] }, { accessFlags := 16409, nameIndex := 15, descriptorIndex := 6, attributes := #[] }, { accessFlags := 16409, nameIndex := 18, descriptorIndex := 6, attributes := #[] }, { accessFlags := 16409, nameIndex := 21, descriptorIndex := 6, attributes := #[] }, { accessFlags := 16409, nameIndex := 24, descriptorIndex := 6, attributes := #[] }, { accessFlags := 4122, nameIndex := 27, descriptorIndex := 28, attributes := #[] }])
  fields := #[{ name := "REFUSAL", type := (.object "com/example/lungfish/lungfish/engine/FailureKind"), accessFlags := 16409, slot := 0, constantValue := 0 }, { name := "TRANSIENT", type := (.object "com/example/lungfish/lungfish/engine/FailureKind"), accessFlags := 16409, slot := 1, constantValue := 0 }, { name := "TIMEOUT", type := (.object "com/example/lungfish/lungfish/engine/FailureKind"), accessFlags := 16409, slot := 2, constantValue := 0 }, { name := "INVALID_CALL", type := (.object "com/example/lungfish/lungfish/engine/FailureKind"), accessFlags := 16409, slot := 3, constantValue := 0 }, { name := "INVALID_ANSWER", type := (.object "com/example/lungfish/lungfish/engine/FailureKind"), accessFlags := 16409, slot := 4, constantValue := 0 }, { name := "CONTEXT_TOO_LARGE", type := (.object "com/example/lungfish/lungfish/engine/FailureKind"), accessFlags := 16409, slot := 5, constantValue := 0 }, { name := "JUMP_LIMIT", type := (.object "com/example/lungfish/lungfish/engine/FailureKind"), accessFlags := 16409, slot := 6, constantValue := 0 }, { name := "$VALUES", type := (.array (.object "com/example/lungfish/lungfish/engine/FailureKind")), accessFlags := 4122, slot := 7, constantValue := 0 }]
  methods := #[k6m0]
  instanceTypes := #[(.object "java/lang/String"), .int, .int]
  staticTypes := #[(.object "com/example/lungfish/lungfish/engine/FailureKind"), (.object "com/example/lungfish/lungfish/engine/FailureKind"), (.object "com/example/lungfish/lungfish/engine/FailureKind"), (.object "com/example/lungfish/lungfish/engine/FailureKind"), (.object "com/example/lungfish/lungfish/engine/FailureKind"), (.object "com/example/lungfish/lungfish/engine/FailureKind"), (.object "com/example/lungfish/lungfish/engine/FailureKind"), (.array (.object "com/example/lungfish/lungfish/engine/FailureKind"))]
  resolved := Array.replicate 93 none
  statics := some 0 }

def pool7 : Array CpInfo := pool [(1, u "java/lang/Cloneable"), (0, .class_ 1), (0, u "java/lang/Object"), (0, .class_ 3)] 3

/-- java/lang/Cloneable -/
def k7 : Class := { plain "java/lang/Cloneable" (some 0) with
  accessFlags := 1537
  interfaces := #[]
  cf := some (fileOf pool7 2 #[] #[] 1537 4 #[] #[])
  fields := #[]
  methods := #[]
  instanceTypes := #[]
  staticTypes := #[]
  resolved := Array.replicate 8 none
  statics := none }

/-- the primitive byte -/
def k8 : Class := { plain "byte" none with kind := .primitive 'B', accessFlags := 0x411 }
/-- [B -/
def k9 : Class := { plain "[B" (some 0) with kind := .array 8 .byte, interfaces := #[7, 4], accessFlags := 1041 }

/-- [Lcom/example/lungfish/lungfish/engine/FailureKind; -/
def k10 : Class := { plain "[Lcom/example/lungfish/lungfish/engine/FailureKind;" (some 0) with kind := .array 6 (.object "com/example/lungfish/lungfish/engine/FailureKind"), interfaces := #[7, 4], accessFlags := 1041 }

def heap : Heap := #[{ cls := 6, slots := #[.ref 1, .ref 2, .ref 3, .ref 4, .ref 5, .ref 6, .ref 7, .null], vm := .statics 6 },
  { cls := 6, slots := #[.null, .int 0, .int 0], vm := .none },
  { cls := 6, slots := #[.null, .int 1, .int 0], vm := .none },
  { cls := 6, slots := #[.null, .int 2, .int 0], vm := .none },
  { cls := 6, slots := #[.null, .int 3, .int 0], vm := .none },
  { cls := 6, slots := #[.null, .int 4, .int 0], vm := .none },
  { cls := 6, slots := #[.null, .int 5, .int 0], vm := .none },
  { cls := 6, slots := #[.null, .int 6, .int 0], vm := .none }]
def classes : Array Class := #[k0, k1, k2, k3, k4, k5, k6, k7, k8, k9, k10]
def interned : List (Array UInt16 × Addr) := []
def slotsUsed : Nat := 29
def theMethod : MethodId := ⟨1, 1⟩
def args0 : Array Value := #[.int 5]
def aboutOver (below : List Frame) : State where
  vm := { classes := classes, interned := interned.toArray }
  heap := heap
  slotsUsed := slotsUsed
  threads := #[{ frames := .invoking theMethod args0 :: below }]
def below0 : List Frame := [.native { method := ⟨0, 0⟩, args := #[] }]
def about1 : State := aboutOver below0
def p0 : Program := .bare "" "" ""
def e0 : Env := launch0.env 0 0 0
theorem w_frames : about1.frames = Frame.invoking theMethod args0 :: below0 := rfl
set_option maxRecDepth 65536 in
theorem w_args : argsFit about1.vm theMethod args0 = true := by decide +kernel
set_option maxRecDepth 65536 in
theorem w_heap : heapFits about1 = true := by decide +kernel
set_option maxRecDepth 65536 in
theorem w_runnable : about1.curStatus? = some .runnable := by decide +kernel
set_option maxRecDepth 65536 in
theorem w_alone : about1.alone = true := by decide +kernel
set_option maxRecDepth 65536 in
theorem w_named : about1.methodNamed? x = some theMethod := by decide +kernel
set_option maxRecDepth 65536 in
theorem w_hears : about1.hears theMethod below0 = true := by decide +kernel
set_option maxRecDepth 65536 in
theorem w_ripe : about1.ripe theMethod args0 below0 = true := by decide +kernel
theorem w_running : about1.status = .running := rfl
set_option maxRecDepth 65536 in
theorem w_room : about1.hasRoom e0.platform room_1 = true :=
  launch0.hasRoom_least _ room_1 (by decide +kernel) (by decide +kernel) (by decide +kernel) (by decide +kernel) (by decide +kernel) (by decide +kernel)
theorem allAtoms_all (ts : List Jvm.Cond) (a : Array Jvm.Value) (st : Jvm.State) : (allAtoms ts).before a st = ts.all (fun c => c.before a st) := by
  induction ts with
  | nil => rfl
  | cons c t ih =>
    show (Jvm.Cond.and c (allAtoms t)).before a st = _
    rw [Jvm.Cond.before_and, ih, List.all_cons]
def words1 : List Jvm.Cond := Jvm.Cond.code x code maxLocals ret :: tables_1
/-- a 'code' word, met by the world's own term for the bytes: nothing is compared byte by byte -/
theorem code_word {y : MethodName} {bytes : ByteArray} {mx : Nat} {rt : Option FieldType} {a : Array Value} {s : State} {m : MethodId} {meth : Method} {c : Code} (h1 : s.methodNamed? y = some m) (h2 : s.vm.method? m = some meth) (h3 : meth.code = some c) (h4 : c.code = bytes)
    (h5 : (c.maxLocals == mx && c.exceptionTable.isEmpty && decide (c.maxStack ≤ mostOperands) && decide (meth.sig.returnType = rt) && !meth.locks && decide (parseMethodDescriptor y.desc = some meth.sig)) = true) : (Jvm.Cond.code y bytes mx rt).before a s = true := by
  simp only [Bool.and_eq_true, beq_iff_eq, Bool.not_eq_true', decide_eq_true_eq] at h5
  obtain ⟨⟨⟨⟨⟨g1, g2⟩, g3⟩, g4⟩, g5⟩, g6⟩ := h5
  simp [Cond.before, Cond.holds, Cond.value, h1, h2, h3, h4, g1, g2, g3, g4, g5, g6]
def isCode : Jvm.Cond → Bool
  | .code _ _ _ _ => true
  | _ => false
theorem all_split {L : List Jvm.Cond} {P : Jvm.Cond → Bool} (h1 : L.all (fun c => isCode c || P c) = true) (h2 : ∀ c ∈ L.filter isCode, P c = true) : L.all P = true := by
  refine List.all_eq_true.mpr fun c hc => ?_
  have h := List.all_eq_true.mp h1 c hc
  rcases Bool.eq_false_or_eq_true (isCode c) with hi | hi
  · exact h2 c (List.mem_filter.mpr ⟨hc, hi⟩)
  · simpa [hi] using h
set_option maxRecDepth 65536 in
theorem w_c0 : (Jvm.Cond.code x code maxLocals ret).before args0 about1 = true := code_word (m := ⟨1, 1⟩) (meth := k1m1) (c := k1c1) (by decide +kernel) rfl rfl rfl (by decide +kernel)
set_option maxRecDepth 65536 in
theorem w_c1 : (Jvm.Cond.code ({ cls := "com/example/lungfish/lungfish/engine/FailureKind", name := "isRetryable", desc := "()Z" } : Jvm.MethodName) prog_10_method_5_code (1 : Nat) (Option.some Jvm.ClassFile.FieldType.boolean)).before args0 about1 = true := code_word (m := ⟨6, 0⟩) (meth := k6m0) (c := k6c0) (by decide +kernel) rfl rfl rfl (by decide +kernel)
def codes1 : List Jvm.Cond := [Jvm.Cond.code x code maxLocals ret, Jvm.Cond.code ({ cls := "com/example/lungfish/lungfish/engine/FailureKind", name := "isRetryable", desc := "()Z" } : Jvm.MethodName) prog_10_method_5_code (1 : Nat) (Option.some Jvm.ClassFile.FieldType.boolean)]
set_option maxRecDepth 65536 in
theorem codes_eq : words1.filter isCode = codes1 := rfl
theorem w_codes : ∀ c ∈ words1.filter isCode, c.before args0 about1 = true := by
  rw [codes_eq]
  intro c hc
  simp only [codes1, List.mem_cons, List.not_mem_nil, or_false] at hc
  rcases hc with rfl | rfl
  · exact w_c0
  · exact w_c1
set_option maxRecDepth 65536 in
theorem w_t1 : (words1.take 24).all (fun c => isCode c || c.before args0 about1) = true := by decide +kernel
set_option maxRecDepth 65536 in
theorem w_t2 : (words1.drop 24).all (fun c => isCode c || c.before args0 about1) = true := by decide +kernel
theorem w_tables : (allAtoms (Jvm.Cond.code x code maxLocals ret :: tables_1)).before args0 about1 = true := by
  rw [allAtoms_all]
  show words1.all (fun c => c.before args0 about1) = true
  refine all_split ?_ w_codes
  rw [← List.take_append_drop 24 words1, List.all_append, w_t1, w_t2]
  rfl
set_option maxRecDepth 65536 in
theorem w_case : (Jvm.Cond.and given_1 narrow_1).before args0 about1 = true := by decide +kernel
theorem w_applies : (headSpec (Jvm.Cond.code x code maxLocals ret :: tables_1) room_1).applies x e0.platform about1 = true :=
  (Spec.applies_iff w_frames).mpr ⟨w_running, w_runnable, w_alone, w_named, w_hears, w_ripe, w_room, w_tables⟩
theorem atStart : AtStart classFile x code maxLocals ret World_1 tables_1 room_1 Calls_1 rest_1 Pre_1 launch0 p0 e0 about1 theMethod args0 below0 :=
  ⟨lists_1, trivial, launch0.admits_env _ _ _, launch0.least_env, fairChoices_fair.cas, fairChoices_fair.clock, w_frames, w_args, w_heap, w_applies, trivial, trivial, w_case⟩
end start1
theorem witness_1 : WitnessClaimed_1 := ⟨start1.p0, start1.e0, start1.about1, start1.theMethod, start1.args0, start1.below0, start1.atStart⟩
end Jvm.Pilot.@@N@@
