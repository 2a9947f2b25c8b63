import JvmDerived
import JvmDerived.Pilot.@@N@@Statement
import JvmDerived.Pilot.@@N@@Code
set_option linter.unusedVariables false
set_option linter.unusedSimpArgs false
namespace Jvm.Pilot.@@N@@
open Jvm Jvm.ClassFile Sem Op Lib Jvm.Free Jvm.Stand Jvm.LawKit Jvm.RoadKit Bundle Jvm.Pilot.@@N@@.Jvm.D
/-! 1. small laws of this text -/
theorem own_sta_keep {Z : State} {h h' : Heap} {C n d : String} {v : Value} (F : Sta Z h C n d v) (K : Keep h h' []) : Sta Z h' C n d v := by
  obtain ⟨cf, i, k, f, st, cell, h1, h2, h3, h4, h5, r⟩ := F
  exact ⟨cf, i, k, f, st, cell, h1, h2, h3, h4, K.2.1 _ _ h5 nin0, r⟩
theorem own_ins_keep {Z : State} {h h' : Heap} {a : Addr} {C : String} {b : Bool} {ws : List Addr} (F : Ins Z h a C b) (K : Keep h h' ws) : Ins Z h' a C b := by
  obtain ⟨cell, cT, h1, h2, h3⟩ := F
  obtain ⟨c', q, e1, e2, -⟩ := K.2.2 _ _ h1
  exact ⟨c', cT, q, h2, by rw [e1, e2]; exact h3⟩
/-- null, or an object that an Object[] takes -/
def Obj (Z : State) (h : Heap) (v : Value) : Prop := v = .null ∨ ∃ y, v = .ref y ∧ Ins Z h y "java/lang/Object" true
theorem own_obj_keep {Z : State} {h h' : Heap} {v : Value} {ws : List Addr} (F : Obj Z h v) (K : Keep h h' ws) : Obj Z h' v := F.imp id fun ⟨y, e, q⟩ => ⟨y, e, own_ins_keep q K⟩
theorem own_obj {Z : State} {h : Heap} {a : Addr} {C : String} {a0 : Array Value} (E : Exa Z h a C) (w : (Jvm.Cond.castable C "java/lang/Object").before a0 Z = true) : Obj Z h (.ref a) := Or.inr ⟨a, rfl, Ins.of_exa E w⟩
theorem own_obj_ref {Z : State} {h : Heap} {v : Value} (F : Obj Z h v) : v.isRef = true := by
  rcases F with rfl | ⟨y, rfl, -⟩ <;> rfl
theorem own_cat {v : Value} (r : v.isRef = true) : v.category = 1 := by
  rcases ref_cases r with rfl | ⟨y, rfl⟩ <;> rfl
theorem own_cr (a : Addr) : Value.category (.ref a) = 1 := rfl
theorem own_ci (a : Int32) : Value.category (.int a) = 1 := rfl
theorem own_cj (a : Int64) : Value.category (.long a) = 2 := rfl
theorem own_fits {v : Value} {C : String} (r : v.isRef = true) : fits (.object C) v = true := by
  rcases ref_cases r with rfl | ⟨y, rfl⟩ <;> rfl
theorem own_sto {Z : State} {h : Heap} {a : Addr} {c : Cell} {ty : FieldType} {k : ClassId} {v : Value} (A : Arr Z h a c ty) (q : c.cls = k) (O : Ovr Z k "java/lang/Object") (F : Obj Z h v) : Sto Z h a v := by
  rcases F with rfl | ⟨y, rfl, I⟩
  · exact Or.inl rfl
  · exact Sto.ofV A q O I
/-- the boxes' cache -/
def Cache (Z : State) (h : Heap) (K C d : String) (w : Addr) (c : Cell) : Prop := Sta Z h C "cache" d (.ref w) ∧ Arr Z h w c (.object K) ∧ c.slots.size = 256 ∧ ∀ j : Int32, ¬ (j < 0 ∨ c.slots.size ≤ j.toNatClampNeg) → ∃ b, c.slots[j.toNatClampNeg]? = some (.ref b) ∧ Exa Z h b K
theorem Cache.keep {Z : State} {h h' : Heap} {K C d : String} {w : Addr} {c : Cell} (F : Cache Z h K C d w c) (K' : Keep h h' []) : Cache Z h' K C d w c := by
  obtain ⟨h1, h2, h3, h4⟩ := F
  refine ⟨own_sta_keep h1 K', ⟨K'.2.1 _ _ h2.1 nin0, h2.2⟩, h3, fun j hj => ?_⟩
  obtain ⟨b, e1, e2⟩ := h4 j hj
  exact ⟨b, e1, e2.keep K'⟩
theorem own_cache {Z : State} {args : Array Value} {t : Term} {w : Addr} {K : String} {c : Cell} {G : Jvm.Cond} (ev : ∀ idx, t.eval args Z none idx Z = some (.ref w)) (A : Arr Z Z.heap w c (.object K)) (h : (Jvm.Cond.all t (.and (.exactly (.elem t (.index 0)) K) G)).value args Z none Z [] = some true) :
    ∀ j : Int32, ¬ (j < 0 ∨ c.slots.size ≤ j.toNatClampNeg) → ∃ b, c.slots[j.toNatClampNeg]? = some (.ref b) ∧ Exa Z Z.heap b K := fun j hj => by
  have nn : ¬ j < 0 := fun x => hj (Or.inl x)
  obtain ⟨u1, -⟩ := and_e (Cond.all_elim (ev []) (A.fin (Vm.Alike.refl _)) h j.toNatClampNeg (Nat.lt_of_not_le fun x => hj (Or.inr x)))
  obtain ⟨b, eb⟩ := exa_v u1
  exact ⟨b, (elem_f (ev _) (idx_at nn) (A.fin (Vm.Alike.refl _)) nn).symm.trans eb, exa_at eb u1⟩
theorem own_len {Z : State} {args : Array Value} {a : Addr} {t : Term} {cl : Cell} {ty : FieldType} {k : Int32} {n : Nat} (ev : t.eval args Z none [] Z = some (.ref a)) (A : Arr Z Z.heap a cl ty) (h : (Jvm.Cond.eq (Term.length t) (Term.int k)).value args Z none Z [] = some true) (hn : k.toInt = n) : cl.slots.size = n := by
  obtain ⟨x, y, h1, h2, hk, hk'⟩ := cmp_v (Or.inl h)
  have hy : y = .int k := Option.some.inj (h2.symm.trans (Term.int_eval k))
  subst hy
  obtain ⟨z, rfl⟩ := hk'
  have q : z = k := by simpa [Cond.value, h1, h2] using h
  subst q
  have hA := Arr.fin (Vm.Alike.refl _) A
  simp only [Term.eval, ev, hA, Option.bind_eq_bind, Option.bind_some] at h1
  split at h1
  · rename_i hl
    have hz : cl.slots.size.toInt32 = z := by simpa using h1
    rw [← hz, len_toInt hl] at hn
    omega
  · cases h1
theorem own_idx {p : Int32} (h1 : ¬ p < (-128 : Int32)) (h2 : ¬ (127 : Int32) < p) {n : Nat} (hn : n = 256) : ¬ ((p + (128 : Int32)) < 0 ∨ n ≤ (p + (128 : Int32)).toNatClampNeg) := by
  subst hn
  have c := c_iadd p 128
  have r := rng32 (p + 128)
  simp only [Int32.lt_iff_toInt_lt, Int32.toNatClampNeg] at *
  have a1 : (-128 : Int32).toInt = -128 := by decide
  have a2 : (127 : Int32).toInt = 127 := by decide
  have a3 : (128 : Int32).toInt = 128 := by decide
  have a4 : (0 : Int32).toInt = 0 := by decide
  rw [a1] at h1
  rw [a2] at h2
  rw [a3] at c
  rw [a4]
  omega
theorem own_idxL {q : Int64} (h1 : ¬ q < (-128 : Int64)) (h2 : ¬ (127 : Int64) < q) {n : Nat} (hn : n = 256) : ¬ (((q.toInt32) + (128 : Int32)) < 0 ∨ n ≤ ((q.toInt32) + (128 : Int32)).toNatClampNeg) := by
  refine own_idx ?_ ?_ hn
  all_goals
    have c := c_l2i q
    have r := rng32 q.toInt32
    simp only [Int32.lt_iff_toInt_lt, Int64.lt_iff_toInt_lt] at *
    have a1 : (-128 : Int64).toInt = -128 := by decide
    have a2 : (127 : Int64).toInt = 127 := by decide
    have b1 : (-128 : Int32).toInt = -128 := by decide
    have b2 : (127 : Int32).toInt = 127 := by decide
    first | rw [b1] | rw [b2]
    rw [a1] at h1
    rw [a2] at h2
    omega
def QN (h0 : Heap) (n0 : Nat) (v : Option Value) (h : Heap) (L : List Loc) : Prop := v = none ∧ Fr n0 L ∧ h = h0
def QI (Z : State) (C : String) (a : Addr) (h0 : Heap) (n0 : Nat) (v : Option Value) (h : Heap) (L : List Loc) : Prop := v = none ∧ Fr n0 L ∧ Keep h0 h [a] ∧ Exa Z h a C
def QB (Z : State) (C : String) (h0 : Heap) (n0 : Nat) (v : Option Value) (h : Heap) (L : List Loc) : Prop := ∃ a, v = some (.ref a) ∧ Fr n0 L ∧ Keep h0 h [] ∧ Exa Z h a C
def QP (Z : State) (h0 : Heap) (n0 : Nat) (v : Option Value) (h : Heap) (L : List Loc) : Prop := ∃ r, v = some r ∧ Fr n0 L ∧ Keep h0 h [] ∧ Obj Z h r
def QG (r : Value) (h0 : Heap) (n0 : Nat) (v : Option Value) (h : Heap) (L : List Loc) : Prop := v = some r ∧ Fr n0 L ∧ h = h0
def QL (r : Option Value) (h0 : Heap) (n0 : Nat) (v : Option Value) (h : Heap) (L : List Loc) : Prop := v = r ∧ Fr n0 L
def QT (Z : State) (a1 : Addr) (v1 : Value) (v2 : Value) (v3 : Value) (v4 : Value) (v5 : Value) (v6 : Value) (v7 : Value) (v8 : Value) (h0 : Heap) (n0 : Nat) (v : Option Value) (h : Heap) (L : List Loc) : Prop := v = none ∧ Fr n0 L ∧ Keep h0 h [a1] ∧ Exa Z h a1 "com/example/tributary/tributary/Tuple8" ∧ Fld Z h a1 "com/example/tributary/tributary/Tuple8" "t1" "Ljava/lang/Object;" v1 ∧ Fld Z h a1 "com/example/tributary/tributary/Tuple8" "t2" "Ljava/lang/Object;" v2 ∧ Fld Z h a1 "com/example/tributary/tributary/Tuple8" "t3" "Ljava/lang/Object;" v3 ∧ Fld Z h a1 "com/example/tributary/tributary/Tuple8" "t4" "Ljava/lang/Object;" v4 ∧ Fld Z h a1 "com/example/tributary/tributary/Tuple8" "t5" "Ljava/lang/Object;" v5 ∧ Fld Z h a1 "com/example/tributary/tributary/Tuple8" "t6" "Ljava/lang/Object;" v6 ∧ Fld Z h a1 "com/example/tributary/tributary/Tuple8" "t7" "Ljava/lang/Object;" v7 ∧ Fld Z h a1 "com/example/tributary/tributary/Tuple8" "t8" "Ljava/lang/Object;" v8
def QA (Z : State) (v1 : Value) (v2 : Value) (v3 : Value) (v4 : Value) (v5 : Value) (v6 : Value) (v7 : Value) (v8 : Value) (h0 : Heap) (n0 : Nat) (v : Option Value) (h : Heap) (L : List Loc) : Prop := ∃ (r : Addr) (k : ClassId), v = some (.ref r) ∧ Fr n0 L ∧ Keep h0 h [] ∧ h0.size ≤ r ∧ Ovr Z k "java/lang/Object" ∧ Exa Z h r "[Ljava/lang/Object;" ∧ Arv Z h r k (.object "java/lang/Object") (8 : Int32) [v1, v2, v3, v4, v5, v6, v7, v8] .null
theorem d9_0 : decode jdk_18_method_1_code 0 = .ok (.aload_n 0, 1) := by decide +kernel
theorem d9_1 : decode jdk_18_method_1_code 1 = .ok (.invokespecial 1, 3) := by decide +kernel
theorem d9_4 : decode jdk_18_method_1_code 4 = .ok (.return_, 1) := by decide +kernel
theorem ef_9_R (m : MethodId) (x0 : Addr) : entryFrame m #[(.ref x0)] 1 = mkF m 0 #[.val (.ref x0)] [] := by first | (simp [entryFrame, mkF, argsToLocals, Value.category]; done) | (simp [entryFrame, mkF, argsToLocals, own_cr, own_ci, own_cj]; done) | rfl
theorem pn_java_lang_Number : plainName "java/lang/Number" = true := by first | (simp [plainName, overriddenIn]; done) | decide +kernel
set_option maxRecDepth 65536 in
set_option maxHeartbeats 40000000 in
theorem sup_9 (l : Launch) (Z : State) (a0 : Array Value) (hw : ∀ d ∈ tables_1, d.before a0 Z = true) (ws : List Jvm.Cond) (a1 : Addr) (h0 : Heap) (n0 : Nat) (Z0 : n0 ≤ h0.size) :
    MetFree l (⟨"java/lang/Number", "<init>", "()V"⟩ : MethodName) (head1 (Jvm.Cond.code (⟨"java/lang/Number", "<init>", "()V"⟩ : MethodName) jdk_18_method_1_code 1 none :: ws) ({ frames := 1, cells := 0, slots := 0, locals := 12 } : Room)) (fun a U => a = #[(.ref a1)] ∧ Z.Warmed39 U.vm ∧ U.heap = h0) (fun _ _ _ _ _ => True) (fun _ U o U' => ∃ v L, o = .returned v ∧ QN h0 n0 v U'.heap L ∧ FrameEnd U o U' L ({ frames := 1, cells := 0, slots := 0, locals := 12 } : Room).cells ({ frames := 1, cells := 0, slots := 0, locals := 12 } : Room).slots) := by
  refine MetFree.of_bodySF (plainFor_of_name pn_java_lang_Number) hisR ?_
  intro p e s m args below meth c s₁ Bd hml0 hP hK
  obtain ⟨rfl, hZ, hh⟩ := hP
  have hx := Bd.exec
  have hby := Bd.bytes
  have hml : c.maxLocals = 1 := hml0
  have hown : s.vm.findClass "java/lang/Number" = some m.cls := findClass_of_methodNamed Bd.named
  have hnm := (name_of_methodNamed Bd.named Bd.method).1
  have X0 : Stand p l e ({ frames := 1, cells := 0, slots := 0, locals := 12 } : Room) s m #[(.ref a1)] below meth c s₁ [] 0 0 := Stand.of_body Bd
  have e0 : s₁.heap = h0 := by rw [← hh, Bd.state]; rfl
  have N0 := Fr.nil n0
  have pre0 : ∀ t, Steps p.tables e below (s₁.setTop (mkF m 0 #[.val (.ref a1)] [])) t → Steps p.tables e below (s₁.setTop (entryFrame m #[(.ref a1)] 1)) t := fun t k => castTop (ef_9_R m a1) k
  obtain ⟨T1, X1, e1, st1⟩ := initO X0 hx hZ hown (hw _ (List.mem_of_getElem? (i := 68) rfl)) (hw _ (List.mem_of_getElem? (i := 24) rfl)) (hw _ (List.mem_of_getElem? (i := 25) rfl)) e0 (g := (mkF m 1 #[.val (.ref a1)] [(.ref a1)])) rfl (by rw [hml]; rfl) rfl (hb hby d9_1) (by decide) (W := 0) (by show 2 * 0 + _ ≤ _; exact Nat.le_of_eq rfl) (by decide)
  obtain ⟨fs, hr, hrun, hended, hW, hsame⟩ := X1.leave (v := none) (fun _ => rfl)
  refine ⟨_, _, pre0 _ ?_, hrun, hended, _, _, rfl, ?_, ⟨_, rfl⟩, hW, hsame.mono (by decide) (by decide)⟩
  · show Steps p.tables e below (s₁.setTop (mkF m 0 #[.val (.ref a1)] [])) _
    refine XS.aloadN X0.here hx rfl (hb hby d9_0) rfl rfl ?_
    show Steps p.tables e below (s₁.setTop (mkF m 1 #[.val (.ref a1)] [(.ref a1)])) _
    refine st1 _ ?_
    show Steps p.tables e below (T1.setTop (mkF m 4 #[.val (.ref a1)] [])) _
    exact X1.returnOut hx Bd.returns (hb hby d9_4) hr
  · show QN h0 n0 _ T1.heap _
    rw [e1]
    exact ⟨rfl, N0, rfl⟩
theorem d8_0 : decode jdk_35_method_26_code 0 = .ok (.aload_n 0, 1) := by decide +kernel
theorem d8_1 : decode jdk_35_method_26_code 1 = .ok (.invokespecial 270, 3) := by decide +kernel
theorem pd___V : parseMethodDescriptor "()V" = some ⟨[], none⟩ := by decide +kernel
theorem d8_4 : decode jdk_35_method_26_code 4 = .ok (.aload_n 0, 1) := by decide +kernel
theorem d8_5 : decode jdk_35_method_26_code 5 = .ok (.lload_n 1, 1) := by decide +kernel
theorem d8_6 : decode jdk_35_method_26_code 6 = .ok (.putfield 273, 3) := by decide +kernel
theorem d8_9 : decode jdk_35_method_26_code 9 = .ok (.return_, 1) := by decide +kernel
theorem ef_8_RJ (m : MethodId) (x0 : Addr) (x1 : Int64) : entryFrame m #[(.ref x0), (.long x1)] 3 = mkF m 0 #[.val (.ref x0), .val (.long x1), .second] [] := by first | (simp [entryFrame, mkF, argsToLocals, Value.category]; done) | (simp [entryFrame, mkF, argsToLocals, own_cr, own_ci, own_cj]; done) | rfl
theorem pn_java_lang_Long : plainName "java/lang/Long" = true := by first | (simp [plainName, overriddenIn]; done) | decide +kernel
set_option maxRecDepth 65536 in
set_option maxHeartbeats 40000000 in
theorem init_Long (l : Launch) (Z : State) (a0 : Array Value) (hw : ∀ d ∈ tables_1, d.before a0 Z = true) (ws : List Jvm.Cond) (a1 : Addr) (q1 : Int64) (h0 : Heap) (n0 : Nat) (Z0 : n0 ≤ h0.size) (F_value : Fld Z h0 a1 "java/lang/Long" "value" "J" (.long (0 : Int64))) (E_a1 : Exa Z h0 a1 "java/lang/Long") (g_a1 : n0 ≤ a1) :
    MetFree l (⟨"java/lang/Long", "<init>", "(J)V"⟩ : MethodName) (head1 (Jvm.Cond.code (⟨"java/lang/Long", "<init>", "(J)V"⟩ : MethodName) jdk_35_method_26_code 3 none :: ws) ({ frames := 2, cells := 0, slots := 0, locals := 24 } : Room)) (fun a U => a = #[(.ref a1), (.long q1)] ∧ Z.Warmed39 U.vm ∧ U.heap = h0) (fun _ _ _ _ _ => True) (fun _ U o U' => ∃ v L, o = .returned v ∧ QI Z "java/lang/Long" a1 h0 n0 v U'.heap L ∧ FrameEnd U o U' L ({ frames := 2, cells := 0, slots := 0, locals := 24 } : Room).cells ({ frames := 2, cells := 0, slots := 0, locals := 24 } : Room).slots) := by
  refine MetFree.of_bodySF (plainFor_of_name pn_java_lang_Long) hisR ?_
  intro p e s m args below meth c s₁ Bd hml0 hP hK
  obtain ⟨rfl, hZ, hh⟩ := hP
  have hx := Bd.exec
  have hby := Bd.bytes
  have hml : c.maxLocals = 3 := hml0
  have hown : s.vm.findClass "java/lang/Long" = some m.cls := findClass_of_methodNamed Bd.named
  have hnm := (name_of_methodNamed Bd.named Bd.method).1
  have X0 : Stand p l e ({ frames := 2, cells := 0, slots := 0, locals := 24 } : Room) s m #[(.ref a1), (.long q1)] below meth c s₁ [] 0 0 := Stand.of_body Bd
  have e0 : s₁.heap = h0 := by rw [← hh, Bd.state]; rfl
  have N0 := Fr.nil n0
  have pre0 : ∀ t, Steps p.tables e below (s₁.setTop (mkF m 0 #[.val (.ref a1), .val (.long q1), .second] [])) t → Steps p.tables e below (s₁.setTop (entryFrame m #[(.ref a1), (.long q1)] 3)) t := fun t k => castTop (ef_8_RJ m a1 q1) k
  obtain ⟨_, _, ⟨T1, L1, k1, n1⟩, -, X1, ⟨Lc1, hQ1, l1, y1, z1⟩, st1⟩ := X0.specialBack hx (y := (⟨"java/lang/Number", "<init>", "()V"⟩ : MethodName)) rfl hown (mvT hZ (hw _ (List.mem_of_getElem? (i := 62) rfl))) (mvT hZ (hw _ (List.mem_of_getElem? (i := 63) rfl))) (mvT hZ (hw _ (List.mem_of_getElem? (i := 67) rfl))) (by decide) (backOf (W := 0) (sup_9 l Z a0 hw [] a1 h0 n0 Z0 ) hZ (hw _ (List.mem_of_getElem? (i := 67) rfl)) (hw _ (List.mem_of_getElem? (i := 66) rfl)) (by decide) (by decide)) (g := (mkF m 1 #[.val (.ref a1), .val (.long q1), .second] [(.ref a1)])) rfl (by rw [hml]; rfl) (Steps.refl _) (a := a1) (argsL := []) (rest := []) (lenOf pd___V rfl) rfl (by show 2 * 0 + _ ≤ _; exact Nat.le_of_eq rfl) (hb hby d8_1) (fun _ _ => ⟨rfl, e0, (by decide : 0 + 0 ≤ _), (by decide : 0 + 0 ≤ _)⟩)
  dsimp only [Pt.U, Pt.locs, Pt.cells, Pt.slots] at X1 l1 y1 z1 st1 hQ1
  subst l1 y1 z1
  obtain ⟨rfl, N1q, e1⟩ := hQ1
  have N1 := Fr.app N0 N1q
  obtain ⟨T2, h2, X2, e2, W2, st2⟩ := putF X1 hx hZ hown (host := "") (Or.inl (hw _ (List.mem_of_getElem? (i := 69) rfl))) Via.refl e1 F_value E_a1 (Or.inr ⟨(hw _ (List.mem_of_getElem? (i := 70) rfl)), rfl, hnm⟩) (hw _ (List.mem_of_getElem? (i := 57) rfl)) (ty := .long) (by decide) rfl rfl (g := (mkF m 6 #[.val (.ref a1), .val (.long q1), .second] [(.long q1), (.ref a1)])) rfl rfl (hb hby d8_6)
  have F2_value := F_value.same W2
  have E2_a1 := E_a1.wr W2
  have K2 : Keep h0 h2 [a1] := (Keep.refl h0 [a1]).wr W2 (Or.inl (List.mem_of_getElem? (i := 0) rfl))
  have N2 := Fr.snoc X2 N1 g_a1
  obtain ⟨fs, hr, hrun, hended, hW, hsame⟩ := X2.leave (v := none) (fun _ => rfl)
  refine ⟨_, _, pre0 _ ?_, hrun, hended, _, _, rfl, ?_, ⟨_, rfl⟩, hW, hsame.mono (by decide) (by decide)⟩
  · show Steps p.tables e below (s₁.setTop (mkF m 0 #[.val (.ref a1), .val (.long q1), .second] [])) _
    refine XS.aloadN X0.here hx rfl (hb hby d8_0) rfl rfl ?_
    show Steps p.tables e below (s₁.setTop (mkF m 1 #[.val (.ref a1), .val (.long q1), .second] [(.ref a1)])) _
    refine st1.trans ?_
    show Steps p.tables e below (T1.setTop (mkF m 4 #[.val (.ref a1), .val (.long q1), .second] [])) _
    refine XS.aloadN X1.here hx rfl (hb hby d8_4) rfl rfl ?_
    show Steps p.tables e below (T1.setTop (mkF m 5 #[.val (.ref a1), .val (.long q1), .second] [(.ref a1)])) _
    refine XS.lloadN X1.here hx rfl (hb hby d8_5) rfl ?_
    show Steps p.tables e below (T1.setTop (mkF m 6 #[.val (.ref a1), .val (.long q1), .second] [(.long q1), (.ref a1)])) _
    refine st2 _ ?_
    show Steps p.tables e below (T2.setTop (mkF m 9 #[.val (.ref a1), .val (.long q1), .second] [])) _
    exact X2.returnOut hx Bd.returns (hb hby d8_9) hr
  · show QI Z "java/lang/Long" a1 h0 n0 _ T2.heap _
    rw [e2]
    exact ⟨rfl, N2, K2, E2_a1⟩
theorem d2_0 : decode jdk_35_method_24_code 0 = .ok (.sipush 128, 3) := by decide +kernel
theorem d2_3 : decode jdk_35_method_24_code 3 = .ok (.istore_n 2, 1) := by decide +kernel
theorem d2_4 : decode jdk_35_method_24_code 4 = .ok (.lload_n 0, 1) := by decide +kernel
theorem d2_5 : decode jdk_35_method_24_code 5 = .ok (.ldc2_w 230, 3) := by decide +kernel
theorem d2_8 : decode jdk_35_method_24_code 8 = .ok (.lcmp, 1) := by decide +kernel
theorem d2_9 : decode jdk_35_method_24_code 9 = .ok (.ifCond .lt 22, 3) := by decide +kernel
theorem d2_31 : decode jdk_35_method_24_code 31 = .ok (.new 1, 3) := by decide +kernel
theorem d2_34 : decode jdk_35_method_24_code 34 = .ok (.dup, 1) := by decide +kernel
theorem d2_35 : decode jdk_35_method_24_code 35 = .ok (.lload_n 0, 1) := by decide +kernel
theorem d2_36 : decode jdk_35_method_24_code 36 = .ok (.invokespecial 240, 3) := by decide +kernel
theorem pd__J_V : parseMethodDescriptor "(J)V" = some ⟨[.long], none⟩ := by decide +kernel
theorem d2_39 : decode jdk_35_method_24_code 39 = .ok (.areturn, 1) := by decide +kernel
theorem ef_2_J (m : MethodId) (x0 : Int64) : entryFrame m #[(.long x0)] 3 = mkF m 0 #[.val (.long x0), .second, .unset] [] := by first | (simp [entryFrame, mkF, argsToLocals, Value.category]; done) | (simp [entryFrame, mkF, argsToLocals, own_cr, own_ci, own_cj]; done) | rfl
set_option maxRecDepth 65536 in
set_option maxHeartbeats 40000000 in
theorem valueOf_Long_lo (l : Launch) (Z : State) (a0 : Array Value) (hw : ∀ d ∈ tables_1, d.before a0 Z = true) (ws : List Jvm.Cond) (q1 : Int64) (w_c : Addr) (c_w : Cell) (h0 : Heap) (n0 : Nat) (Z0 : n0 ≤ h0.size) (C_w : Cache Z h0 "java/lang/Long" "java/lang/Long$LongCache" "[Ljava/lang/Long;" w_c c_w) (hl : q1 < (-128 : Int64)) :
    MetFree l (⟨"java/lang/Long", "valueOf", "(J)Ljava/lang/Long;"⟩ : MethodName) (head1 (Jvm.Cond.code (⟨"java/lang/Long", "valueOf", "(J)Ljava/lang/Long;"⟩ : MethodName) jdk_35_method_24_code 3 (some (.object "java/lang/Long")) :: ws) ({ frames := 3, cells := 1, slots := 1, locals := 39 } : Room)) (fun a U => a = #[(.long q1)] ∧ Z.Warmed39 U.vm ∧ U.heap = h0) (fun _ _ _ _ _ => True) (fun _ U o U' => ∃ v L, o = .returned v ∧ QB Z "java/lang/Long" h0 n0 v U'.heap L ∧ FrameEnd U o U' L ({ frames := 3, cells := 1, slots := 1, locals := 39 } : Room).cells ({ frames := 3, cells := 1, slots := 1, locals := 39 } : Room).slots) := by
  refine MetFree.of_bodySF (plainFor_of_name pn_java_lang_Long) hisR ?_
  intro p e s m args below meth c s₁ Bd hml0 hP hK
  obtain ⟨rfl, hZ, hh⟩ := hP
  have hx := Bd.exec
  have hby := Bd.bytes
  have hml : c.maxLocals = 3 := hml0
  have hown : s.vm.findClass "java/lang/Long" = some m.cls := findClass_of_methodNamed Bd.named
  have hnm := (name_of_methodNamed Bd.named Bd.method).1
  have X0 : Stand p l e ({ frames := 3, cells := 1, slots := 1, locals := 39 } : Room) s m #[(.long q1)] below meth c s₁ [] 0 0 := Stand.of_body Bd
  have e0 : s₁.heap = h0 := by rw [← hh, Bd.state]; rfl
  have N0 := Fr.nil n0
  obtain ⟨h_sta, h_arr, h_siz, h_all⟩ := C_w
  have pre0 : ∀ t, Steps p.tables e below (s₁.setTop (mkF m 0 #[.val (.long q1), .second, .unset] [])) t → Steps p.tables e below (s₁.setTop (entryFrame m #[(.long q1)] 3)) t := fun t k => castTop (ef_2_J m q1) k
  obtain ⟨T1, h1, X1, e1, E1, A1, D1, -, st1⟩ := newO X0 hx hZ hown (hw _ (List.mem_of_getElem? (i := 56) rfl)) (hw _ (List.mem_of_getElem? (i := 57) rfl)) (hw _ (List.mem_of_getElem? (i := 6) rfl)) e0 (g := (mkF m 31 #[.val (.long q1), .second, .val (.int (128 : Int32))] [])) rfl (hb hby d2_31) (by decide) (by decide)
  obtain ⟨b1, gg1⟩ : ∃ z, z = h0.size := ⟨_, rfl⟩
  rw [← gg1] at A1 D1 st1
  have sz_b1 : h0.size ≤ b1 := Nat.le_of_eq gg1.symm
  have sz0_b1 : h0.size ≤ b1 := Nat.le_trans (Keep.refl h0 []).1 sz_b1
  have g_b1 : n0 ≤ b1 := Nat.le_trans Z0 sz0_b1
  have K1q : Keep h0 h1 [] := (Keep.refl _ []).ext E1
  have K1 : Keep h0 h1 [] := (Keep.refl h0 []).ext E1
  have F1_value : Fld Z h1 b1 "java/lang/Long" "value" "J" (.long (0 : Int64)) := D1 (Or.inr (hw _ (List.mem_of_getElem? (i := 70) rfl))) (ty := .long) (by decide)
  obtain ⟨_, _, ⟨T2, L2, k2, n2⟩, -, X2, ⟨Lc2, hQ2, l2, y2, z2⟩, st2⟩ := X1.specialBack hx (y := (⟨"java/lang/Long", "<init>", "(J)V"⟩ : MethodName)) rfl hown (mvT hZ (hw _ (List.mem_of_getElem? (i := 58) rfl))) (mvT hZ (hw _ (List.mem_of_getElem? (i := 59) rfl))) (mvT hZ (hw _ (List.mem_of_getElem? (i := 61) rfl))) (by decide) (backOf (W := 1) (init_Long l Z a0 hw [] b1 q1 h1 n0 (Nat.le_trans Z0 K1.1) F1_value A1 g_b1) hZ (hw _ (List.mem_of_getElem? (i := 61) rfl)) (hw _ (List.mem_of_getElem? (i := 6) rfl)) (by decide) (by decide)) (g := (mkF m 36 #[.val (.long q1), .second, .val (.int (128 : Int32))] [(.long q1), (.ref b1), (.ref b1)])) rfl (by rw [hml]; rfl) (Steps.refl _) (a := b1) (argsL := [(.long q1)]) (rest := [(.ref b1)]) (lenOf pd__J_V rfl) rfl (by show 2 * 0 + _ ≤ _; exact Nat.le_of_eq rfl) (hb hby d2_36) (fun _ _ => ⟨rfl, e1, (by decide : 1 + 0 ≤ _), (by decide : 1 + 0 ≤ _)⟩)
  dsimp only [Pt.U, Pt.locs, Pt.cells, Pt.slots] at X2 l2 y2 z2 st2 hQ2
  subst l2 y2 z2
  obtain ⟨rfl, N2q, K2q, E2q⟩ := hQ2
  have N2 := Fr.app N0 N2q
  have K2 : Keep h0 T2.heap [] := K1.trans K2q (allS (Or.inr sz0_b1) all0)
  obtain ⟨fs, hr, hrun, hended, hW, hsame⟩ := X2.leave (v := some (.ref b1)) (fun h => by rw [Bd.returns] at h; cases h)
  refine ⟨_, _, pre0 _ ?_, hrun, hended, _, _, rfl, ?_, ⟨_, rfl⟩, hW, hsame.mono (by decide) (by decide)⟩
  · show Steps p.tables e below (s₁.setTop (mkF m 0 #[.val (.long q1), .second, .unset] [])) _
    refine XS.sipush X0.here hx rfl (hb hby d2_0) ?_
    show Steps p.tables e below (s₁.setTop (mkF m 3 #[.val (.long q1), .second, .unset] [(.int (128 : Int32))])) _
    refine XS.istoreN X0.here hx rfl (hb hby d2_3) rfl (l' := #[.val (.long q1), .second, .val (.int (128 : Int32))]) rfl ?_
    show Steps p.tables e below (s₁.setTop (mkF m 4 #[.val (.long q1), .second, .val (.int (128 : Int32))] [])) _
    refine XS.lloadN X0.here hx rfl (hb hby d2_4) rfl ?_
    show Steps p.tables e below (s₁.setTop (mkF m 5 #[.val (.long q1), .second, .val (.int (128 : Int32))] [(.long q1)])) _
    refine X0.ldc2Long hx hown (mvT hZ (hw _ (List.mem_of_getElem? (i := 8) rfl))) (g := (mkF m 5 #[.val (.long q1), .second, .val (.int (128 : Int32))] [(.long q1)])) rfl (hb hby d2_5) _ ?_
    show Steps p.tables e below (s₁.setTop (mkF m 8 #[.val (.long q1), .second, .val (.int (128 : Int32))] [(.long (-128 : Int64)), (.long q1)])) _
    refine XS.lcmp X0.here hx rfl (hb hby d2_8) rfl ?_
    show Steps p.tables e below (s₁.setTop (mkF m 9 #[.val (.long q1), .second, .val (.int (128 : Int32))] [(.int (lcmpW q1 (-128 : Int64)))])) _
    refine XS.ifYes X0.here hx rfl (pc0 := 9) (pc' := 31) rfl (hb hby d2_9) rfl ((if0 _ _).trans (tlt ((lw_lt _ _).mpr hl : (lcmpW q1 (-128 : Int64)) < (0 : Int32))).1) (by decide) (by decide) ?_
    show Steps p.tables e below (s₁.setTop (mkF m 31 #[.val (.long q1), .second, .val (.int (128 : Int32))] [])) _
    refine st1 _ ?_
    show Steps p.tables e below (T1.setTop (mkF m 34 #[.val (.long q1), .second, .val (.int (128 : Int32))] [(.ref b1)])) _
    refine XS.dup X1.here hx rfl (hb hby d2_34) rfl rfl ?_
    show Steps p.tables e below (T1.setTop (mkF m 35 #[.val (.long q1), .second, .val (.int (128 : Int32))] [(.ref b1), (.ref b1)])) _
    refine XS.lloadN X1.here hx rfl (hb hby d2_35) rfl ?_
    show Steps p.tables e below (T1.setTop (mkF m 36 #[.val (.long q1), .second, .val (.int (128 : Int32))] [(.long q1), (.ref b1), (.ref b1)])) _
    refine st2.trans ?_
    show Steps p.tables e below (T2.setTop (mkF m 39 #[.val (.long q1), .second, .val (.int (128 : Int32))] [(.ref b1)])) _
    exact retOut X2 hx Bd.returns rfl (Or.inr (Or.inr (Or.inr (Or.inr ⟨rfl, rfl, rfl⟩)))) (hb hby d2_39) hr
  · show QB Z "java/lang/Long" h0 n0 _ T2.heap _
    exact ⟨_, rfl, N2, K2, E2q⟩
theorem d2_12 : decode jdk_35_method_24_code 12 = .ok (.lload_n 0, 1) := by decide +kernel
theorem d2_13 : decode jdk_35_method_24_code 13 = .ok (.ldc2_w 232, 3) := by decide +kernel
theorem d2_16 : decode jdk_35_method_24_code 16 = .ok (.lcmp, 1) := by decide +kernel
theorem d2_17 : decode jdk_35_method_24_code 17 = .ok (.ifCond .gt 14, 3) := by decide +kernel
set_option maxRecDepth 65536 in
set_option maxHeartbeats 40000000 in
theorem valueOf_Long_hi (l : Launch) (Z : State) (a0 : Array Value) (hw : ∀ d ∈ tables_1, d.before a0 Z = true) (ws : List Jvm.Cond) (q1 : Int64) (w_c : Addr) (c_w : Cell) (h0 : Heap) (n0 : Nat) (Z0 : n0 ≤ h0.size) (C_w : Cache Z h0 "java/lang/Long" "java/lang/Long$LongCache" "[Ljava/lang/Long;" w_c c_w) (hl : ¬ q1 < (-128 : Int64)) (hhi : (127 : Int64) < q1) :
    MetFree l (⟨"java/lang/Long", "valueOf", "(J)Ljava/lang/Long;"⟩ : MethodName) (head1 (Jvm.Cond.code (⟨"java/lang/Long", "valueOf", "(J)Ljava/lang/Long;"⟩ : MethodName) jdk_35_method_24_code 3 (some (.object "java/lang/Long")) :: ws) ({ frames := 3, cells := 1, slots := 1, locals := 39 } : Room)) (fun a U => a = #[(.long q1)] ∧ Z.Warmed39 U.vm ∧ U.heap = h0) (fun _ _ _ _ _ => True) (fun _ U o U' => ∃ v L, o = .returned v ∧ QB Z "java/lang/Long" h0 n0 v U'.heap L ∧ FrameEnd U o U' L ({ frames := 3, cells := 1, slots := 1, locals := 39 } : Room).cells ({ frames := 3, cells := 1, slots := 1, locals := 39 } : Room).slots) := by
  refine MetFree.of_bodySF (plainFor_of_name pn_java_lang_Long) hisR ?_
  intro p e s m args below meth c s₁ Bd hml0 hP hK
  obtain ⟨rfl, hZ, hh⟩ := hP
  have hx := Bd.exec
  have hby := Bd.bytes
  have hml : c.maxLocals = 3 := hml0
  have hown : s.vm.findClass "java/lang/Long" = some m.cls := findClass_of_methodNamed Bd.named
  have hnm := (name_of_methodNamed Bd.named Bd.method).1
  have X0 : Stand p l e ({ frames := 3, cells := 1, slots := 1, locals := 39 } : Room) s m #[(.long q1)] below meth c s₁ [] 0 0 := Stand.of_body Bd
  have e0 : s₁.heap = h0 := by rw [← hh, Bd.state]; rfl
  have N0 := Fr.nil n0
  obtain ⟨h_sta, h_arr, h_siz, h_all⟩ := C_w
  have pre0 : ∀ t, Steps p.tables e below (s₁.setTop (mkF m 0 #[.val (.long q1), .second, .unset] [])) t → Steps p.tables e below (s₁.setTop (entryFrame m #[(.long q1)] 3)) t := fun t k => castTop (ef_2_J m q1) k
  obtain ⟨T1, h1, X1, e1, E1, A1, D1, -, st1⟩ := newO X0 hx hZ hown (hw _ (List.mem_of_getElem? (i := 56) rfl)) (hw _ (List.mem_of_getElem? (i := 57) rfl)) (hw _ (List.mem_of_getElem? (i := 6) rfl)) e0 (g := (mkF m 31 #[.val (.long q1), .second, .val (.int (128 : Int32))] [])) rfl (hb hby d2_31) (by decide) (by decide)
  obtain ⟨b1, gg1⟩ : ∃ z, z = h0.size := ⟨_, rfl⟩
  rw [← gg1] at A1 D1 st1
  have sz_b1 : h0.size ≤ b1 := Nat.le_of_eq gg1.symm
  have sz0_b1 : h0.size ≤ b1 := Nat.le_trans (Keep.refl h0 []).1 sz_b1
  have g_b1 : n0 ≤ b1 := Nat.le_trans Z0 sz0_b1
  have K1q : Keep h0 h1 [] := (Keep.refl _ []).ext E1
  have K1 : Keep h0 h1 [] := (Keep.refl h0 []).ext E1
  have F1_value : Fld Z h1 b1 "java/lang/Long" "value" "J" (.long (0 : Int64)) := D1 (Or.inr (hw _ (List.mem_of_getElem? (i := 70) rfl))) (ty := .long) (by decide)
  obtain ⟨_, _, ⟨T2, L2, k2, n2⟩, -, X2, ⟨Lc2, hQ2, l2, y2, z2⟩, st2⟩ := X1.specialBack hx (y := (⟨"java/lang/Long", "<init>", "(J)V"⟩ : MethodName)) rfl hown (mvT hZ (hw _ (List.mem_of_getElem? (i := 58) rfl))) (mvT hZ (hw _ (List.mem_of_getElem? (i := 59) rfl))) (mvT hZ (hw _ (List.mem_of_getElem? (i := 61) rfl))) (by decide) (backOf (W := 1) (init_Long l Z a0 hw [] b1 q1 h1 n0 (Nat.le_trans Z0 K1.1) F1_value A1 g_b1) hZ (hw _ (List.mem_of_getElem? (i := 61) rfl)) (hw _ (List.mem_of_getElem? (i := 6) rfl)) (by decide) (by decide)) (g := (mkF m 36 #[.val (.long q1), .second, .val (.int (128 : Int32))] [(.long q1), (.ref b1), (.ref b1)])) rfl (by rw [hml]; rfl) (Steps.refl _) (a := b1) (argsL := [(.long q1)]) (rest := [(.ref b1)]) (lenOf pd__J_V rfl) rfl (by show 2 * 0 + _ ≤ _; exact Nat.le_of_eq rfl) (hb hby d2_36) (fun _ _ => ⟨rfl, e1, (by decide : 1 + 0 ≤ _), (by decide : 1 + 0 ≤ _)⟩)
  dsimp only [Pt.U, Pt.locs, Pt.cells, Pt.slots] at X2 l2 y2 z2 st2 hQ2
  subst l2 y2 z2
  obtain ⟨rfl, N2q, K2q, E2q⟩ := hQ2
  have N2 := Fr.app N0 N2q
  have K2 : Keep h0 T2.heap [] := K1.trans K2q (allS (Or.inr sz0_b1) all0)
  obtain ⟨fs, hr, hrun, hended, hW, hsame⟩ := X2.leave (v := some (.ref b1)) (fun h => by rw [Bd.returns] at h; cases h)
  refine ⟨_, _, pre0 _ ?_, hrun, hended, _, _, rfl, ?_, ⟨_, rfl⟩, hW, hsame.mono (by decide) (by decide)⟩
  · show Steps p.tables e below (s₁.setTop (mkF m 0 #[.val (.long q1), .second, .unset] [])) _
    refine XS.sipush X0.here hx rfl (hb hby d2_0) ?_
    show Steps p.tables e below (s₁.setTop (mkF m 3 #[.val (.long q1), .second, .unset] [(.int (128 : Int32))])) _
    refine XS.istoreN X0.here hx rfl (hb hby d2_3) rfl (l' := #[.val (.long q1), .second, .val (.int (128 : Int32))]) rfl ?_
    show Steps p.tables e below (s₁.setTop (mkF m 4 #[.val (.long q1), .second, .val (.int (128 : Int32))] [])) _
    refine XS.lloadN X0.here hx rfl (hb hby d2_4) rfl ?_
    show Steps p.tables e below (s₁.setTop (mkF m 5 #[.val (.long q1), .second, .val (.int (128 : Int32))] [(.long q1)])) _
    refine X0.ldc2Long hx hown (mvT hZ (hw _ (List.mem_of_getElem? (i := 8) rfl))) (g := (mkF m 5 #[.val (.long q1), .second, .val (.int (128 : Int32))] [(.long q1)])) rfl (hb hby d2_5) _ ?_
    show Steps p.tables e below (s₁.setTop (mkF m 8 #[.val (.long q1), .second, .val (.int (128 : Int32))] [(.long (-128 : Int64)), (.long q1)])) _
    refine XS.lcmp X0.here hx rfl (hb hby d2_8) rfl ?_
    show Steps p.tables e below (s₁.setTop (mkF m 9 #[.val (.long q1), .second, .val (.int (128 : Int32))] [(.int (lcmpW q1 (-128 : Int64)))])) _
    refine XS.ifNo X0.here hx rfl (hb hby d2_9) rfl ((if0 _ _).trans (flt (fun q => hl ((lw_lt _ _).mp q) : ¬ ((lcmpW q1 (-128 : Int64)) < (0 : Int32)))).1) ?_
    show Steps p.tables e below (s₁.setTop (mkF m 12 #[.val (.long q1), .second, .val (.int (128 : Int32))] [])) _
    refine XS.lloadN X0.here hx rfl (hb hby d2_12) rfl ?_
    show Steps p.tables e below (s₁.setTop (mkF m 13 #[.val (.long q1), .second, .val (.int (128 : Int32))] [(.long q1)])) _
    refine X0.ldc2Long hx hown (mvT hZ (hw _ (List.mem_of_getElem? (i := 9) rfl))) (g := (mkF m 13 #[.val (.long q1), .second, .val (.int (128 : Int32))] [(.long q1)])) rfl (hb hby d2_13) _ ?_
    show Steps p.tables e below (s₁.setTop (mkF m 16 #[.val (.long q1), .second, .val (.int (128 : Int32))] [(.long (127 : Int64)), (.long q1)])) _
    refine XS.lcmp X0.here hx rfl (hb hby d2_16) rfl ?_
    show Steps p.tables e below (s₁.setTop (mkF m 17 #[.val (.long q1), .second, .val (.int (128 : Int32))] [(.int (lcmpW q1 (127 : Int64)))])) _
    refine XS.ifYes X0.here hx rfl (pc0 := 17) (pc' := 31) rfl (hb hby d2_17) rfl ((if0 _ _).trans (tlt ((lw_gt _ _).mpr hhi : (0 : Int32) < (lcmpW q1 (127 : Int64)))).2.2.1) (by decide) (by decide) ?_
    show Steps p.tables e below (s₁.setTop (mkF m 31 #[.val (.long q1), .second, .val (.int (128 : Int32))] [])) _
    refine st1 _ ?_
    show Steps p.tables e below (T1.setTop (mkF m 34 #[.val (.long q1), .second, .val (.int (128 : Int32))] [(.ref b1)])) _
    refine XS.dup X1.here hx rfl (hb hby d2_34) rfl rfl ?_
    show Steps p.tables e below (T1.setTop (mkF m 35 #[.val (.long q1), .second, .val (.int (128 : Int32))] [(.ref b1), (.ref b1)])) _
    refine XS.lloadN X1.here hx rfl (hb hby d2_35) rfl ?_
    show Steps p.tables e below (T1.setTop (mkF m 36 #[.val (.long q1), .second, .val (.int (128 : Int32))] [(.long q1), (.ref b1), (.ref b1)])) _
    refine st2.trans ?_
    show Steps p.tables e below (T2.setTop (mkF m 39 #[.val (.long q1), .second, .val (.int (128 : Int32))] [(.ref b1)])) _
    exact retOut X2 hx Bd.returns rfl (Or.inr (Or.inr (Or.inr (Or.inr ⟨rfl, rfl, rfl⟩)))) (hb hby d2_39) hr
  · show QB Z "java/lang/Long" h0 n0 _ T2.heap _
    exact ⟨_, rfl, N2, K2, E2q⟩
theorem d2_20 : decode jdk_35_method_24_code 20 = .ok (.getstatic 234, 3) := by decide +kernel
theorem d2_23 : decode jdk_35_method_24_code 23 = .ok (.lload_n 0, 1) := by decide +kernel
theorem d2_24 : decode jdk_35_method_24_code 24 = .ok (.l2i, 1) := by decide +kernel
theorem d2_25 : decode jdk_35_method_24_code 25 = .ok (.sipush 128, 3) := by decide +kernel
theorem d2_28 : decode jdk_35_method_24_code 28 = .ok (.iadd, 1) := by decide +kernel
theorem d2_29 : decode jdk_35_method_24_code 29 = .ok (.aaload, 1) := by decide +kernel
theorem d2_30 : decode jdk_35_method_24_code 30 = .ok (.areturn, 1) := by decide +kernel
set_option maxRecDepth 65536 in
set_option maxHeartbeats 40000000 in
theorem valueOf_Long_in (l : Launch) (Z : State) (a0 : Array Value) (hw : ∀ d ∈ tables_1, d.before a0 Z = true) (ws : List Jvm.Cond) (q1 : Int64) (w_c : Addr) (c_w : Cell) (h0 : Heap) (n0 : Nat) (Z0 : n0 ≤ h0.size) (C_w : Cache Z h0 "java/lang/Long" "java/lang/Long$LongCache" "[Ljava/lang/Long;" w_c c_w) (hl : ¬ q1 < (-128 : Int64)) (hhi : ¬ (127 : Int64) < q1) :
    MetFree l (⟨"java/lang/Long", "valueOf", "(J)Ljava/lang/Long;"⟩ : MethodName) (head1 (Jvm.Cond.code (⟨"java/lang/Long", "valueOf", "(J)Ljava/lang/Long;"⟩ : MethodName) jdk_35_method_24_code 3 (some (.object "java/lang/Long")) :: ws) ({ frames := 3, cells := 1, slots := 1, locals := 39 } : Room)) (fun a U => a = #[(.long q1)] ∧ Z.Warmed39 U.vm ∧ U.heap = h0) (fun _ _ _ _ _ => True) (fun _ U o U' => ∃ v L, o = .returned v ∧ QB Z "java/lang/Long" h0 n0 v U'.heap L ∧ FrameEnd U o U' L ({ frames := 3, cells := 1, slots := 1, locals := 39 } : Room).cells ({ frames := 3, cells := 1, slots := 1, locals := 39 } : Room).slots) := by
  refine MetFree.of_bodySF (plainFor_of_name pn_java_lang_Long) hisR ?_
  intro p e s m args below meth c s₁ Bd hml0 hP hK
  obtain ⟨rfl, hZ, hh⟩ := hP
  have hx := Bd.exec
  have hby := Bd.bytes
  have hml : c.maxLocals = 3 := hml0
  have hown : s.vm.findClass "java/lang/Long" = some m.cls := findClass_of_methodNamed Bd.named
  have hnm := (name_of_methodNamed Bd.named Bd.method).1
  have X0 : Stand p l e ({ frames := 3, cells := 1, slots := 1, locals := 39 } : Room) s m #[(.long q1)] below meth c s₁ [] 0 0 := Stand.of_body Bd
  have e0 : s₁.heap = h0 := by rw [← hh, Bd.state]; rfl
  have N0 := Fr.nil n0
  obtain ⟨h_sta, h_arr, h_siz, h_all⟩ := C_w
  have pre0 : ∀ t, Steps p.tables e below (s₁.setTop (mkF m 0 #[.val (.long q1), .second, .unset] [])) t → Steps p.tables e below (s₁.setTop (entryFrame m #[(.long q1)] 3)) t := fun t k => castTop (ef_2_J m q1) k
  obtain ⟨T1, X1, e1, st1⟩ := getS2 X0 hx hZ hown (host := "") (Or.inl (hw _ (List.mem_of_getElem? (i := 10) rfl))) Via.refl e0 h_sta (g := (mkF m 20 #[.val (.long q1), .second, .val (.int (128 : Int32))] [])) rfl (hb hby d2_20)
  have hin : ¬ (((q1.toInt32) + (128 : Int32)) < 0 ∨ c_w.slots.size ≤ (((q1.toInt32) + (128 : Int32))).toNatClampNeg) := own_idxL hl hhi h_siz
  obtain ⟨bx, hat, E_bx⟩ := h_all _ hin
  obtain ⟨fs, hr, hrun, hended, hW, hsame⟩ := X1.leave (v := some (.ref bx)) (fun h => by rw [Bd.returns] at h; cases h)
  refine ⟨_, _, pre0 _ ?_, hrun, hended, _, _, rfl, ?_, ⟨_, rfl⟩, hW, hsame.mono (by decide) (by decide)⟩
  · show Steps p.tables e below (s₁.setTop (mkF m 0 #[.val (.long q1), .second, .unset] [])) _
    refine XS.sipush X0.here hx rfl (hb hby d2_0) ?_
    show Steps p.tables e below (s₁.setTop (mkF m 3 #[.val (.long q1), .second, .unset] [(.int (128 : Int32))])) _
    refine XS.istoreN X0.here hx rfl (hb hby d2_3) rfl (l' := #[.val (.long q1), .second, .val (.int (128 : Int32))]) rfl ?_
    show Steps p.tables e below (s₁.setTop (mkF m 4 #[.val (.long q1), .second, .val (.int (128 : Int32))] [])) _
    refine XS.lloadN X0.here hx rfl (hb hby d2_4) rfl ?_
    show Steps p.tables e below (s₁.setTop (mkF m 5 #[.val (.long q1), .second, .val (.int (128 : Int32))] [(.long q1)])) _
    refine X0.ldc2Long hx hown (mvT hZ (hw _ (List.mem_of_getElem? (i := 8) rfl))) (g := (mkF m 5 #[.val (.long q1), .second, .val (.int (128 : Int32))] [(.long q1)])) rfl (hb hby d2_5) _ ?_
    show Steps p.tables e below (s₁.setTop (mkF m 8 #[.val (.long q1), .second, .val (.int (128 : Int32))] [(.long (-128 : Int64)), (.long q1)])) _
    refine XS.lcmp X0.here hx rfl (hb hby d2_8) rfl ?_
    show Steps p.tables e below (s₁.setTop (mkF m 9 #[.val (.long q1), .second, .val (.int (128 : Int32))] [(.int (lcmpW q1 (-128 : Int64)))])) _
    refine XS.ifNo X0.here hx rfl (hb hby d2_9) rfl ((if0 _ _).trans (flt (fun q => hl ((lw_lt _ _).mp q) : ¬ ((lcmpW q1 (-128 : Int64)) < (0 : Int32)))).1) ?_
    show Steps p.tables e below (s₁.setTop (mkF m 12 #[.val (.long q1), .second, .val (.int (128 : Int32))] [])) _
    refine XS.lloadN X0.here hx rfl (hb hby d2_12) rfl ?_
    show Steps p.tables e below (s₁.setTop (mkF m 13 #[.val (.long q1), .second, .val (.int (128 : Int32))] [(.long q1)])) _
    refine X0.ldc2Long hx hown (mvT hZ (hw _ (List.mem_of_getElem? (i := 9) rfl))) (g := (mkF m 13 #[.val (.long q1), .second, .val (.int (128 : Int32))] [(.long q1)])) rfl (hb hby d2_13) _ ?_
    show Steps p.tables e below (s₁.setTop (mkF m 16 #[.val (.long q1), .second, .val (.int (128 : Int32))] [(.long (127 : Int64)), (.long q1)])) _
    refine XS.lcmp X0.here hx rfl (hb hby d2_16) rfl ?_
    show Steps p.tables e below (s₁.setTop (mkF m 17 #[.val (.long q1), .second, .val (.int (128 : Int32))] [(.int (lcmpW q1 (127 : Int64)))])) _
    refine XS.ifNo X0.here hx rfl (hb hby d2_17) rfl ((if0 _ _).trans (flt (fun q => hhi ((lw_gt _ _).mp q) : ¬ ((0 : Int32) < (lcmpW q1 (127 : Int64))))).2.2.1) ?_
    show Steps p.tables e below (s₁.setTop (mkF m 20 #[.val (.long q1), .second, .val (.int (128 : Int32))] [])) _
    refine st1 _ ?_
    show Steps p.tables e below (T1.setTop (mkF m 23 #[.val (.long q1), .second, .val (.int (128 : Int32))] [(.ref w_c)])) _
    refine XS.lloadN X1.here hx rfl (hb hby d2_23) rfl ?_
    show Steps p.tables e below (T1.setTop (mkF m 24 #[.val (.long q1), .second, .val (.int (128 : Int32))] [(.long q1), (.ref w_c)])) _
    refine XS.l2i X1.here hx rfl (hb hby d2_24) rfl ?_
    show Steps p.tables e below (T1.setTop (mkF m 25 #[.val (.long q1), .second, .val (.int (128 : Int32))] [(.int (q1.toInt32)), (.ref w_c)])) _
    refine XS.sipush X1.here hx rfl (hb hby d2_25) ?_
    show Steps p.tables e below (T1.setTop (mkF m 28 #[.val (.long q1), .second, .val (.int (128 : Int32))] [(.int (128 : Int32)), (.int (q1.toInt32)), (.ref w_c)])) _
    refine XS.iadd X1.here hx rfl (hb hby d2_28) rfl ?_
    show Steps p.tables e below (T1.setTop (mkF m 29 #[.val (.long q1), .second, .val (.int (128 : Int32))] [(.int ((q1.toInt32) + (128 : Int32))), (.ref w_c)])) _
    refine X1.aaload hx (j := ((q1.toInt32) + (128 : Int32))) (v := (.ref bx)) (by rw [e1]; exact h_arr.1) (State.isArrayOf_alike hZ.alike h_arr.2.1) rfl h_arr.2.2 hin hat (g := (mkF m 29 #[.val (.long q1), .second, .val (.int (128 : Int32))] [(.int ((q1.toInt32) + (128 : Int32))), (.ref w_c)])) rfl rfl (hb hby d2_29) _ ?_
    show Steps p.tables e below (T1.setTop (mkF m 30 #[.val (.long q1), .second, .val (.int (128 : Int32))] [(.ref bx)])) _
    exact retOut X1 hx Bd.returns rfl (Or.inr (Or.inr (Or.inr (Or.inr ⟨rfl, rfl, rfl⟩)))) (hb hby d2_30) hr
  · show QB Z "java/lang/Long" h0 n0 _ T1.heap _
    rw [e1]
    exact ⟨_, rfl, N0, (Keep.refl h0 []), E_bx⟩
theorem valueOf_Long (l : Launch) (Z : State) (a0 : Array Value) (hw : ∀ d ∈ tables_1, d.before a0 Z = true) (ws : List Jvm.Cond) (q1 : Int64) (w_c : Addr) (c_w : Cell) (h0 : Heap) (n0 : Nat) (Z0 : n0 ≤ h0.size) (C_w : Cache Z h0 "java/lang/Long" "java/lang/Long$LongCache" "[Ljava/lang/Long;" w_c c_w) :
    MetFree l (⟨"java/lang/Long", "valueOf", "(J)Ljava/lang/Long;"⟩ : MethodName) (head1 (Jvm.Cond.code (⟨"java/lang/Long", "valueOf", "(J)Ljava/lang/Long;"⟩ : MethodName) jdk_35_method_24_code 3 (some (.object "java/lang/Long")) :: ws) ({ frames := 3, cells := 1, slots := 1, locals := 39 } : Room)) (fun a U => a = #[(.long q1)] ∧ Z.Warmed39 U.vm ∧ U.heap = h0) (fun _ _ _ _ _ => True) (fun _ U o U' => ∃ v L, o = .returned v ∧ QB Z "java/lang/Long" h0 n0 v U'.heap L ∧ FrameEnd U o U' L ({ frames := 3, cells := 1, slots := 1, locals := 39 } : Room).cells ({ frames := 3, cells := 1, slots := 1, locals := 39 } : Room).slots) := by
  by_cases hl : q1 < (-128 : Int64)
  · exact valueOf_Long_lo l Z a0 hw ws q1 w_c c_w h0 n0 Z0 C_w hl
  by_cases hhi : (127 : Int64) < q1
  · exact valueOf_Long_hi l Z a0 hw ws q1 w_c c_w h0 n0 Z0 C_w hl hhi
  exact valueOf_Long_in l Z a0 hw ws q1 w_c c_w h0 n0 Z0 C_w hl hhi
theorem d1_0 : decode method_2_code 0 = .ok (.iload_n 0, 1) := by decide +kernel
theorem d1_1 : decode method_2_code 1 = .ok (.iload_n 1, 1) := by decide +kernel
theorem d1_2 : decode method_2_code 2 = .ok (.iushr, 1) := by decide +kernel
theorem d1_3 : decode method_2_code 3 = .ok (.iconst 1, 1) := by decide +kernel
theorem d1_4 : decode method_2_code 4 = .ok (.iand, 1) := by decide +kernel
theorem d1_5 : decode method_2_code 5 = .ok (.ifCond .eq 5, 3) := by decide +kernel
theorem d1_10 : decode method_2_code 10 = .ok (.iload_n 2, 1) := by decide +kernel
theorem d1_11 : decode method_2_code 11 = .ok (.i2l, 1) := by decide +kernel
theorem d1_12 : decode method_2_code 12 = .ok (.iconst 3, 1) := by decide +kernel
theorem d1_13 : decode method_2_code 13 = .ok (.lshl, 1) := by decide +kernel
theorem d1_14 : decode method_2_code 14 = .ok (.iload_n 3, 1) := by decide +kernel
theorem d1_15 : decode method_2_code 15 = .ok (.i2l, 1) := by decide +kernel
theorem d1_16 : decode method_2_code 16 = .ok (.lor, 1) := by decide +kernel
theorem d1_17 : decode method_2_code 17 = .ok (.invokestatic 7, 3) := by decide +kernel
theorem pd__J_Ljava_lang_Long_ : parseMethodDescriptor "(J)Ljava/lang/Long;" = some ⟨[.long], some (.object "java/lang/Long")⟩ := by decide +kernel
theorem d1_20 : decode method_2_code 20 = .ok (.areturn, 1) := by decide +kernel
theorem ef_1_IIII (m : MethodId) (x0 : Int32) (x1 : Int32) (x2 : Int32) (x3 : Int32) : entryFrame m #[(.int x0), (.int x1), (.int x2), (.int x3)] 4 = mkF m 0 #[.val (.int x0), .val (.int x1), .val (.int x2), .val (.int x3)] [] := by first | (simp [entryFrame, mkF, argsToLocals, Value.category]; done) | (simp [entryFrame, mkF, argsToLocals, own_cr, own_ci, own_cj]; done) | rfl
theorem pn_com_example_tributary_tributary_Tuple8ToArrayPinLaw : plainName "com/example/tributary/tributary/Tuple8ToArrayPinLaw" = true := by first | (simp [plainName, overriddenIn]; done) | decide +kernel
set_option maxRecDepth 65536 in
set_option maxHeartbeats 40000000 in
theorem v_y (l : Launch) (Z : State) (a0 : Array Value) (hw : ∀ d ∈ tables_1, d.before a0 Z = true) (ws : List Jvm.Cond) (p1 p2 p3 p4 : Int32) (w_Long : Addr) (c_Long : Cell) (h0 : Heap) (n0 : Nat) (Z0 : n0 ≤ h0.size) (C_Long : Cache Z h0 "java/lang/Long" "java/lang/Long$LongCache" "[Ljava/lang/Long;" w_Long c_Long) (hbt : (((p1.toUInt32 >>> (p2 &&& 31).toUInt32).toInt32) &&& (1 : Int32)) = (0 : Int32)) :
    MetFree l (⟨"com/example/tributary/tributary/Tuple8ToArrayPinLaw", "v", "(IIII)Ljava/lang/Object;"⟩ : MethodName) (head1 (Jvm.Cond.code (⟨"com/example/tributary/tributary/Tuple8ToArrayPinLaw", "v", "(IIII)Ljava/lang/Object;"⟩ : MethodName) method_2_code 4 (some (.object "java/lang/Object")) :: ws) ({ frames := 4, cells := 1, slots := 1, locals := 53 } : Room)) (fun a U => a = #[(.int p1), (.int p2), (.int p3), (.int p4)] ∧ Z.Warmed39 U.vm ∧ U.heap = h0) (fun _ _ _ _ _ => True) (fun _ U o U' => ∃ v L, o = .returned v ∧ QP Z h0 n0 v U'.heap L ∧ FrameEnd U o U' L ({ frames := 4, cells := 1, slots := 1, locals := 53 } : Room).cells ({ frames := 4, cells := 1, slots := 1, locals := 53 } : Room).slots) := by
  refine MetFree.of_bodySF (plainFor_of_name pn_com_example_tributary_tributary_Tuple8ToArrayPinLaw) hisR ?_
  intro p e s m args below meth c s₁ Bd hml0 hP hK
  obtain ⟨rfl, hZ, hh⟩ := hP
  have hx := Bd.exec
  have hby := Bd.bytes
  have hml : c.maxLocals = 4 := hml0
  have hown : s.vm.findClass "com/example/tributary/tributary/Tuple8ToArrayPinLaw" = some m.cls := findClass_of_methodNamed Bd.named
  have hnm := (name_of_methodNamed Bd.named Bd.method).1
  have X0 : Stand p l e ({ frames := 4, cells := 1, slots := 1, locals := 53 } : Room) s m #[(.int p1), (.int p2), (.int p3), (.int p4)] below meth c s₁ [] 0 0 := Stand.of_body Bd
  have e0 : s₁.heap = h0 := by rw [← hh, Bd.state]; rfl
  have N0 := Fr.nil n0
  have pre0 : ∀ t, Steps p.tables e below (s₁.setTop (mkF m 0 #[.val (.int p1), .val (.int p2), .val (.int p3), .val (.int p4)] [])) t → Steps p.tables e below (s₁.setTop (entryFrame m #[(.int p1), (.int p2), (.int p3), (.int p4)] 4)) t := fun t k => castTop (ef_1_IIII m p1 p2 p3 p4) k
  obtain ⟨_, _, ⟨T1, L1, k1, n1⟩, -, X1, ⟨Lc1, hQ1, l1, y1, z1⟩, st1⟩ := Jvm.LawKit.callS X0 hx (y := (⟨"java/lang/Long", "valueOf", "(J)Ljava/lang/Long;"⟩ : MethodName)) hown (mvT hZ (hw _ (List.mem_of_getElem? (i := 4) rfl))) (mvT hZ (hw _ (List.mem_of_getElem? (i := 5) rfl))) (mvT hZ (hw _ (List.mem_of_getElem? (i := 6) rfl))) (mvT hZ (hw _ (List.mem_of_getElem? (i := 7) rfl))) (by decide) (backOf (W := 0) (valueOf_Long l Z a0 hw [] (((p3.toInt64) <<< ((3 : Int32) &&& 0x3f).toInt64) ||| (p4.toInt64)) w_Long c_Long h0 n0 Z0 (C_Long.keep (Keep.refl h0 []))) hZ (hw _ (List.mem_of_getElem? (i := 7) rfl)) (hw _ (List.mem_of_getElem? (i := 6) rfl)) (by decide) (by decide)) (g := (mkF m 17 #[.val (.int p1), .val (.int p2), .val (.int p3), .val (.int p4)] [(.long (((p3.toInt64) <<< ((3 : Int32) &&& 0x3f).toInt64) ||| (p4.toInt64)))])) rfl (by rw [hml]; rfl) (argsL := [(.long (((p3.toInt64) <<< ((3 : Int32) &&& 0x3f).toInt64) ||| (p4.toInt64)))]) (rest := []) (lenOf pd__J_Ljava_lang_Long_ rfl) rfl (by show 2 * 0 + _ ≤ _; exact Nat.le_of_eq rfl) (hb hby d1_17) (fun _ _ => ⟨rfl, e0, (by decide : 0 + 1 ≤ _), (by decide : 0 + 1 ≤ _)⟩)
  dsimp only [Pt.U, Pt.locs, Pt.cells, Pt.slots] at X1 l1 y1 z1 st1 hQ1
  subst l1 y1 z1
  obtain ⟨o1, rfl, N1q, K1q, E1q⟩ := hQ1
  have N1 := Fr.app N0 N1q
  have K1 : Keep h0 T1.heap [] := (Keep.refl h0 []).trans K1q all0
  obtain ⟨fs, hr, hrun, hended, hW, hsame⟩ := X1.leave (v := some (.ref o1)) (fun h => by rw [Bd.returns] at h; cases h)
  refine ⟨_, _, pre0 _ ?_, hrun, hended, _, _, rfl, ?_, ⟨_, rfl⟩, hW, hsame.mono (by decide) (by decide)⟩
  · show Steps p.tables e below (s₁.setTop (mkF m 0 #[.val (.int p1), .val (.int p2), .val (.int p3), .val (.int p4)] [])) _
    refine XS.iloadN X0.here hx rfl (hb hby d1_0) rfl ?_
    show Steps p.tables e below (s₁.setTop (mkF m 1 #[.val (.int p1), .val (.int p2), .val (.int p3), .val (.int p4)] [(.int p1)])) _
    refine XS.iloadN X0.here hx rfl (hb hby d1_1) rfl ?_
    show Steps p.tables e below (s₁.setTop (mkF m 2 #[.val (.int p1), .val (.int p2), .val (.int p3), .val (.int p4)] [(.int p2), (.int p1)])) _
    refine XS.iushr X0.here hx rfl (hb hby d1_2) rfl ?_
    show Steps p.tables e below (s₁.setTop (mkF m 3 #[.val (.int p1), .val (.int p2), .val (.int p3), .val (.int p4)] [(.int ((p1.toUInt32 >>> (p2 &&& 31).toUInt32).toInt32))])) _
    refine XS.iconst X0.here hx rfl (hb hby d1_3) ?_
    show Steps p.tables e below (s₁.setTop (mkF m 4 #[.val (.int p1), .val (.int p2), .val (.int p3), .val (.int p4)] [(.int (1 : Int32)), (.int ((p1.toUInt32 >>> (p2 &&& 31).toUInt32).toInt32))])) _
    refine XS.iand X0.here hx rfl (hb hby d1_4) rfl ?_
    show Steps p.tables e below (s₁.setTop (mkF m 5 #[.val (.int p1), .val (.int p2), .val (.int p3), .val (.int p4)] [(.int (((p1.toUInt32 >>> (p2 &&& 31).toUInt32).toInt32) &&& (1 : Int32)))])) _
    refine XS.ifYes X0.here hx rfl (pc0 := 5) (pc' := 10) rfl (hb hby d1_5) rfl ((if0 _ _).trans (teq (hbt : (((p1.toUInt32 >>> (p2 &&& 31).toUInt32).toInt32) &&& (1 : Int32)) = (0 : Int32))).1) (by decide) (by decide) ?_
    show Steps p.tables e below (s₁.setTop (mkF m 10 #[.val (.int p1), .val (.int p2), .val (.int p3), .val (.int p4)] [])) _
    refine XS.iloadN X0.here hx rfl (hb hby d1_10) rfl ?_
    show Steps p.tables e below (s₁.setTop (mkF m 11 #[.val (.int p1), .val (.int p2), .val (.int p3), .val (.int p4)] [(.int p3)])) _
    refine XS.i2l X0.here hx rfl (hb hby d1_11) rfl ?_
    show Steps p.tables e below (s₁.setTop (mkF m 12 #[.val (.int p1), .val (.int p2), .val (.int p3), .val (.int p4)] [(.long (p3.toInt64))])) _
    refine XS.iconst X0.here hx rfl (hb hby d1_12) ?_
    show Steps p.tables e below (s₁.setTop (mkF m 13 #[.val (.int p1), .val (.int p2), .val (.int p3), .val (.int p4)] [(.int (3 : Int32)), (.long (p3.toInt64))])) _
    refine XS.lshl X0.here hx rfl (hb hby d1_13) rfl ?_
    show Steps p.tables e below (s₁.setTop (mkF m 14 #[.val (.int p1), .val (.int p2), .val (.int p3), .val (.int p4)] [(.long ((p3.toInt64) <<< ((3 : Int32) &&& 0x3f).toInt64))])) _
    refine XS.iloadN X0.here hx rfl (hb hby d1_14) rfl ?_
    show Steps p.tables e below (s₁.setTop (mkF m 15 #[.val (.int p1), .val (.int p2), .val (.int p3), .val (.int p4)] [(.int p4), (.long ((p3.toInt64) <<< ((3 : Int32) &&& 0x3f).toInt64))])) _
    refine XS.i2l X0.here hx rfl (hb hby d1_15) rfl ?_
    show Steps p.tables e below (s₁.setTop (mkF m 16 #[.val (.int p1), .val (.int p2), .val (.int p3), .val (.int p4)] [(.long (p4.toInt64)), (.long ((p3.toInt64) <<< ((3 : Int32) &&& 0x3f).toInt64))])) _
    refine XS.lor X0.here hx rfl (hb hby d1_16) rfl ?_
    show Steps p.tables e below (s₁.setTop (mkF m 17 #[.val (.int p1), .val (.int p2), .val (.int p3), .val (.int p4)] [(.long (((p3.toInt64) <<< ((3 : Int32) &&& 0x3f).toInt64) ||| (p4.toInt64)))])) _
    refine st1 _ ?_
    show Steps p.tables e below (T1.setTop (mkF m 20 #[.val (.int p1), .val (.int p2), .val (.int p3), .val (.int p4)] [(.ref o1)])) _
    exact retOut X1 hx Bd.returns rfl (Or.inr (Or.inr (Or.inr (Or.inr ⟨rfl, rfl, rfl⟩)))) (hb hby d1_20) hr
  · show QP Z h0 n0 _ T1.heap _
    exact ⟨_, rfl, N1, K1, (own_obj E1q (hw _ (List.mem_of_getElem? (i := 49) rfl)))⟩
theorem d1_8 : decode method_2_code 8 = .ok (.aconst_null, 1) := by decide +kernel
theorem d1_9 : decode method_2_code 9 = .ok (.areturn, 1) := by decide +kernel
set_option maxRecDepth 65536 in
set_option maxHeartbeats 40000000 in
theorem v_n (l : Launch) (Z : State) (a0 : Array Value) (hw : ∀ d ∈ tables_1, d.before a0 Z = true) (ws : List Jvm.Cond) (p1 p2 p3 p4 : Int32) (w_Long : Addr) (c_Long : Cell) (h0 : Heap) (n0 : Nat) (Z0 : n0 ≤ h0.size) (C_Long : Cache Z h0 "java/lang/Long" "java/lang/Long$LongCache" "[Ljava/lang/Long;" w_Long c_Long) (hbt : ¬ ((((p1.toUInt32 >>> (p2 &&& 31).toUInt32).toInt32) &&& (1 : Int32)) = (0 : Int32))) :
    MetFree l (⟨"com/example/tributary/tributary/Tuple8ToArrayPinLaw", "v", "(IIII)Ljava/lang/Object;"⟩ : MethodName) (head1 (Jvm.Cond.code (⟨"com/example/tributary/tributary/Tuple8ToArrayPinLaw", "v", "(IIII)Ljava/lang/Object;"⟩ : MethodName) method_2_code 4 (some (.object "java/lang/Object")) :: ws) ({ frames := 4, cells := 1, slots := 1, locals := 53 } : Room)) (fun a U => a = #[(.int p1), (.int p2), (.int p3), (.int p4)] ∧ Z.Warmed39 U.vm ∧ U.heap = h0) (fun _ _ _ _ _ => True) (fun _ U o U' => ∃ v L, o = .returned v ∧ QP Z h0 n0 v U'.heap L ∧ FrameEnd U o U' L ({ frames := 4, cells := 1, slots := 1, locals := 53 } : Room).cells ({ frames := 4, cells := 1, slots := 1, locals := 53 } : Room).slots) := by
  refine MetFree.of_bodySF (plainFor_of_name pn_com_example_tributary_tributary_Tuple8ToArrayPinLaw) hisR ?_
  intro p e s m args below meth c s₁ Bd hml0 hP hK
  obtain ⟨rfl, hZ, hh⟩ := hP
  have hx := Bd.exec
  have hby := Bd.bytes
  have hml : c.maxLocals = 4 := hml0
  have hown : s.vm.findClass "com/example/tributary/tributary/Tuple8ToArrayPinLaw" = some m.cls := findClass_of_methodNamed Bd.named
  have hnm := (name_of_methodNamed Bd.named Bd.method).1
  have X0 : Stand p l e ({ frames := 4, cells := 1, slots := 1, locals := 53 } : Room) s m #[(.int p1), (.int p2), (.int p3), (.int p4)] below meth c s₁ [] 0 0 := Stand.of_body Bd
  have e0 : s₁.heap = h0 := by rw [← hh, Bd.state]; rfl
  have N0 := Fr.nil n0
  have pre0 : ∀ t, Steps p.tables e below (s₁.setTop (mkF m 0 #[.val (.int p1), .val (.int p2), .val (.int p3), .val (.int p4)] [])) t → Steps p.tables e below (s₁.setTop (entryFrame m #[(.int p1), (.int p2), (.int p3), (.int p4)] 4)) t := fun t k => castTop (ef_1_IIII m p1 p2 p3 p4) k
  obtain ⟨fs, hr, hrun, hended, hW, hsame⟩ := X0.leave (v := some .null) (fun h => by rw [Bd.returns] at h; cases h)
  refine ⟨_, _, pre0 _ ?_, hrun, hended, _, _, rfl, ?_, ⟨_, rfl⟩, hW, hsame.mono (by decide) (by decide)⟩
  · show Steps p.tables e below (s₁.setTop (mkF m 0 #[.val (.int p1), .val (.int p2), .val (.int p3), .val (.int p4)] [])) _
    refine XS.iloadN X0.here hx rfl (hb hby d1_0) rfl ?_
    show Steps p.tables e below (s₁.setTop (mkF m 1 #[.val (.int p1), .val (.int p2), .val (.int p3), .val (.int p4)] [(.int p1)])) _
    refine XS.iloadN X0.here hx rfl (hb hby d1_1) rfl ?_
    show Steps p.tables e below (s₁.setTop (mkF m 2 #[.val (.int p1), .val (.int p2), .val (.int p3), .val (.int p4)] [(.int p2), (.int p1)])) _
    refine XS.iushr X0.here hx rfl (hb hby d1_2) rfl ?_
    show Steps p.tables e below (s₁.setTop (mkF m 3 #[.val (.int p1), .val (.int p2), .val (.int p3), .val (.int p4)] [(.int ((p1.toUInt32 >>> (p2 &&& 31).toUInt32).toInt32))])) _
    refine XS.iconst X0.here hx rfl (hb hby d1_3) ?_
    show Steps p.tables e below (s₁.setTop (mkF m 4 #[.val (.int p1), .val (.int p2), .val (.int p3), .val (.int p4)] [(.int (1 : Int32)), (.int ((p1.toUInt32 >>> (p2 &&& 31).toUInt32).toInt32))])) _
    refine XS.iand X0.here hx rfl (hb hby d1_4) rfl ?_
    show Steps p.tables e below (s₁.setTop (mkF m 5 #[.val (.int p1), .val (.int p2), .val (.int p3), .val (.int p4)] [(.int (((p1.toUInt32 >>> (p2 &&& 31).toUInt32).toInt32) &&& (1 : Int32)))])) _
    refine XS.ifNo X0.here hx rfl (hb hby d1_5) rfl ((if0 _ _).trans (feq (hbt : ¬ ((((p1.toUInt32 >>> (p2 &&& 31).toUInt32).toInt32) &&& (1 : Int32)) = (0 : Int32)))).1) ?_
    show Steps p.tables e below (s₁.setTop (mkF m 8 #[.val (.int p1), .val (.int p2), .val (.int p3), .val (.int p4)] [])) _
    refine XS.aconstNull X0.here hx rfl (hb hby d1_8) ?_
    show Steps p.tables e below (s₁.setTop (mkF m 9 #[.val (.int p1), .val (.int p2), .val (.int p3), .val (.int p4)] [.null])) _
    exact retOut X0 hx Bd.returns rfl (Or.inr (Or.inr (Or.inr (Or.inr ⟨rfl, rfl, rfl⟩)))) (hb hby d1_9) hr
  · show QP Z h0 n0 _ s₁.heap _
    rw [e0]
    exact ⟨_, rfl, N0, (Keep.refl h0 []), Or.inl rfl⟩
theorem v_all (l : Launch) (Z : State) (a0 : Array Value) (hw : ∀ d ∈ tables_1, d.before a0 Z = true) (ws : List Jvm.Cond) (p1 p2 p3 p4 : Int32) (w_Long : Addr) (c_Long : Cell) (h0 : Heap) (n0 : Nat) (Z0 : n0 ≤ h0.size) (C_Long : Cache Z h0 "java/lang/Long" "java/lang/Long$LongCache" "[Ljava/lang/Long;" w_Long c_Long) :
    MetFree l (⟨"com/example/tributary/tributary/Tuple8ToArrayPinLaw", "v", "(IIII)Ljava/lang/Object;"⟩ : MethodName) (head1 (Jvm.Cond.code (⟨"com/example/tributary/tributary/Tuple8ToArrayPinLaw", "v", "(IIII)Ljava/lang/Object;"⟩ : MethodName) method_2_code 4 (some (.object "java/lang/Object")) :: ws) ({ frames := 4, cells := 1, slots := 1, locals := 53 } : Room)) (fun a U => a = #[(.int p1), (.int p2), (.int p3), (.int p4)] ∧ Z.Warmed39 U.vm ∧ U.heap = h0) (fun _ _ _ _ _ => True) (fun _ U o U' => ∃ v L, o = .returned v ∧ QP Z h0 n0 v U'.heap L ∧ FrameEnd U o U' L ({ frames := 4, cells := 1, slots := 1, locals := 53 } : Room).cells ({ frames := 4, cells := 1, slots := 1, locals := 53 } : Room).slots) := by
  by_cases hbt : (((p1.toUInt32 >>> (p2 &&& 31).toUInt32).toInt32) &&& (1 : Int32)) = (0 : Int32)
  · exact v_y l Z a0 hw ws p1 p2 p3 p4 w_Long c_Long h0 n0 Z0 C_Long hbt
  exact v_n l Z a0 hw ws p1 p2 p3 p4 w_Long c_Long h0 n0 Z0 C_Long hbt
theorem d4_0 : decode prog_43_method_1_code 0 = .ok (.aload_n 0, 1) := by decide +kernel
theorem d4_1 : decode prog_43_method_1_code 1 = .ok (.invokespecial 1, 3) := by decide +kernel
theorem d4_4 : decode prog_43_method_1_code 4 = .ok (.return_, 1) := by decide +kernel
theorem ef_4_R (m : MethodId) (x0 : Addr) : entryFrame m #[(.ref x0)] 1 = mkF m 0 #[.val (.ref x0)] [] := by first | (simp [entryFrame, mkF, argsToLocals, Value.category]; done) | (simp [entryFrame, mkF, argsToLocals, own_cr, own_ci, own_cj]; done) | rfl
theorem pn_com_example_tributary_tributary_Tuple : plainName "com/example/tributary/tributary/Tuple" = true := by first | (simp [plainName, overriddenIn]; done) | decide +kernel
set_option maxRecDepth 65536 in
set_option maxHeartbeats 40000000 in
theorem sup_4 (l : Launch) (Z : State) (a0 : Array Value) (hw : ∀ d ∈ tables_1, d.before a0 Z = true) (ws : List Jvm.Cond) (a1 : Addr) (h0 : Heap) (n0 : Nat) (Z0 : n0 ≤ h0.size) :
    MetFree l (⟨"com/example/tributary/tributary/Tuple", "<init>", "()V"⟩ : MethodName) (head1 (Jvm.Cond.code (⟨"com/example/tributary/tributary/Tuple", "<init>", "()V"⟩ : MethodName) prog_43_method_1_code 1 none :: ws) ({ frames := 1, cells := 0, slots := 0, locals := 12 } : Room)) (fun a U => a = #[(.ref a1)] ∧ Z.Warmed39 U.vm ∧ U.heap = h0) (fun _ _ _ _ _ => True) (fun _ U o U' => ∃ v L, o = .returned v ∧ QN h0 n0 v U'.heap L ∧ FrameEnd U o U' L ({ frames := 1, cells := 0, slots := 0, locals := 12 } : Room).cells ({ frames := 1, cells := 0, slots := 0, locals := 12 } : Room).slots) := by
  refine MetFree.of_bodySF (plainFor_of_name pn_com_example_tributary_tributary_Tuple) hisR ?_
  intro p e s m args below meth c s₁ Bd hml0 hP hK
  obtain ⟨rfl, hZ, hh⟩ := hP
  have hx := Bd.exec
  have hby := Bd.bytes
  have hml : c.maxLocals = 1 := hml0
  have hown : s.vm.findClass "com/example/tributary/tributary/Tuple" = some m.cls := findClass_of_methodNamed Bd.named
  have hnm := (name_of_methodNamed Bd.named Bd.method).1
  have X0 : Stand p l e ({ frames := 1, cells := 0, slots := 0, locals := 12 } : Room) s m #[(.ref a1)] below meth c s₁ [] 0 0 := Stand.of_body Bd
  have e0 : s₁.heap = h0 := by rw [← hh, Bd.state]; rfl
  have N0 := Fr.nil n0
  have pre0 : ∀ t, Steps p.tables e below (s₁.setTop (mkF m 0 #[.val (.ref a1)] [])) t → Steps p.tables e below (s₁.setTop (entryFrame m #[(.ref a1)] 1)) t := fun t k => castTop (ef_4_R m a1) k
  obtain ⟨T1, X1, e1, st1⟩ := initO X0 hx hZ hown (hw _ (List.mem_of_getElem? (i := 23) rfl)) (hw _ (List.mem_of_getElem? (i := 24) rfl)) (hw _ (List.mem_of_getElem? (i := 25) rfl)) e0 (g := (mkF m 1 #[.val (.ref a1)] [(.ref a1)])) rfl (by rw [hml]; rfl) rfl (hb hby d4_1) (by decide) (W := 0) (by show 2 * 0 + _ ≤ _; exact Nat.le_of_eq rfl) (by decide)
  obtain ⟨fs, hr, hrun, hended, hW, hsame⟩ := X1.leave (v := none) (fun _ => rfl)
  refine ⟨_, _, pre0 _ ?_, hrun, hended, _, _, rfl, ?_, ⟨_, rfl⟩, hW, hsame.mono (by decide) (by decide)⟩
  · show Steps p.tables e below (s₁.setTop (mkF m 0 #[.val (.ref a1)] [])) _
    refine XS.aloadN X0.here hx rfl (hb hby d4_0) rfl rfl ?_
    show Steps p.tables e below (s₁.setTop (mkF m 1 #[.val (.ref a1)] [(.ref a1)])) _
    refine st1 _ ?_
    show Steps p.tables e below (T1.setTop (mkF m 4 #[.val (.ref a1)] [])) _
    exact X1.returnOut hx Bd.returns (hb hby d4_4) hr
  · show QN h0 n0 _ T1.heap _
    rw [e1]
    exact ⟨rfl, N0, rfl⟩
theorem d3_0 : decode prog_50_method_1_code 0 = .ok (.aload_n 0, 1) := by decide +kernel
theorem d3_1 : decode prog_50_method_1_code 1 = .ok (.invokespecial 1, 3) := by decide +kernel
theorem d3_4 : decode prog_50_method_1_code 4 = .ok (.aload_n 0, 1) := by decide +kernel
theorem d3_5 : decode prog_50_method_1_code 5 = .ok (.aload_n 1, 1) := by decide +kernel
theorem d3_6 : decode prog_50_method_1_code 6 = .ok (.putfield 7, 3) := by decide +kernel
theorem d3_9 : decode prog_50_method_1_code 9 = .ok (.aload_n 0, 1) := by decide +kernel
theorem d3_10 : decode prog_50_method_1_code 10 = .ok (.aload_n 2, 1) := by decide +kernel
theorem d3_11 : decode prog_50_method_1_code 11 = .ok (.putfield 13, 3) := by decide +kernel
theorem d3_14 : decode prog_50_method_1_code 14 = .ok (.aload_n 0, 1) := by decide +kernel
theorem d3_15 : decode prog_50_method_1_code 15 = .ok (.aload_n 3, 1) := by decide +kernel
theorem d3_16 : decode prog_50_method_1_code 16 = .ok (.putfield 16, 3) := by decide +kernel
theorem d3_19 : decode prog_50_method_1_code 19 = .ok (.aload_n 0, 1) := by decide +kernel
theorem d3_20 : decode prog_50_method_1_code 20 = .ok (.aload 4, 2) := by decide +kernel
theorem d3_22 : decode prog_50_method_1_code 22 = .ok (.putfield 19, 3) := by decide +kernel
theorem d3_25 : decode prog_50_method_1_code 25 = .ok (.aload_n 0, 1) := by decide +kernel
theorem d3_26 : decode prog_50_method_1_code 26 = .ok (.aload 5, 2) := by decide +kernel
theorem d3_28 : decode prog_50_method_1_code 28 = .ok (.putfield 22, 3) := by decide +kernel
theorem d3_31 : decode prog_50_method_1_code 31 = .ok (.aload_n 0, 1) := by decide +kernel
theorem d3_32 : decode prog_50_method_1_code 32 = .ok (.aload 6, 2) := by decide +kernel
theorem d3_34 : decode prog_50_method_1_code 34 = .ok (.putfield 25, 3) := by decide +kernel
theorem d3_37 : decode prog_50_method_1_code 37 = .ok (.aload_n 0, 1) := by decide +kernel
theorem d3_38 : decode prog_50_method_1_code 38 = .ok (.aload 7, 2) := by decide +kernel
theorem d3_40 : decode prog_50_method_1_code 40 = .ok (.putfield 28, 3) := by decide +kernel
theorem d3_43 : decode prog_50_method_1_code 43 = .ok (.aload_n 0, 1) := by decide +kernel
theorem d3_44 : decode prog_50_method_1_code 44 = .ok (.aload 8, 2) := by decide +kernel
theorem d3_46 : decode prog_50_method_1_code 46 = .ok (.putfield 31, 3) := by decide +kernel
theorem d3_49 : decode prog_50_method_1_code 49 = .ok (.return_, 1) := by decide +kernel
theorem ef_3_RVVVVVVVV (m : MethodId) (x0 : Addr) (x1 : Value) (c1 : Value.category x1 = 1) (x2 : Value) (c2 : Value.category x2 = 1) (x3 : Value) (c3 : Value.category x3 = 1) (x4 : Value) (c4 : Value.category x4 = 1) (x5 : Value) (c5 : Value.category x5 = 1) (x6 : Value) (c6 : Value.category x6 = 1) (x7 : Value) (c7 : Value.category x7 = 1) (x8 : Value) (c8 : Value.category x8 = 1) : entryFrame m #[(.ref x0), x1, x2, x3, x4, x5, x6, x7, x8] 9 = mkF m 0 #[.val (.ref x0), .val x1, .val x2, .val x3, .val x4, .val x5, .val x6, .val x7, .val x8] [] := by first | (simp [entryFrame, mkF, argsToLocals, Value.category, c1, c2, c3, c4, c5, c6, c7, c8]; done) | (simp [entryFrame, mkF, argsToLocals, own_cr, own_ci, own_cj, c1, c2, c3, c4, c5, c6, c7, c8]; done) | rfl
theorem pn_com_example_tributary_tributary_Tuple8 : plainName "com/example/tributary/tributary/Tuple8" = true := by first | (simp [plainName, overriddenIn]; done) | decide +kernel
set_option maxRecDepth 65536 in
set_option maxHeartbeats 40000000 in
theorem tup_init (l : Launch) (Z : State) (a0 : Array Value) (hw : ∀ d ∈ tables_1, d.before a0 Z = true) (ws : List Jvm.Cond) (a1 : Addr) (v1 : Value) (v2 : Value) (v3 : Value) (v4 : Value) (v5 : Value) (v6 : Value) (v7 : Value) (v8 : Value) (h0 : Heap) (n0 : Nat) (Z0 : n0 ≤ h0.size) (F_t1 : Fld Z h0 a1 "com/example/tributary/tributary/Tuple8" "t1" "Ljava/lang/Object;" .null) (F_t2 : Fld Z h0 a1 "com/example/tributary/tributary/Tuple8" "t2" "Ljava/lang/Object;" .null) (F_t3 : Fld Z h0 a1 "com/example/tributary/tributary/Tuple8" "t3" "Ljava/lang/Object;" .null) (F_t4 : Fld Z h0 a1 "com/example/tributary/tributary/Tuple8" "t4" "Ljava/lang/Object;" .null) (F_t5 : Fld Z h0 a1 "com/example/tributary/tributary/Tuple8" "t5" "Ljava/lang/Object;" .null) (F_t6 : Fld Z h0 a1 "com/example/tributary/tributary/Tuple8" "t6" "Ljava/lang/Object;" .null) (F_t7 : Fld Z h0 a1 "com/example/tributary/tributary/Tuple8" "t7" "Ljava/lang/Object;" .null) (F_t8 : Fld Z h0 a1 "com/example/tributary/tributary/Tuple8" "t8" "Ljava/lang/Object;" .null) (E_a1 : Exa Z h0 a1 "com/example/tributary/tributary/Tuple8") (g_a1 : n0 ≤ a1) (r_v1 : v1.isRef = true) (r_v2 : v2.isRef = true) (r_v3 : v3.isRef = true) (r_v4 : v4.isRef = true) (r_v5 : v5.isRef = true) (r_v6 : v6.isRef = true) (r_v7 : v7.isRef = true) (r_v8 : v8.isRef = true) :
    MetFree l (⟨"com/example/tributary/tributary/Tuple8", "<init>", "(Ljava/lang/Object;Ljava/lang/Object;Ljava/lang/Object;Ljava/lang/Object;Ljava/lang/Object;Ljava/lang/Object;Ljava/lang/Object;Ljava/lang/Object;)V"⟩ : MethodName) (head1 (Jvm.Cond.code (⟨"com/example/tributary/tributary/Tuple8", "<init>", "(Ljava/lang/Object;Ljava/lang/Object;Ljava/lang/Object;Ljava/lang/Object;Ljava/lang/Object;Ljava/lang/Object;Ljava/lang/Object;Ljava/lang/Object;)V"⟩ : MethodName) prog_50_method_1_code 9 none :: ws) ({ frames := 2, cells := 0, slots := 0, locals := 24 } : Room)) (fun a U => a = #[(.ref a1), v1, v2, v3, v4, v5, v6, v7, v8] ∧ Z.Warmed39 U.vm ∧ U.heap = h0) (fun _ _ _ _ _ => True) (fun _ U o U' => ∃ v L, o = .returned v ∧ QT Z a1 v1 v2 v3 v4 v5 v6 v7 v8 h0 n0 v U'.heap L ∧ FrameEnd U o U' L ({ frames := 2, cells := 0, slots := 0, locals := 24 } : Room).cells ({ frames := 2, cells := 0, slots := 0, locals := 24 } : Room).slots) := by
  refine MetFree.of_bodySF (plainFor_of_name pn_com_example_tributary_tributary_Tuple8) hisR ?_
  intro p e s m args below meth c s₁ Bd hml0 hP hK
  obtain ⟨rfl, hZ, hh⟩ := hP
  have hx := Bd.exec
  have hby := Bd.bytes
  have hml : c.maxLocals = 9 := hml0
  have hown : s.vm.findClass "com/example/tributary/tributary/Tuple8" = some m.cls := findClass_of_methodNamed Bd.named
  have hnm := (name_of_methodNamed Bd.named Bd.method).1
  have X0 : Stand p l e ({ frames := 2, cells := 0, slots := 0, locals := 24 } : Room) s m #[(.ref a1), v1, v2, v3, v4, v5, v6, v7, v8] below meth c s₁ [] 0 0 := Stand.of_body Bd
  have e0 : s₁.heap = h0 := by rw [← hh, Bd.state]; rfl
  have N0 := Fr.nil n0
  have c_v1 := own_cat r_v1
  have c_v2 := own_cat r_v2
  have c_v3 := own_cat r_v3
  have c_v4 := own_cat r_v4
  have c_v5 := own_cat r_v5
  have c_v6 := own_cat r_v6
  have c_v7 := own_cat r_v7
  have c_v8 := own_cat r_v8
  have pre0 : ∀ t, Steps p.tables e below (s₁.setTop (mkF m 0 #[.val (.ref a1), .val v1, .val v2, .val v3, .val v4, .val v5, .val v6, .val v7, .val v8] [])) t → Steps p.tables e below (s₁.setTop (entryFrame m #[(.ref a1), v1, v2, v3, v4, v5, v6, v7, v8] 9)) t := fun t k => castTop (ef_3_RVVVVVVVV m a1 v1 c_v1 v2 c_v2 v3 c_v3 v4 c_v4 v5 c_v5 v6 c_v6 v7 c_v7 v8 c_v8) k
  obtain ⟨_, _, ⟨T1, L1, k1, n1⟩, -, X1, ⟨Lc1, hQ1, l1, y1, z1⟩, st1⟩ := X0.specialBack hx (y := (⟨"com/example/tributary/tributary/Tuple", "<init>", "()V"⟩ : MethodName)) rfl hown (mvT hZ (hw _ (List.mem_of_getElem? (i := 18) rfl))) (mvT hZ (hw _ (List.mem_of_getElem? (i := 19) rfl))) (mvT hZ (hw _ (List.mem_of_getElem? (i := 22) rfl))) (by decide) (backOf (W := 0) (sup_4 l Z a0 hw [] a1 h0 n0 Z0 ) hZ (hw _ (List.mem_of_getElem? (i := 22) rfl)) (hw _ (List.mem_of_getElem? (i := 21) rfl)) (by decide) (by decide)) (g := (mkF m 1 #[.val (.ref a1), .val v1, .val v2, .val v3, .val v4, .val v5, .val v6, .val v7, .val v8] [(.ref a1)])) rfl (by rw [hml]; rfl) (Steps.refl _) (a := a1) (argsL := []) (rest := []) (lenOf pd___V rfl) rfl (by show 2 * 0 + _ ≤ _; exact Nat.le_of_eq rfl) (hb hby d3_1) (fun _ _ => ⟨rfl, e0, (by decide : 0 + 0 ≤ _), (by decide : 0 + 0 ≤ _)⟩)
  dsimp only [Pt.U, Pt.locs, Pt.cells, Pt.slots] at X1 l1 y1 z1 st1 hQ1
  subst l1 y1 z1
  obtain ⟨rfl, N1q, e1⟩ := hQ1
  have N1 := Fr.app N0 N1q
  obtain ⟨T2, h2, X2, e2, W2, st2⟩ := putF X1 hx hZ hown (host := "") (Or.inl (hw _ (List.mem_of_getElem? (i := 26) rfl))) Via.refl e1 F_t1 E_a1 (Or.inr ⟨(hw _ (List.mem_of_getElem? (i := 27) rfl)), rfl, hnm⟩) (hw _ (List.mem_of_getElem? (i := 13) rfl)) (ty := (.object "java/lang/Object")) (by decide) rfl (own_fits r_v1) (g := (mkF m 6 #[.val (.ref a1), .val v1, .val v2, .val v3, .val v4, .val v5, .val v6, .val v7, .val v8] [v1, (.ref a1)])) rfl rfl (hb hby d3_6)
  have F2_t1 := F_t1.same W2
  have F2_t2 := F_t2.other W2 (Or.inr (slot_ne (Or.inr (hw _ (List.mem_of_getElem? (i := 29) rfl))) (Or.inr (hw _ (List.mem_of_getElem? (i := 27) rfl))) (by decide) (t := (.object "java/lang/Object")) (t' := (.object "java/lang/Object")) (by decide) (by decide)))
  have F2_t3 := F_t3.other W2 (Or.inr (slot_ne (Or.inr (hw _ (List.mem_of_getElem? (i := 31) rfl))) (Or.inr (hw _ (List.mem_of_getElem? (i := 27) rfl))) (by decide) (t := (.object "java/lang/Object")) (t' := (.object "java/lang/Object")) (by decide) (by decide)))
  have F2_t4 := F_t4.other W2 (Or.inr (slot_ne (Or.inr (hw _ (List.mem_of_getElem? (i := 33) rfl))) (Or.inr (hw _ (List.mem_of_getElem? (i := 27) rfl))) (by decide) (t := (.object "java/lang/Object")) (t' := (.object "java/lang/Object")) (by decide) (by decide)))
  have F2_t5 := F_t5.other W2 (Or.inr (slot_ne (Or.inr (hw _ (List.mem_of_getElem? (i := 35) rfl))) (Or.inr (hw _ (List.mem_of_getElem? (i := 27) rfl))) (by decide) (t := (.object "java/lang/Object")) (t' := (.object "java/lang/Object")) (by decide) (by decide)))
  have F2_t6 := F_t6.other W2 (Or.inr (slot_ne (Or.inr (hw _ (List.mem_of_getElem? (i := 37) rfl))) (Or.inr (hw _ (List.mem_of_getElem? (i := 27) rfl))) (by decide) (t := (.object "java/lang/Object")) (t' := (.object "java/lang/Object")) (by decide) (by decide)))
  have F2_t7 := F_t7.other W2 (Or.inr (slot_ne (Or.inr (hw _ (List.mem_of_getElem? (i := 39) rfl))) (Or.inr (hw _ (List.mem_of_getElem? (i := 27) rfl))) (by decide) (t := (.object "java/lang/Object")) (t' := (.object "java/lang/Object")) (by decide) (by decide)))
  have F2_t8 := F_t8.other W2 (Or.inr (slot_ne (Or.inr (hw _ (List.mem_of_getElem? (i := 41) rfl))) (Or.inr (hw _ (List.mem_of_getElem? (i := 27) rfl))) (by decide) (t := (.object "java/lang/Object")) (t' := (.object "java/lang/Object")) (by decide) (by decide)))
  have E2_a1 := E_a1.wr W2
  have K2 : Keep h0 h2 [a1] := (Keep.refl h0 [a1]).wr W2 (Or.inl (List.mem_of_getElem? (i := 0) rfl))
  have N2 := Fr.snoc X2 N1 g_a1
  obtain ⟨T3, h3, X3, e3, W3, st3⟩ := putF X2 hx hZ hown (host := "") (Or.inl (hw _ (List.mem_of_getElem? (i := 28) rfl))) Via.refl e2 F2_t2 E2_a1 (Or.inr ⟨(hw _ (List.mem_of_getElem? (i := 29) rfl)), rfl, hnm⟩) (hw _ (List.mem_of_getElem? (i := 13) rfl)) (ty := (.object "java/lang/Object")) (by decide) rfl (own_fits r_v2) (g := (mkF m 11 #[.val (.ref a1), .val v1, .val v2, .val v3, .val v4, .val v5, .val v6, .val v7, .val v8] [v2, (.ref a1)])) rfl rfl (hb hby d3_11)
  have F3_t1 := F2_t1.other W3 (Or.inr (slot_ne (Or.inr (hw _ (List.mem_of_getElem? (i := 27) rfl))) (Or.inr (hw _ (List.mem_of_getElem? (i := 29) rfl))) (by decide) (t := (.object "java/lang/Object")) (t' := (.object "java/lang/Object")) (by decide) (by decide)))
  have F3_t2 := F2_t2.same W3
  have F3_t3 := F2_t3.other W3 (Or.inr (slot_ne (Or.inr (hw _ (List.mem_of_getElem? (i := 31) rfl))) (Or.inr (hw _ (List.mem_of_getElem? (i := 29) rfl))) (by decide) (t := (.object "java/lang/Object")) (t' := (.object "java/lang/Object")) (by decide) (by decide)))
  have F3_t4 := F2_t4.other W3 (Or.inr (slot_ne (Or.inr (hw _ (List.mem_of_getElem? (i := 33) rfl))) (Or.inr (hw _ (List.mem_of_getElem? (i := 29) rfl))) (by decide) (t := (.object "java/lang/Object")) (t' := (.object "java/lang/Object")) (by decide) (by decide)))
  have F3_t5 := F2_t5.other W3 (Or.inr (slot_ne (Or.inr (hw _ (List.mem_of_getElem? (i := 35) rfl))) (Or.inr (hw _ (List.mem_of_getElem? (i := 29) rfl))) (by decide) (t := (.object "java/lang/Object")) (t' := (.object "java/lang/Object")) (by decide) (by decide)))
  have F3_t6 := F2_t6.other W3 (Or.inr (slot_ne (Or.inr (hw _ (List.mem_of_getElem? (i := 37) rfl))) (Or.inr (hw _ (List.mem_of_getElem? (i := 29) rfl))) (by decide) (t := (.object "java/lang/Object")) (t' := (.object "java/lang/Object")) (by decide) (by decide)))
  have F3_t7 := F2_t7.other W3 (Or.inr (slot_ne (Or.inr (hw _ (List.mem_of_getElem? (i := 39) rfl))) (Or.inr (hw _ (List.mem_of_getElem? (i := 29) rfl))) (by decide) (t := (.object "java/lang/Object")) (t' := (.object "java/lang/Object")) (by decide) (by decide)))
  have F3_t8 := F2_t8.other W3 (Or.inr (slot_ne (Or.inr (hw _ (List.mem_of_getElem? (i := 41) rfl))) (Or.inr (hw _ (List.mem_of_getElem? (i := 29) rfl))) (by decide) (t := (.object "java/lang/Object")) (t' := (.object "java/lang/Object")) (by decide) (by decide)))
  have E3_a1 := E2_a1.wr W3
  have K3 : Keep h0 h3 [a1] := K2.wr W3 (Or.inl (List.mem_of_getElem? (i := 0) rfl))
  have N3 := Fr.snoc X3 N2 g_a1
  obtain ⟨T4, h4, X4, e4, W4, st4⟩ := putF X3 hx hZ hown (host := "") (Or.inl (hw _ (List.mem_of_getElem? (i := 30) rfl))) Via.refl e3 F3_t3 E3_a1 (Or.inr ⟨(hw _ (List.mem_of_getElem? (i := 31) rfl)), rfl, hnm⟩) (hw _ (List.mem_of_getElem? (i := 13) rfl)) (ty := (.object "java/lang/Object")) (by decide) rfl (own_fits r_v3) (g := (mkF m 16 #[.val (.ref a1), .val v1, .val v2, .val v3, .val v4, .val v5, .val v6, .val v7, .val v8] [v3, (.ref a1)])) rfl rfl (hb hby d3_16)
  have F4_t1 := F3_t1.other W4 (Or.inr (slot_ne (Or.inr (hw _ (List.mem_of_getElem? (i := 27) rfl))) (Or.inr (hw _ (List.mem_of_getElem? (i := 31) rfl))) (by decide) (t := (.object "java/lang/Object")) (t' := (.object "java/lang/Object")) (by decide) (by decide)))
  have F4_t2 := F3_t2.other W4 (Or.inr (slot_ne (Or.inr (hw _ (List.mem_of_getElem? (i := 29) rfl))) (Or.inr (hw _ (List.mem_of_getElem? (i := 31) rfl))) (by decide) (t := (.object "java/lang/Object")) (t' := (.object "java/lang/Object")) (by decide) (by decide)))
  have F4_t3 := F3_t3.same W4
  have F4_t4 := F3_t4.other W4 (Or.inr (slot_ne (Or.inr (hw _ (List.mem_of_getElem? (i := 33) rfl))) (Or.inr (hw _ (List.mem_of_getElem? (i := 31) rfl))) (by decide) (t := (.object "java/lang/Object")) (t' := (.object "java/lang/Object")) (by decide) (by decide)))
  have F4_t5 := F3_t5.other W4 (Or.inr (slot_ne (Or.inr (hw _ (List.mem_of_getElem? (i := 35) rfl))) (Or.inr (hw _ (List.mem_of_getElem? (i := 31) rfl))) (by decide) (t := (.object "java/lang/Object")) (t' := (.object "java/lang/Object")) (by decide) (by decide)))
  have F4_t6 := F3_t6.other W4 (Or.inr (slot_ne (Or.inr (hw _ (List.mem_of_getElem? (i := 37) rfl))) (Or.inr (hw _ (List.mem_of_getElem? (i := 31) rfl))) (by decide) (t := (.object "java/lang/Object")) (t' := (.object "java/lang/Object")) (by decide) (by decide)))
  have F4_t7 := F3_t7.other W4 (Or.inr (slot_ne (Or.inr (hw _ (List.mem_of_getElem? (i := 39) rfl))) (Or.inr (hw _ (List.mem_of_getElem? (i := 31) rfl))) (by decide) (t := (.object "java/lang/Object")) (t' := (.object "java/lang/Object")) (by decide) (by decide)))
  have F4_t8 := F3_t8.other W4 (Or.inr (slot_ne (Or.inr (hw _ (List.mem_of_getElem? (i := 41) rfl))) (Or.inr (hw _ (List.mem_of_getElem? (i := 31) rfl))) (by decide) (t := (.object "java/lang/Object")) (t' := (.object "java/lang/Object")) (by decide) (by decide)))
  have E4_a1 := E3_a1.wr W4
  have K4 : Keep h0 h4 [a1] := K3.wr W4 (Or.inl (List.mem_of_getElem? (i := 0) rfl))
  have N4 := Fr.snoc X4 N3 g_a1
  obtain ⟨T5, h5, X5, e5, W5, st5⟩ := putF X4 hx hZ hown (host := "") (Or.inl (hw _ (List.mem_of_getElem? (i := 32) rfl))) Via.refl e4 F4_t4 E4_a1 (Or.inr ⟨(hw _ (List.mem_of_getElem? (i := 33) rfl)), rfl, hnm⟩) (hw _ (List.mem_of_getElem? (i := 13) rfl)) (ty := (.object "java/lang/Object")) (by decide) rfl (own_fits r_v4) (g := (mkF m 22 #[.val (.ref a1), .val v1, .val v2, .val v3, .val v4, .val v5, .val v6, .val v7, .val v8] [v4, (.ref a1)])) rfl rfl (hb hby d3_22)
  have F5_t1 := F4_t1.other W5 (Or.inr (slot_ne (Or.inr (hw _ (List.mem_of_getElem? (i := 27) rfl))) (Or.inr (hw _ (List.mem_of_getElem? (i := 33) rfl))) (by decide) (t := (.object "java/lang/Object")) (t' := (.object "java/lang/Object")) (by decide) (by decide)))
  have F5_t2 := F4_t2.other W5 (Or.inr (slot_ne (Or.inr (hw _ (List.mem_of_getElem? (i := 29) rfl))) (Or.inr (hw _ (List.mem_of_getElem? (i := 33) rfl))) (by decide) (t := (.object "java/lang/Object")) (t' := (.object "java/lang/Object")) (by decide) (by decide)))
  have F5_t3 := F4_t3.other W5 (Or.inr (slot_ne (Or.inr (hw _ (List.mem_of_getElem? (i := 31) rfl))) (Or.inr (hw _ (List.mem_of_getElem? (i := 33) rfl))) (by decide) (t := (.object "java/lang/Object")) (t' := (.object "java/lang/Object")) (by decide) (by decide)))
  have F5_t4 := F4_t4.same W5
  have F5_t5 := F4_t5.other W5 (Or.inr (slot_ne (Or.inr (hw _ (List.mem_of_getElem? (i := 35) rfl))) (Or.inr (hw _ (List.mem_of_getElem? (i := 33) rfl))) (by decide) (t := (.object "java/lang/Object")) (t' := (.object "java/lang/Object")) (by decide) (by decide)))
  have F5_t6 := F4_t6.other W5 (Or.inr (slot_ne (Or.inr (hw _ (List.mem_of_getElem? (i := 37) rfl))) (Or.inr (hw _ (List.mem_of_getElem? (i := 33) rfl))) (by decide) (t := (.object "java/lang/Object")) (t' := (.object "java/lang/Object")) (by decide) (by decide)))
  have F5_t7 := F4_t7.other W5 (Or.inr (slot_ne (Or.inr (hw _ (List.mem_of_getElem? (i := 39) rfl))) (Or.inr (hw _ (List.mem_of_getElem? (i := 33) rfl))) (by decide) (t := (.object "java/lang/Object")) (t' := (.object "java/lang/Object")) (by decide) (by decide)))
  have F5_t8 := F4_t8.other W5 (Or.inr (slot_ne (Or.inr (hw _ (List.mem_of_getElem? (i := 41) rfl))) (Or.inr (hw _ (List.mem_of_getElem? (i := 33) rfl))) (by decide) (t := (.object "java/lang/Object")) (t' := (.object "java/lang/Object")) (by decide) (by decide)))
  have E5_a1 := E4_a1.wr W5
  have K5 : Keep h0 h5 [a1] := K4.wr W5 (Or.inl (List.mem_of_getElem? (i := 0) rfl))
  have N5 := Fr.snoc X5 N4 g_a1
  obtain ⟨T6, h6, X6, e6, W6, st6⟩ := putF X5 hx hZ hown (host := "") (Or.inl (hw _ (List.mem_of_getElem? (i := 34) rfl))) Via.refl e5 F5_t5 E5_a1 (Or.inr ⟨(hw _ (List.mem_of_getElem? (i := 35) rfl)), rfl, hnm⟩) (hw _ (List.mem_of_getElem? (i := 13) rfl)) (ty := (.object "java/lang/Object")) (by decide) rfl (own_fits r_v5) (g := (mkF m 28 #[.val (.ref a1), .val v1, .val v2, .val v3, .val v4, .val v5, .val v6, .val v7, .val v8] [v5, (.ref a1)])) rfl rfl (hb hby d3_28)
  have F6_t1 := F5_t1.other W6 (Or.inr (slot_ne (Or.inr (hw _ (List.mem_of_getElem? (i := 27) rfl))) (Or.inr (hw _ (List.mem_of_getElem? (i := 35) rfl))) (by decide) (t := (.object "java/lang/Object")) (t' := (.object "java/lang/Object")) (by decide) (by decide)))
  have F6_t2 := F5_t2.other W6 (Or.inr (slot_ne (Or.inr (hw _ (List.mem_of_getElem? (i := 29) rfl))) (Or.inr (hw _ (List.mem_of_getElem? (i := 35) rfl))) (by decide) (t := (.object "java/lang/Object")) (t' := (.object "java/lang/Object")) (by decide) (by decide)))
  have F6_t3 := F5_t3.other W6 (Or.inr (slot_ne (Or.inr (hw _ (List.mem_of_getElem? (i := 31) rfl))) (Or.inr (hw _ (List.mem_of_getElem? (i := 35) rfl))) (by decide) (t := (.object "java/lang/Object")) (t' := (.object "java/lang/Object")) (by decide) (by decide)))
  have F6_t4 := F5_t4.other W6 (Or.inr (slot_ne (Or.inr (hw _ (List.mem_of_getElem? (i := 33) rfl))) (Or.inr (hw _ (List.mem_of_getElem? (i := 35) rfl))) (by decide) (t := (.object "java/lang/Object")) (t' := (.object "java/lang/Object")) (by decide) (by decide)))
  have F6_t5 := F5_t5.same W6
  have F6_t6 := F5_t6.other W6 (Or.inr (slot_ne (Or.inr (hw _ (List.mem_of_getElem? (i := 37) rfl))) (Or.inr (hw _ (List.mem_of_getElem? (i := 35) rfl))) (by decide) (t := (.object "java/lang/Object")) (t' := (.object "java/lang/Object")) (by decide) (by decide)))
  have F6_t7 := F5_t7.other W6 (Or.inr (slot_ne (Or.inr (hw _ (List.mem_of_getElem? (i := 39) rfl))) (Or.inr (hw _ (List.mem_of_getElem? (i := 35) rfl))) (by decide) (t := (.object "java/lang/Object")) (t' := (.object "java/lang/Object")) (by decide) (by decide)))
  have F6_t8 := F5_t8.other W6 (Or.inr (slot_ne (Or.inr (hw _ (List.mem_of_getElem? (i := 41) rfl))) (Or.inr (hw _ (List.mem_of_getElem? (i := 35) rfl))) (by decide) (t := (.object "java/lang/Object")) (t' := (.object "java/lang/Object")) (by decide) (by decide)))
  have E6_a1 := E5_a1.wr W6
  have K6 : Keep h0 h6 [a1] := K5.wr W6 (Or.inl (List.mem_of_getElem? (i := 0) rfl))
  have N6 := Fr.snoc X6 N5 g_a1
  obtain ⟨T7, h7, X7, e7, W7, st7⟩ := putF X6 hx hZ hown (host := "") (Or.inl (hw _ (List.mem_of_getElem? (i := 36) rfl))) Via.refl e6 F6_t6 E6_a1 (Or.inr ⟨(hw _ (List.mem_of_getElem? (i := 37) rfl)), rfl, hnm⟩) (hw _ (List.mem_of_getElem? (i := 13) rfl)) (ty := (.object "java/lang/Object")) (by decide) rfl (own_fits r_v6) (g := (mkF m 34 #[.val (.ref a1), .val v1, .val v2, .val v3, .val v4, .val v5, .val v6, .val v7, .val v8] [v6, (.ref a1)])) rfl rfl (hb hby d3_34)
  have F7_t1 := F6_t1.other W7 (Or.inr (slot_ne (Or.inr (hw _ (List.mem_of_getElem? (i := 27) rfl))) (Or.inr (hw _ (List.mem_of_getElem? (i := 37) rfl))) (by decide) (t := (.object "java/lang/Object")) (t' := (.object "java/lang/Object")) (by decide) (by decide)))
  have F7_t2 := F6_t2.other W7 (Or.inr (slot_ne (Or.inr (hw _ (List.mem_of_getElem? (i := 29) rfl))) (Or.inr (hw _ (List.mem_of_getElem? (i := 37) rfl))) (by decide) (t := (.object "java/lang/Object")) (t' := (.object "java/lang/Object")) (by decide) (by decide)))
  have F7_t3 := F6_t3.other W7 (Or.inr (slot_ne (Or.inr (hw _ (List.mem_of_getElem? (i := 31) rfl))) (Or.inr (hw _ (List.mem_of_getElem? (i := 37) rfl))) (by decide) (t := (.object "java/lang/Object")) (t' := (.object "java/lang/Object")) (by decide) (by decide)))
  have F7_t4 := F6_t4.other W7 (Or.inr (slot_ne (Or.inr (hw _ (List.mem_of_getElem? (i := 33) rfl))) (Or.inr (hw _ (List.mem_of_getElem? (i := 37) rfl))) (by decide) (t := (.object "java/lang/Object")) (t' := (.object "java/lang/Object")) (by decide) (by decide)))
  have F7_t5 := F6_t5.other W7 (Or.inr (slot_ne (Or.inr (hw _ (List.mem_of_getElem? (i := 35) rfl))) (Or.inr (hw _ (List.mem_of_getElem? (i := 37) rfl))) (by decide) (t := (.object "java/lang/Object")) (t' := (.object "java/lang/Object")) (by decide) (by decide)))
  have F7_t6 := F6_t6.same W7
  have F7_t7 := F6_t7.other W7 (Or.inr (slot_ne (Or.inr (hw _ (List.mem_of_getElem? (i := 39) rfl))) (Or.inr (hw _ (List.mem_of_getElem? (i := 37) rfl))) (by decide) (t := (.object "java/lang/Object")) (t' := (.object "java/lang/Object")) (by decide) (by decide)))
  have F7_t8 := F6_t8.other W7 (Or.inr (slot_ne (Or.inr (hw _ (List.mem_of_getElem? (i := 41) rfl))) (Or.inr (hw _ (List.mem_of_getElem? (i := 37) rfl))) (by decide) (t := (.object "java/lang/Object")) (t' := (.object "java/lang/Object")) (by decide) (by decide)))
  have E7_a1 := E6_a1.wr W7
  have K7 : Keep h0 h7 [a1] := K6.wr W7 (Or.inl (List.mem_of_getElem? (i := 0) rfl))
  have N7 := Fr.snoc X7 N6 g_a1
  obtain ⟨T8, h8, X8, e8, W8, st8⟩ := putF X7 hx hZ hown (host := "") (Or.inl (hw _ (List.mem_of_getElem? (i := 38) rfl))) Via.refl e7 F7_t7 E7_a1 (Or.inr ⟨(hw _ (List.mem_of_getElem? (i := 39) rfl)), rfl, hnm⟩) (hw _ (List.mem_of_getElem? (i := 13) rfl)) (ty := (.object "java/lang/Object")) (by decide) rfl (own_fits r_v7) (g := (mkF m 40 #[.val (.ref a1), .val v1, .val v2, .val v3, .val v4, .val v5, .val v6, .val v7, .val v8] [v7, (.ref a1)])) rfl rfl (hb hby d3_40)
  have F8_t1 := F7_t1.other W8 (Or.inr (slot_ne (Or.inr (hw _ (List.mem_of_getElem? (i := 27) rfl))) (Or.inr (hw _ (List.mem_of_getElem? (i := 39) rfl))) (by decide) (t := (.object "java/lang/Object")) (t' := (.object "java/lang/Object")) (by decide) (by decide)))
  have F8_t2 := F7_t2.other W8 (Or.inr (slot_ne (Or.inr (hw _ (List.mem_of_getElem? (i := 29) rfl))) (Or.inr (hw _ (List.mem_of_getElem? (i := 39) rfl))) (by decide) (t := (.object "java/lang/Object")) (t' := (.object "java/lang/Object")) (by decide) (by decide)))
  have F8_t3 := F7_t3.other W8 (Or.inr (slot_ne (Or.inr (hw _ (List.mem_of_getElem? (i := 31) rfl))) (Or.inr (hw _ (List.mem_of_getElem? (i := 39) rfl))) (by decide) (t := (.object "java/lang/Object")) (t' := (.object "java/lang/Object")) (by decide) (by decide)))
  have F8_t4 := F7_t4.other W8 (Or.inr (slot_ne (Or.inr (hw _ (List.mem_of_getElem? (i := 33) rfl))) (Or.inr (hw _ (List.mem_of_getElem? (i := 39) rfl))) (by decide) (t := (.object "java/lang/Object")) (t' := (.object "java/lang/Object")) (by decide) (by decide)))
  have F8_t5 := F7_t5.other W8 (Or.inr (slot_ne (Or.inr (hw _ (List.mem_of_getElem? (i := 35) rfl))) (Or.inr (hw _ (List.mem_of_getElem? (i := 39) rfl))) (by decide) (t := (.object "java/lang/Object")) (t' := (.object "java/lang/Object")) (by decide) (by decide)))
  have F8_t6 := F7_t6.other W8 (Or.inr (slot_ne (Or.inr (hw _ (List.mem_of_getElem? (i := 37) rfl))) (Or.inr (hw _ (List.mem_of_getElem? (i := 39) rfl))) (by decide) (t := (.object "java/lang/Object")) (t' := (.object "java/lang/Object")) (by decide) (by decide)))
  have F8_t7 := F7_t7.same W8
  have F8_t8 := F7_t8.other W8 (Or.inr (slot_ne (Or.inr (hw _ (List.mem_of_getElem? (i := 41) rfl))) (Or.inr (hw _ (List.mem_of_getElem? (i := 39) rfl))) (by decide) (t := (.object "java/lang/Object")) (t' := (.object "java/lang/Object")) (by decide) (by decide)))
  have E8_a1 := E7_a1.wr W8
  have K8 : Keep h0 h8 [a1] := K7.wr W8 (Or.inl (List.mem_of_getElem? (i := 0) rfl))
  have N8 := Fr.snoc X8 N7 g_a1
  obtain ⟨T9, h9, X9, e9, W9, st9⟩ := putF X8 hx hZ hown (host := "") (Or.inl (hw _ (List.mem_of_getElem? (i := 40) rfl))) Via.refl e8 F8_t8 E8_a1 (Or.inr ⟨(hw _ (List.mem_of_getElem? (i := 41) rfl)), rfl, hnm⟩) (hw _ (List.mem_of_getElem? (i := 13) rfl)) (ty := (.object "java/lang/Object")) (by decide) rfl (own_fits r_v8) (g := (mkF m 46 #[.val (.ref a1), .val v1, .val v2, .val v3, .val v4, .val v5, .val v6, .val v7, .val v8] [v8, (.ref a1)])) rfl rfl (hb hby d3_46)
  have F9_t1 := F8_t1.other W9 (Or.inr (slot_ne (Or.inr (hw _ (List.mem_of_getElem? (i := 27) rfl))) (Or.inr (hw _ (List.mem_of_getElem? (i := 41) rfl))) (by decide) (t := (.object "java/lang/Object")) (t' := (.object "java/lang/Object")) (by decide) (by decide)))
  have F9_t2 := F8_t2.other W9 (Or.inr (slot_ne (Or.inr (hw _ (List.mem_of_getElem? (i := 29) rfl))) (Or.inr (hw _ (List.mem_of_getElem? (i := 41) rfl))) (by decide) (t := (.object "java/lang/Object")) (t' := (.object "java/lang/Object")) (by decide) (by decide)))
  have F9_t3 := F8_t3.other W9 (Or.inr (slot_ne (Or.inr (hw _ (List.mem_of_getElem? (i := 31) rfl))) (Or.inr (hw _ (List.mem_of_getElem? (i := 41) rfl))) (by decide) (t := (.object "java/lang/Object")) (t' := (.object "java/lang/Object")) (by decide) (by decide)))
  have F9_t4 := F8_t4.other W9 (Or.inr (slot_ne (Or.inr (hw _ (List.mem_of_getElem? (i := 33) rfl))) (Or.inr (hw _ (List.mem_of_getElem? (i := 41) rfl))) (by decide) (t := (.object "java/lang/Object")) (t' := (.object "java/lang/Object")) (by decide) (by decide)))
  have F9_t5 := F8_t5.other W9 (Or.inr (slot_ne (Or.inr (hw _ (List.mem_of_getElem? (i := 35) rfl))) (Or.inr (hw _ (List.mem_of_getElem? (i := 41) rfl))) (by decide) (t := (.object "java/lang/Object")) (t' := (.object "java/lang/Object")) (by decide) (by decide)))
  have F9_t6 := F8_t6.other W9 (Or.inr (slot_ne (Or.inr (hw _ (List.mem_of_getElem? (i := 37) rfl))) (Or.inr (hw _ (List.mem_of_getElem? (i := 41) rfl))) (by decide) (t := (.object "java/lang/Object")) (t' := (.object "java/lang/Object")) (by decide) (by decide)))
  have F9_t7 := F8_t7.other W9 (Or.inr (slot_ne (Or.inr (hw _ (List.mem_of_getElem? (i := 39) rfl))) (Or.inr (hw _ (List.mem_of_getElem? (i := 41) rfl))) (by decide) (t := (.object "java/lang/Object")) (t' := (.object "java/lang/Object")) (by decide) (by decide)))
  have F9_t8 := F8_t8.same W9
  have E9_a1 := E8_a1.wr W9
  have K9 : Keep h0 h9 [a1] := K8.wr W9 (Or.inl (List.mem_of_getElem? (i := 0) rfl))
  have N9 := Fr.snoc X9 N8 g_a1
  obtain ⟨fs, hr, hrun, hended, hW, hsame⟩ := X9.leave (v := none) (fun _ => rfl)
  refine ⟨_, _, pre0 _ ?_, hrun, hended, _, _, rfl, ?_, ⟨_, rfl⟩, hW, hsame.mono (by decide) (by decide)⟩
  · show Steps p.tables e below (s₁.setTop (mkF m 0 #[.val (.ref a1), .val v1, .val v2, .val v3, .val v4, .val v5, .val v6, .val v7, .val v8] [])) _
    refine XS.aloadN X0.here hx rfl (hb hby d3_0) rfl rfl ?_
    show Steps p.tables e below (s₁.setTop (mkF m 1 #[.val (.ref a1), .val v1, .val v2, .val v3, .val v4, .val v5, .val v6, .val v7, .val v8] [(.ref a1)])) _
    refine st1.trans ?_
    show Steps p.tables e below (T1.setTop (mkF m 4 #[.val (.ref a1), .val v1, .val v2, .val v3, .val v4, .val v5, .val v6, .val v7, .val v8] [])) _
    refine XS.aloadN X1.here hx rfl (hb hby d3_4) rfl rfl ?_
    show Steps p.tables e below (T1.setTop (mkF m 5 #[.val (.ref a1), .val v1, .val v2, .val v3, .val v4, .val v5, .val v6, .val v7, .val v8] [(.ref a1)])) _
    refine XS.aloadN X1.here hx rfl (hb hby d3_5) rfl r_v1 ?_
    show Steps p.tables e below (T1.setTop (mkF m 6 #[.val (.ref a1), .val v1, .val v2, .val v3, .val v4, .val v5, .val v6, .val v7, .val v8] [v1, (.ref a1)])) _
    refine st2 _ ?_
    show Steps p.tables e below (T2.setTop (mkF m 9 #[.val (.ref a1), .val v1, .val v2, .val v3, .val v4, .val v5, .val v6, .val v7, .val v8] [])) _
    refine XS.aloadN X2.here hx rfl (hb hby d3_9) rfl rfl ?_
    show Steps p.tables e below (T2.setTop (mkF m 10 #[.val (.ref a1), .val v1, .val v2, .val v3, .val v4, .val v5, .val v6, .val v7, .val v8] [(.ref a1)])) _
    refine XS.aloadN X2.here hx rfl (hb hby d3_10) rfl r_v2 ?_
    show Steps p.tables e below (T2.setTop (mkF m 11 #[.val (.ref a1), .val v1, .val v2, .val v3, .val v4, .val v5, .val v6, .val v7, .val v8] [v2, (.ref a1)])) _
    refine st3 _ ?_
    show Steps p.tables e below (T3.setTop (mkF m 14 #[.val (.ref a1), .val v1, .val v2, .val v3, .val v4, .val v5, .val v6, .val v7, .val v8] [])) _
    refine XS.aloadN X3.here hx rfl (hb hby d3_14) rfl rfl ?_
    show Steps p.tables e below (T3.setTop (mkF m 15 #[.val (.ref a1), .val v1, .val v2, .val v3, .val v4, .val v5, .val v6, .val v7, .val v8] [(.ref a1)])) _
    refine XS.aloadN X3.here hx rfl (hb hby d3_15) rfl r_v3 ?_
    show Steps p.tables e below (T3.setTop (mkF m 16 #[.val (.ref a1), .val v1, .val v2, .val v3, .val v4, .val v5, .val v6, .val v7, .val v8] [v3, (.ref a1)])) _
    refine st4 _ ?_
    show Steps p.tables e below (T4.setTop (mkF m 19 #[.val (.ref a1), .val v1, .val v2, .val v3, .val v4, .val v5, .val v6, .val v7, .val v8] [])) _
    refine XS.aloadN X4.here hx rfl (hb hby d3_19) rfl rfl ?_
    show Steps p.tables e below (T4.setTop (mkF m 20 #[.val (.ref a1), .val v1, .val v2, .val v3, .val v4, .val v5, .val v6, .val v7, .val v8] [(.ref a1)])) _
    refine XS.aload X4.here hx rfl (hb hby d3_20) rfl r_v4 ?_
    show Steps p.tables e below (T4.setTop (mkF m 22 #[.val (.ref a1), .val v1, .val v2, .val v3, .val v4, .val v5, .val v6, .val v7, .val v8] [v4, (.ref a1)])) _
    refine st5 _ ?_
    show Steps p.tables e below (T5.setTop (mkF m 25 #[.val (.ref a1), .val v1, .val v2, .val v3, .val v4, .val v5, .val v6, .val v7, .val v8] [])) _
    refine XS.aloadN X5.here hx rfl (hb hby d3_25) rfl rfl ?_
    show Steps p.tables e below (T5.setTop (mkF m 26 #[.val (.ref a1), .val v1, .val v2, .val v3, .val v4, .val v5, .val v6, .val v7, .val v8] [(.ref a1)])) _
    refine XS.aload X5.here hx rfl (hb hby d3_26) rfl r_v5 ?_
    show Steps p.tables e below (T5.setTop (mkF m 28 #[.val (.ref a1), .val v1, .val v2, .val v3, .val v4, .val v5, .val v6, .val v7, .val v8] [v5, (.ref a1)])) _
    refine st6 _ ?_
    show Steps p.tables e below (T6.setTop (mkF m 31 #[.val (.ref a1), .val v1, .val v2, .val v3, .val v4, .val v5, .val v6, .val v7, .val v8] [])) _
    refine XS.aloadN X6.here hx rfl (hb hby d3_31) rfl rfl ?_
    show Steps p.tables e below (T6.setTop (mkF m 32 #[.val (.ref a1), .val v1, .val v2, .val v3, .val v4, .val v5, .val v6, .val v7, .val v8] [(.ref a1)])) _
    refine XS.aload X6.here hx rfl (hb hby d3_32) rfl r_v6 ?_
    show Steps p.tables e below (T6.setTop (mkF m 34 #[.val (.ref a1), .val v1, .val v2, .val v3, .val v4, .val v5, .val v6, .val v7, .val v8] [v6, (.ref a1)])) _
    refine st7 _ ?_
    show Steps p.tables e below (T7.setTop (mkF m 37 #[.val (.ref a1), .val v1, .val v2, .val v3, .val v4, .val v5, .val v6, .val v7, .val v8] [])) _
    refine XS.aloadN X7.here hx rfl (hb hby d3_37) rfl rfl ?_
    show Steps p.tables e below (T7.setTop (mkF m 38 #[.val (.ref a1), .val v1, .val v2, .val v3, .val v4, .val v5, .val v6, .val v7, .val v8] [(.ref a1)])) _
    refine XS.aload X7.here hx rfl (hb hby d3_38) rfl r_v7 ?_
    show Steps p.tables e below (T7.setTop (mkF m 40 #[.val (.ref a1), .val v1, .val v2, .val v3, .val v4, .val v5, .val v6, .val v7, .val v8] [v7, (.ref a1)])) _
    refine st8 _ ?_
    show Steps p.tables e below (T8.setTop (mkF m 43 #[.val (.ref a1), .val v1, .val v2, .val v3, .val v4, .val v5, .val v6, .val v7, .val v8] [])) _
    refine XS.aloadN X8.here hx rfl (hb hby d3_43) rfl rfl ?_
    show Steps p.tables e below (T8.setTop (mkF m 44 #[.val (.ref a1), .val v1, .val v2, .val v3, .val v4, .val v5, .val v6, .val v7, .val v8] [(.ref a1)])) _
    refine XS.aload X8.here hx rfl (hb hby d3_44) rfl r_v8 ?_
    show Steps p.tables e below (T8.setTop (mkF m 46 #[.val (.ref a1), .val v1, .val v2, .val v3, .val v4, .val v5, .val v6, .val v7, .val v8] [v8, (.ref a1)])) _
    refine st9 _ ?_
    show Steps p.tables e below (T9.setTop (mkF m 49 #[.val (.ref a1), .val v1, .val v2, .val v3, .val v4, .val v5, .val v6, .val v7, .val v8] [])) _
    exact X9.returnOut hx Bd.returns (hb hby d3_49) hr
  · show QT Z a1 v1 v2 v3 v4 v5 v6 v7 v8 h0 n0 _ T9.heap _
    rw [e9]
    exact ⟨rfl, N9, K9, E9_a1, F9_t1, F9_t2, F9_t3, F9_t4, F9_t5, F9_t6, F9_t7, F9_t8⟩
theorem d6_0 : decode prog_50_method_10_code 0 = .ok (.bipush 8, 2) := by decide +kernel
theorem d6_2 : decode prog_50_method_10_code 2 = .ok (.anewarray 34, 3) := by decide +kernel
theorem d6_5 : decode prog_50_method_10_code 5 = .ok (.dup, 1) := by decide +kernel
theorem d6_6 : decode prog_50_method_10_code 6 = .ok (.iconst 0, 1) := by decide +kernel
theorem d6_7 : decode prog_50_method_10_code 7 = .ok (.aload_n 0, 1) := by decide +kernel
theorem d6_8 : decode prog_50_method_10_code 8 = .ok (.getfield 7, 3) := by decide +kernel
theorem d6_11 : decode prog_50_method_10_code 11 = .ok (.aastore, 1) := by decide +kernel
theorem d6_12 : decode prog_50_method_10_code 12 = .ok (.dup, 1) := by decide +kernel
theorem d6_13 : decode prog_50_method_10_code 13 = .ok (.iconst 1, 1) := by decide +kernel
theorem d6_14 : decode prog_50_method_10_code 14 = .ok (.aload_n 0, 1) := by decide +kernel
theorem d6_15 : decode prog_50_method_10_code 15 = .ok (.getfield 13, 3) := by decide +kernel
theorem d6_18 : decode prog_50_method_10_code 18 = .ok (.aastore, 1) := by decide +kernel
theorem d6_19 : decode prog_50_method_10_code 19 = .ok (.dup, 1) := by decide +kernel
theorem d6_20 : decode prog_50_method_10_code 20 = .ok (.iconst 2, 1) := by decide +kernel
theorem d6_21 : decode prog_50_method_10_code 21 = .ok (.aload_n 0, 1) := by decide +kernel
theorem d6_22 : decode prog_50_method_10_code 22 = .ok (.getfield 16, 3) := by decide +kernel
theorem d6_25 : decode prog_50_method_10_code 25 = .ok (.aastore, 1) := by decide +kernel
theorem d6_26 : decode prog_50_method_10_code 26 = .ok (.dup, 1) := by decide +kernel
theorem d6_27 : decode prog_50_method_10_code 27 = .ok (.iconst 3, 1) := by decide +kernel
theorem d6_28 : decode prog_50_method_10_code 28 = .ok (.aload_n 0, 1) := by decide +kernel
theorem d6_29 : decode prog_50_method_10_code 29 = .ok (.getfield 19, 3) := by decide +kernel
theorem d6_32 : decode prog_50_method_10_code 32 = .ok (.aastore, 1) := by decide +kernel
theorem d6_33 : decode prog_50_method_10_code 33 = .ok (.dup, 1) := by decide +kernel
theorem d6_34 : decode prog_50_method_10_code 34 = .ok (.iconst 4, 1) := by decide +kernel
theorem d6_35 : decode prog_50_method_10_code 35 = .ok (.aload_n 0, 1) := by decide +kernel
theorem d6_36 : decode prog_50_method_10_code 36 = .ok (.getfield 22, 3) := by decide +kernel
theorem d6_39 : decode prog_50_method_10_code 39 = .ok (.aastore, 1) := by decide +kernel
theorem d6_40 : decode prog_50_method_10_code 40 = .ok (.dup, 1) := by decide +kernel
theorem d6_41 : decode prog_50_method_10_code 41 = .ok (.iconst 5, 1) := by decide +kernel
theorem d6_42 : decode prog_50_method_10_code 42 = .ok (.aload_n 0, 1) := by decide +kernel
theorem d6_43 : decode prog_50_method_10_code 43 = .ok (.getfield 25, 3) := by decide +kernel
theorem d6_46 : decode prog_50_method_10_code 46 = .ok (.aastore, 1) := by decide +kernel
theorem d6_47 : decode prog_50_method_10_code 47 = .ok (.dup, 1) := by decide +kernel
theorem d6_48 : decode prog_50_method_10_code 48 = .ok (.bipush 6, 2) := by decide +kernel
theorem d6_50 : decode prog_50_method_10_code 50 = .ok (.aload_n 0, 1) := by decide +kernel
theorem d6_51 : decode prog_50_method_10_code 51 = .ok (.getfield 28, 3) := by decide +kernel
theorem d6_54 : decode prog_50_method_10_code 54 = .ok (.aastore, 1) := by decide +kernel
theorem d6_55 : decode prog_50_method_10_code 55 = .ok (.dup, 1) := by decide +kernel
theorem d6_56 : decode prog_50_method_10_code 56 = .ok (.bipush 7, 2) := by decide +kernel
theorem d6_58 : decode prog_50_method_10_code 58 = .ok (.aload_n 0, 1) := by decide +kernel
theorem d6_59 : decode prog_50_method_10_code 59 = .ok (.getfield 31, 3) := by decide +kernel
theorem d6_62 : decode prog_50_method_10_code 62 = .ok (.aastore, 1) := by decide +kernel
theorem d6_63 : decode prog_50_method_10_code 63 = .ok (.areturn, 1) := by decide +kernel
theorem ef_6_R (m : MethodId) (x0 : Addr) : entryFrame m #[(.ref x0)] 1 = mkF m 0 #[.val (.ref x0)] [] := by first | (simp [entryFrame, mkF, argsToLocals, Value.category]; done) | (simp [entryFrame, mkF, argsToLocals, own_cr, own_ci, own_cj]; done) | rfl
set_option maxRecDepth 65536 in
set_option maxHeartbeats 40000000 in
theorem tup_arr (l : Launch) (Z : State) (a0 : Array Value) (hw : ∀ d ∈ tables_1, d.before a0 Z = true) (ws : List Jvm.Cond) (a1 : Addr) (v1 : Value) (v2 : Value) (v3 : Value) (v4 : Value) (v5 : Value) (v6 : Value) (v7 : Value) (v8 : Value) (h0 : Heap) (n0 : Nat) (Z0 : n0 ≤ h0.size) (F_t1 : Fld Z h0 a1 "com/example/tributary/tributary/Tuple8" "t1" "Ljava/lang/Object;" v1) (F_t2 : Fld Z h0 a1 "com/example/tributary/tributary/Tuple8" "t2" "Ljava/lang/Object;" v2) (F_t3 : Fld Z h0 a1 "com/example/tributary/tributary/Tuple8" "t3" "Ljava/lang/Object;" v3) (F_t4 : Fld Z h0 a1 "com/example/tributary/tributary/Tuple8" "t4" "Ljava/lang/Object;" v4) (F_t5 : Fld Z h0 a1 "com/example/tributary/tributary/Tuple8" "t5" "Ljava/lang/Object;" v5) (F_t6 : Fld Z h0 a1 "com/example/tributary/tributary/Tuple8" "t6" "Ljava/lang/Object;" v6) (F_t7 : Fld Z h0 a1 "com/example/tributary/tributary/Tuple8" "t7" "Ljava/lang/Object;" v7) (F_t8 : Fld Z h0 a1 "com/example/tributary/tributary/Tuple8" "t8" "Ljava/lang/Object;" v8) (O_v1 : Obj Z h0 v1) (O_v2 : Obj Z h0 v2) (O_v3 : Obj Z h0 v3) (O_v4 : Obj Z h0 v4) (O_v5 : Obj Z h0 v5) (O_v6 : Obj Z h0 v6) (O_v7 : Obj Z h0 v7) (O_v8 : Obj Z h0 v8) :
    MetFree l (⟨"com/example/tributary/tributary/Tuple8", "toArray", "()[Ljava/lang/Object;"⟩ : MethodName) (head1 (Jvm.Cond.code (⟨"com/example/tributary/tributary/Tuple8", "toArray", "()[Ljava/lang/Object;"⟩ : MethodName) prog_50_method_10_code 1 (some (.array (.object "java/lang/Object"))) :: ws) ({ frames := 0, cells := 1, slots := 8, locals := 0 } : Room)) (fun a U => a = #[(.ref a1)] ∧ Z.Warmed39 U.vm ∧ U.heap = h0) (fun _ _ _ _ _ => True) (fun _ U o U' => ∃ v L, o = .returned v ∧ QA Z v1 v2 v3 v4 v5 v6 v7 v8 h0 n0 v U'.heap L ∧ FrameEnd U o U' L ({ frames := 0, cells := 1, slots := 8, locals := 0 } : Room).cells ({ frames := 0, cells := 1, slots := 8, locals := 0 } : Room).slots) := by
  refine MetFree.of_bodySF (plainFor_of_name pn_com_example_tributary_tributary_Tuple8) hisR ?_
  intro p e s m args below meth c s₁ Bd hml0 hP hK
  obtain ⟨rfl, hZ, hh⟩ := hP
  have hx := Bd.exec
  have hby := Bd.bytes
  have hml : c.maxLocals = 1 := hml0
  have hown : s.vm.findClass "com/example/tributary/tributary/Tuple8" = some m.cls := findClass_of_methodNamed Bd.named
  have hnm := (name_of_methodNamed Bd.named Bd.method).1
  have X0 : Stand p l e ({ frames := 0, cells := 1, slots := 8, locals := 0 } : Room) s m #[(.ref a1)] below meth c s₁ [] 0 0 := Stand.of_body Bd
  have e0 : s₁.heap = h0 := by rw [← hh, Bd.state]; rfl
  have N0 := Fr.nil n0
  have r_v1 := own_obj_ref O_v1
  have r_v2 := own_obj_ref O_v2
  have r_v3 := own_obj_ref O_v3
  have r_v4 := own_obj_ref O_v4
  have r_v5 := own_obj_ref O_v5
  have r_v6 := own_obj_ref O_v6
  have r_v7 := own_obj_ref O_v7
  have r_v8 := own_obj_ref O_v8
  have pre0 : ∀ t, Steps p.tables e below (s₁.setTop (mkF m 0 #[.val (.ref a1)] [])) t → Steps p.tables e below (s₁.setTop (entryFrame m #[(.ref a1)] 1)) t := fun t k => castTop (ef_6_R m a1) k
  obtain ⟨T1, h1, k1, X1, e1, E1, A1, B1, O1, st1⟩ := newRE X0 hx hZ hown (hw _ (List.mem_of_getElem? (i := 47) rfl)) (hw _ (List.mem_of_getElem? (i := 48) rfl)) e0 (g := (mkF m 2 #[.val (.ref a1)] [(.int (8 : Int32))])) rfl (hb hby d6_2) rfl (by decide) (cap := 8) (by decide) (by decide) (by decide) (by decide) (ad := "[Ljava/lang/Object;") rfl
  obtain ⟨b1, gg1⟩ : ∃ z, z = h0.size := ⟨_, rfl⟩
  rw [← gg1] at A1 B1 st1
  have sz_b1 : h0.size ≤ b1 := Nat.le_of_eq gg1.symm
  have sz0_b1 : h0.size ≤ b1 := Nat.le_trans (Keep.refl h0 []).1 sz_b1
  have g_b1 : n0 ≤ b1 := Nat.le_trans Z0 sz0_b1
  have K1q : Keep h0 h1 [] := (Keep.refl _ []).ext E1
  have K1 : Keep h0 h1 [] := (Keep.refl h0 []).ext E1
  have V1 : Arv Z h1 b1 k1 (.object "java/lang/Object") (8 : Int32) [.null, .null, .null, .null, .null, .null, .null, .null] .null := (Arv.new A1 (by decide)).pad (pad_rep [] .null 8)
  obtain ⟨T2, X2, e2, st2⟩ := getF X1 hx hZ hown (host := "") (Or.inl (hw _ (List.mem_of_getElem? (i := 26) rfl))) Via.refl e1 (F_t1.keep K1q nin0) (g := (mkF m 8 #[.val (.ref a1)] [(.ref a1), (.int (0 : Int32)), (.ref b1), (.ref b1)])) rfl rfl (hb hby d6_8)
  obtain ⟨cl3, Ar3, q3, s3, m3, H3, F3⟩ := (id V1)
  have hin3 : ¬ ((0 : Int32) < 0 ∨ cl3.slots.size ≤ ((0 : Int32)).toNatClampNeg) := inb_of s3 ⟨by decide, by decide⟩
  have sto3 : Sto Z h1 b1 v1 := own_sto Ar3 q3 O1 (own_obj_keep O_v1 K1q)
  obtain ⟨T3, h3, X3, e3, W3, st3⟩ := stR X2 hx hZ e2 Ar3 (j := (0 : Int32)) (v := v1) hin3 rfl sto3 (g := (mkF m 11 #[.val (.ref a1)] [v1, (.int (0 : Int32)), (.ref b1), (.ref b1)])) rfl rfl (hb hby d6_11)
  have V3 : Arv Z h3 b1 k1 (.object "java/lang/Object") (8 : Int32) [v1, .null, .null, .null, .null, .null, .null, .null] .null := Arv.set Ar3 q3 s3 m3 H3 F3 (own_fits r_v1) W3 0 rfl (Nat.le_of_ble_eq_true rfl)
  have K3 : Keep h0 h3 [] := K1.wr W3 (Or.inr sz0_b1)
  have N3 := Fr.snoc X3 N0 g_b1
  obtain ⟨T4, X4, e4, st4⟩ := getF X3 hx hZ hown (host := "") (Or.inl (hw _ (List.mem_of_getElem? (i := 28) rfl))) Via.refl e3 ((F_t2.keep K1q nin0).keep (Keep.of_wr W3) (ninS (Nat.ne_of_lt (Nat.lt_of_lt_of_le F_t1.lt sz_b1)) nin0)) (g := (mkF m 15 #[.val (.ref a1)] [(.ref a1), (.int (1 : Int32)), (.ref b1), (.ref b1)])) rfl rfl (hb hby d6_15)
  obtain ⟨cl5, Ar5, q5, s5, m5, H5, F5⟩ := (id V3)
  have hin5 : ¬ ((1 : Int32) < 0 ∨ cl5.slots.size ≤ ((1 : Int32)).toNatClampNeg) := inb_of s5 ⟨by decide, by decide⟩
  have sto5 : Sto Z h3 b1 v2 := own_sto Ar5 q5 O1 (own_obj_keep (own_obj_keep O_v2 K1q) (Keep.of_wr W3))
  obtain ⟨T5, h5, X5, e5, W5, st5⟩ := stR X4 hx hZ e4 Ar5 (j := (1 : Int32)) (v := v2) hin5 rfl sto5 (g := (mkF m 18 #[.val (.ref a1)] [v2, (.int (1 : Int32)), (.ref b1), (.ref b1)])) rfl rfl (hb hby d6_18)
  have V5 : Arv Z h5 b1 k1 (.object "java/lang/Object") (8 : Int32) [v1, v2, .null, .null, .null, .null, .null, .null] .null := Arv.set Ar5 q5 s5 m5 H5 F5 (own_fits r_v2) W5 1 rfl (Nat.le_of_ble_eq_true rfl)
  have K5 : Keep h0 h5 [] := K3.wr W5 (Or.inr sz0_b1)
  have N5 := Fr.snoc X5 N3 g_b1
  obtain ⟨T6, X6, e6, st6⟩ := getF X5 hx hZ hown (host := "") (Or.inl (hw _ (List.mem_of_getElem? (i := 30) rfl))) Via.refl e5 (((F_t3.keep K1q nin0).keep (Keep.of_wr W3) (ninS (Nat.ne_of_lt (Nat.lt_of_lt_of_le F_t1.lt sz_b1)) nin0)).keep (Keep.of_wr W5) (ninS (Nat.ne_of_lt (Nat.lt_of_lt_of_le F_t1.lt sz_b1)) nin0)) (g := (mkF m 22 #[.val (.ref a1)] [(.ref a1), (.int (2 : Int32)), (.ref b1), (.ref b1)])) rfl rfl (hb hby d6_22)
  obtain ⟨cl7, Ar7, q7, s7, m7, H7, F7⟩ := (id V5)
  have hin7 : ¬ ((2 : Int32) < 0 ∨ cl7.slots.size ≤ ((2 : Int32)).toNatClampNeg) := inb_of s7 ⟨by decide, by decide⟩
  have sto7 : Sto Z h5 b1 v3 := own_sto Ar7 q7 O1 (own_obj_keep (own_obj_keep (own_obj_keep O_v3 K1q) (Keep.of_wr W3)) (Keep.of_wr W5))
  obtain ⟨T7, h7, X7, e7, W7, st7⟩ := stR X6 hx hZ e6 Ar7 (j := (2 : Int32)) (v := v3) hin7 rfl sto7 (g := (mkF m 25 #[.val (.ref a1)] [v3, (.int (2 : Int32)), (.ref b1), (.ref b1)])) rfl rfl (hb hby d6_25)
  have V7 : Arv Z h7 b1 k1 (.object "java/lang/Object") (8 : Int32) [v1, v2, v3, .null, .null, .null, .null, .null] .null := Arv.set Ar7 q7 s7 m7 H7 F7 (own_fits r_v3) W7 2 rfl (Nat.le_of_ble_eq_true rfl)
  have K7 : Keep h0 h7 [] := K5.wr W7 (Or.inr sz0_b1)
  have N7 := Fr.snoc X7 N5 g_b1
  obtain ⟨T8, X8, e8, st8⟩ := getF X7 hx hZ hown (host := "") (Or.inl (hw _ (List.mem_of_getElem? (i := 32) rfl))) Via.refl e7 ((((F_t4.keep K1q nin0).keep (Keep.of_wr W3) (ninS (Nat.ne_of_lt (Nat.lt_of_lt_of_le F_t1.lt sz_b1)) nin0)).keep (Keep.of_wr W5) (ninS (Nat.ne_of_lt (Nat.lt_of_lt_of_le F_t1.lt sz_b1)) nin0)).keep (Keep.of_wr W7) (ninS (Nat.ne_of_lt (Nat.lt_of_lt_of_le F_t1.lt sz_b1)) nin0)) (g := (mkF m 29 #[.val (.ref a1)] [(.ref a1), (.int (3 : Int32)), (.ref b1), (.ref b1)])) rfl rfl (hb hby d6_29)
  obtain ⟨cl9, Ar9, q9, s9, m9, H9, F9⟩ := (id V7)
  have hin9 : ¬ ((3 : Int32) < 0 ∨ cl9.slots.size ≤ ((3 : Int32)).toNatClampNeg) := inb_of s9 ⟨by decide, by decide⟩
  have sto9 : Sto Z h7 b1 v4 := own_sto Ar9 q9 O1 (own_obj_keep (own_obj_keep (own_obj_keep (own_obj_keep O_v4 K1q) (Keep.of_wr W3)) (Keep.of_wr W5)) (Keep.of_wr W7))
  obtain ⟨T9, h9, X9, e9, W9, st9⟩ := stR X8 hx hZ e8 Ar9 (j := (3 : Int32)) (v := v4) hin9 rfl sto9 (g := (mkF m 32 #[.val (.ref a1)] [v4, (.int (3 : Int32)), (.ref b1), (.ref b1)])) rfl rfl (hb hby d6_32)
  have V9 : Arv Z h9 b1 k1 (.object "java/lang/Object") (8 : Int32) [v1, v2, v3, v4, .null, .null, .null, .null] .null := Arv.set Ar9 q9 s9 m9 H9 F9 (own_fits r_v4) W9 3 rfl (Nat.le_of_ble_eq_true rfl)
  have K9 : Keep h0 h9 [] := K7.wr W9 (Or.inr sz0_b1)
  have N9 := Fr.snoc X9 N7 g_b1
  obtain ⟨T10, X10, e10, st10⟩ := getF X9 hx hZ hown (host := "") (Or.inl (hw _ (List.mem_of_getElem? (i := 34) rfl))) Via.refl e9 (((((F_t5.keep K1q nin0).keep (Keep.of_wr W3) (ninS (Nat.ne_of_lt (Nat.lt_of_lt_of_le F_t1.lt sz_b1)) nin0)).keep (Keep.of_wr W5) (ninS (Nat.ne_of_lt (Nat.lt_of_lt_of_le F_t1.lt sz_b1)) nin0)).keep (Keep.of_wr W7) (ninS (Nat.ne_of_lt (Nat.lt_of_lt_of_le F_t1.lt sz_b1)) nin0)).keep (Keep.of_wr W9) (ninS (Nat.ne_of_lt (Nat.lt_of_lt_of_le F_t1.lt sz_b1)) nin0)) (g := (mkF m 36 #[.val (.ref a1)] [(.ref a1), (.int (4 : Int32)), (.ref b1), (.ref b1)])) rfl rfl (hb hby d6_36)
  obtain ⟨cl11, Ar11, q11, s11, m11, H11, F11⟩ := (id V9)
  have hin11 : ¬ ((4 : Int32) < 0 ∨ cl11.slots.size ≤ ((4 : Int32)).toNatClampNeg) := inb_of s11 ⟨by decide, by decide⟩
  have sto11 : Sto Z h9 b1 v5 := own_sto Ar11 q11 O1 (own_obj_keep (own_obj_keep (own_obj_keep (own_obj_keep (own_obj_keep O_v5 K1q) (Keep.of_wr W3)) (Keep.of_wr W5)) (Keep.of_wr W7)) (Keep.of_wr W9))
  obtain ⟨T11, h11, X11, e11, W11, st11⟩ := stR X10 hx hZ e10 Ar11 (j := (4 : Int32)) (v := v5) hin11 rfl sto11 (g := (mkF m 39 #[.val (.ref a1)] [v5, (.int (4 : Int32)), (.ref b1), (.ref b1)])) rfl rfl (hb hby d6_39)
  have V11 : Arv Z h11 b1 k1 (.object "java/lang/Object") (8 : Int32) [v1, v2, v3, v4, v5, .null, .null, .null] .null := Arv.set Ar11 q11 s11 m11 H11 F11 (own_fits r_v5) W11 4 rfl (Nat.le_of_ble_eq_true rfl)
  have K11 : Keep h0 h11 [] := K9.wr W11 (Or.inr sz0_b1)
  have N11 := Fr.snoc X11 N9 g_b1
  obtain ⟨T12, X12, e12, st12⟩ := getF X11 hx hZ hown (host := "") (Or.inl (hw _ (List.mem_of_getElem? (i := 36) rfl))) Via.refl e11 ((((((F_t6.keep K1q nin0).keep (Keep.of_wr W3) (ninS (Nat.ne_of_lt (Nat.lt_of_lt_of_le F_t1.lt sz_b1)) nin0)).keep (Keep.of_wr W5) (ninS (Nat.ne_of_lt (Nat.lt_of_lt_of_le F_t1.lt sz_b1)) nin0)).keep (Keep.of_wr W7) (ninS (Nat.ne_of_lt (Nat.lt_of_lt_of_le F_t1.lt sz_b1)) nin0)).keep (Keep.of_wr W9) (ninS (Nat.ne_of_lt (Nat.lt_of_lt_of_le F_t1.lt sz_b1)) nin0)).keep (Keep.of_wr W11) (ninS (Nat.ne_of_lt (Nat.lt_of_lt_of_le F_t1.lt sz_b1)) nin0)) (g := (mkF m 43 #[.val (.ref a1)] [(.ref a1), (.int (5 : Int32)), (.ref b1), (.ref b1)])) rfl rfl (hb hby d6_43)
  obtain ⟨cl13, Ar13, q13, s13, m13, H13, F13⟩ := (id V11)
  have hin13 : ¬ ((5 : Int32) < 0 ∨ cl13.slots.size ≤ ((5 : Int32)).toNatClampNeg) := inb_of s13 ⟨by decide, by decide⟩
  have sto13 : Sto Z h11 b1 v6 := own_sto Ar13 q13 O1 (own_obj_keep (own_obj_keep (own_obj_keep (own_obj_keep (own_obj_keep (own_obj_keep O_v6 K1q) (Keep.of_wr W3)) (Keep.of_wr W5)) (Keep.of_wr W7)) (Keep.of_wr W9)) (Keep.of_wr W11))
  obtain ⟨T13, h13, X13, e13, W13, st13⟩ := stR X12 hx hZ e12 Ar13 (j := (5 : Int32)) (v := v6) hin13 rfl sto13 (g := (mkF m 46 #[.val (.ref a1)] [v6, (.int (5 : Int32)), (.ref b1), (.ref b1)])) rfl rfl (hb hby d6_46)
  have V13 : Arv Z h13 b1 k1 (.object "java/lang/Object") (8 : Int32) [v1, v2, v3, v4, v5, v6, .null, .null] .null := Arv.set Ar13 q13 s13 m13 H13 F13 (own_fits r_v6) W13 5 rfl (Nat.le_of_ble_eq_true rfl)
  have K13 : Keep h0 h13 [] := K11.wr W13 (Or.inr sz0_b1)
  have N13 := Fr.snoc X13 N11 g_b1
  obtain ⟨T14, X14, e14, st14⟩ := getF X13 hx hZ hown (host := "") (Or.inl (hw _ (List.mem_of_getElem? (i := 38) rfl))) Via.refl e13 (((((((F_t7.keep K1q nin0).keep (Keep.of_wr W3) (ninS (Nat.ne_of_lt (Nat.lt_of_lt_of_le F_t1.lt sz_b1)) nin0)).keep (Keep.of_wr W5) (ninS (Nat.ne_of_lt (Nat.lt_of_lt_of_le F_t1.lt sz_b1)) nin0)).keep (Keep.of_wr W7) (ninS (Nat.ne_of_lt (Nat.lt_of_lt_of_le F_t1.lt sz_b1)) nin0)).keep (Keep.of_wr W9) (ninS (Nat.ne_of_lt (Nat.lt_of_lt_of_le F_t1.lt sz_b1)) nin0)).keep (Keep.of_wr W11) (ninS (Nat.ne_of_lt (Nat.lt_of_lt_of_le F_t1.lt sz_b1)) nin0)).keep (Keep.of_wr W13) (ninS (Nat.ne_of_lt (Nat.lt_of_lt_of_le F_t1.lt sz_b1)) nin0)) (g := (mkF m 51 #[.val (.ref a1)] [(.ref a1), (.int (6 : Int32)), (.ref b1), (.ref b1)])) rfl rfl (hb hby d6_51)
  obtain ⟨cl15, Ar15, q15, s15, m15, H15, F15⟩ := (id V13)
  have hin15 : ¬ ((6 : Int32) < 0 ∨ cl15.slots.size ≤ ((6 : Int32)).toNatClampNeg) := inb_of s15 ⟨by decide, by decide⟩
  have sto15 : Sto Z h13 b1 v7 := own_sto Ar15 q15 O1 (own_obj_keep (own_obj_keep (own_obj_keep (own_obj_keep (own_obj_keep (own_obj_keep (own_obj_keep O_v7 K1q) (Keep.of_wr W3)) (Keep.of_wr W5)) (Keep.of_wr W7)) (Keep.of_wr W9)) (Keep.of_wr W11)) (Keep.of_wr W13))
  obtain ⟨T15, h15, X15, e15, W15, st15⟩ := stR X14 hx hZ e14 Ar15 (j := (6 : Int32)) (v := v7) hin15 rfl sto15 (g := (mkF m 54 #[.val (.ref a1)] [v7, (.int (6 : Int32)), (.ref b1), (.ref b1)])) rfl rfl (hb hby d6_54)
  have V15 : Arv Z h15 b1 k1 (.object "java/lang/Object") (8 : Int32) [v1, v2, v3, v4, v5, v6, v7, .null] .null := Arv.set Ar15 q15 s15 m15 H15 F15 (own_fits r_v7) W15 6 rfl (Nat.le_of_ble_eq_true rfl)
  have K15 : Keep h0 h15 [] := K13.wr W15 (Or.inr sz0_b1)
  have N15 := Fr.snoc X15 N13 g_b1
  obtain ⟨T16, X16, e16, st16⟩ := getF X15 hx hZ hown (host := "") (Or.inl (hw _ (List.mem_of_getElem? (i := 40) rfl))) Via.refl e15 ((((((((F_t8.keep K1q nin0).keep (Keep.of_wr W3) (ninS (Nat.ne_of_lt (Nat.lt_of_lt_of_le F_t1.lt sz_b1)) nin0)).keep (Keep.of_wr W5) (ninS (Nat.ne_of_lt (Nat.lt_of_lt_of_le F_t1.lt sz_b1)) nin0)).keep (Keep.of_wr W7) (ninS (Nat.ne_of_lt (Nat.lt_of_lt_of_le F_t1.lt sz_b1)) nin0)).keep (Keep.of_wr W9) (ninS (Nat.ne_of_lt (Nat.lt_of_lt_of_le F_t1.lt sz_b1)) nin0)).keep (Keep.of_wr W11) (ninS (Nat.ne_of_lt (Nat.lt_of_lt_of_le F_t1.lt sz_b1)) nin0)).keep (Keep.of_wr W13) (ninS (Nat.ne_of_lt (Nat.lt_of_lt_of_le F_t1.lt sz_b1)) nin0)).keep (Keep.of_wr W15) (ninS (Nat.ne_of_lt (Nat.lt_of_lt_of_le F_t1.lt sz_b1)) nin0)) (g := (mkF m 59 #[.val (.ref a1)] [(.ref a1), (.int (7 : Int32)), (.ref b1), (.ref b1)])) rfl rfl (hb hby d6_59)
  obtain ⟨cl17, Ar17, q17, s17, m17, H17, F17⟩ := (id V15)
  have hin17 : ¬ ((7 : Int32) < 0 ∨ cl17.slots.size ≤ ((7 : Int32)).toNatClampNeg) := inb_of s17 ⟨by decide, by decide⟩
  have sto17 : Sto Z h15 b1 v8 := own_sto Ar17 q17 O1 (own_obj_keep (own_obj_keep (own_obj_keep (own_obj_keep (own_obj_keep (own_obj_keep (own_obj_keep (own_obj_keep O_v8 K1q) (Keep.of_wr W3)) (Keep.of_wr W5)) (Keep.of_wr W7)) (Keep.of_wr W9)) (Keep.of_wr W11)) (Keep.of_wr W13)) (Keep.of_wr W15))
  obtain ⟨T17, h17, X17, e17, W17, st17⟩ := stR X16 hx hZ e16 Ar17 (j := (7 : Int32)) (v := v8) hin17 rfl sto17 (g := (mkF m 62 #[.val (.ref a1)] [v8, (.int (7 : Int32)), (.ref b1), (.ref b1)])) rfl rfl (hb hby d6_62)
  have V17 : Arv Z h17 b1 k1 (.object "java/lang/Object") (8 : Int32) [v1, v2, v3, v4, v5, v6, v7, v8] .null := Arv.set Ar17 q17 s17 m17 H17 F17 (own_fits r_v8) W17 7 rfl (Nat.le_of_ble_eq_true rfl)
  have K17 : Keep h0 h17 [] := K15.wr W17 (Or.inr sz0_b1)
  have N17 := Fr.snoc X17 N15 g_b1
  obtain ⟨fs, hr, hrun, hended, hW, hsame⟩ := X17.leave (v := some (.ref b1)) (fun h => by rw [Bd.returns] at h; cases h)
  refine ⟨_, _, pre0 _ ?_, hrun, hended, _, _, rfl, ?_, ⟨_, rfl⟩, hW, hsame.mono (by decide) (by decide)⟩
  · show Steps p.tables e below (s₁.setTop (mkF m 0 #[.val (.ref a1)] [])) _
    refine XS.bipush X0.here hx rfl (hb hby d6_0) ?_
    show Steps p.tables e below (s₁.setTop (mkF m 2 #[.val (.ref a1)] [(.int (8 : Int32))])) _
    refine st1 _ ?_
    show Steps p.tables e below (T1.setTop (mkF m 5 #[.val (.ref a1)] [(.ref b1)])) _
    refine XS.dup X1.here hx rfl (hb hby d6_5) rfl rfl ?_
    show Steps p.tables e below (T1.setTop (mkF m 6 #[.val (.ref a1)] [(.ref b1), (.ref b1)])) _
    refine XS.iconst X1.here hx rfl (hb hby d6_6) ?_
    show Steps p.tables e below (T1.setTop (mkF m 7 #[.val (.ref a1)] [(.int (0 : Int32)), (.ref b1), (.ref b1)])) _
    refine XS.aloadN X1.here hx rfl (hb hby d6_7) rfl rfl ?_
    show Steps p.tables e below (T1.setTop (mkF m 8 #[.val (.ref a1)] [(.ref a1), (.int (0 : Int32)), (.ref b1), (.ref b1)])) _
    refine st2 _ ?_
    show Steps p.tables e below (T2.setTop (mkF m 11 #[.val (.ref a1)] [v1, (.int (0 : Int32)), (.ref b1), (.ref b1)])) _
    refine st3 _ ?_
    show Steps p.tables e below (T3.setTop (mkF m 12 #[.val (.ref a1)] [(.ref b1)])) _
    refine XS.dup X3.here hx rfl (hb hby d6_12) rfl rfl ?_
    show Steps p.tables e below (T3.setTop (mkF m 13 #[.val (.ref a1)] [(.ref b1), (.ref b1)])) _
    refine XS.iconst X3.here hx rfl (hb hby d6_13) ?_
    show Steps p.tables e below (T3.setTop (mkF m 14 #[.val (.ref a1)] [(.int (1 : Int32)), (.ref b1), (.ref b1)])) _
    refine XS.aloadN X3.here hx rfl (hb hby d6_14) rfl rfl ?_
    show Steps p.tables e below (T3.setTop (mkF m 15 #[.val (.ref a1)] [(.ref a1), (.int (1 : Int32)), (.ref b1), (.ref b1)])) _
    refine st4 _ ?_
    show Steps p.tables e below (T4.setTop (mkF m 18 #[.val (.ref a1)] [v2, (.int (1 : Int32)), (.ref b1), (.ref b1)])) _
    refine st5 _ ?_
    show Steps p.tables e below (T5.setTop (mkF m 19 #[.val (.ref a1)] [(.ref b1)])) _
    refine XS.dup X5.here hx rfl (hb hby d6_19) rfl rfl ?_
    show Steps p.tables e below (T5.setTop (mkF m 20 #[.val (.ref a1)] [(.ref b1), (.ref b1)])) _
    refine XS.iconst X5.here hx rfl (hb hby d6_20) ?_
    show Steps p.tables e below (T5.setTop (mkF m 21 #[.val (.ref a1)] [(.int (2 : Int32)), (.ref b1), (.ref b1)])) _
    refine XS.aloadN X5.here hx rfl (hb hby d6_21) rfl rfl ?_
    show Steps p.tables e below (T5.setTop (mkF m 22 #[.val (.ref a1)] [(.ref a1), (.int (2 : Int32)), (.ref b1), (.ref b1)])) _
    refine st6 _ ?_
    show Steps p.tables e below (T6.setTop (mkF m 25 #[.val (.ref a1)] [v3, (.int (2 : Int32)), (.ref b1), (.ref b1)])) _
    refine st7 _ ?_
    show Steps p.tables e below (T7.setTop (mkF m 26 #[.val (.ref a1)] [(.ref b1)])) _
    refine XS.dup X7.here hx rfl (hb hby d6_26) rfl rfl ?_
    show Steps p.tables e below (T7.setTop (mkF m 27 #[.val (.ref a1)] [(.ref b1), (.ref b1)])) _
    refine XS.iconst X7.here hx rfl (hb hby d6_27) ?_
    show Steps p.tables e below (T7.setTop (mkF m 28 #[.val (.ref a1)] [(.int (3 : Int32)), (.ref b1), (.ref b1)])) _
    refine XS.aloadN X7.here hx rfl (hb hby d6_28) rfl rfl ?_
    show Steps p.tables e below (T7.setTop (mkF m 29 #[.val (.ref a1)] [(.ref a1), (.int (3 : Int32)), (.ref b1), (.ref b1)])) _
    refine st8 _ ?_
    show Steps p.tables e below (T8.setTop (mkF m 32 #[.val (.ref a1)] [v4, (.int (3 : Int32)), (.ref b1), (.ref b1)])) _
    refine st9 _ ?_
    show Steps p.tables e below (T9.setTop (mkF m 33 #[.val (.ref a1)] [(.ref b1)])) _
    refine XS.dup X9.here hx rfl (hb hby d6_33) rfl rfl ?_
    show Steps p.tables e below (T9.setTop (mkF m 34 #[.val (.ref a1)] [(.ref b1), (.ref b1)])) _
    refine XS.iconst X9.here hx rfl (hb hby d6_34) ?_
    show Steps p.tables e below (T9.setTop (mkF m 35 #[.val (.ref a1)] [(.int (4 : Int32)), (.ref b1), (.ref b1)])) _
    refine XS.aloadN X9.here hx rfl (hb hby d6_35) rfl rfl ?_
    show Steps p.tables e below (T9.setTop (mkF m 36 #[.val (.ref a1)] [(.ref a1), (.int (4 : Int32)), (.ref b1), (.ref b1)])) _
    refine st10 _ ?_
    show Steps p.tables e below (T10.setTop (mkF m 39 #[.val (.ref a1)] [v5, (.int (4 : Int32)), (.ref b1), (.ref b1)])) _
    refine st11 _ ?_
    show Steps p.tables e below (T11.setTop (mkF m 40 #[.val (.ref a1)] [(.ref b1)])) _
    refine XS.dup X11.here hx rfl (hb hby d6_40) rfl rfl ?_
    show Steps p.tables e below (T11.setTop (mkF m 41 #[.val (.ref a1)] [(.ref b1), (.ref b1)])) _
    refine XS.iconst X11.here hx rfl (hb hby d6_41) ?_
    show Steps p.tables e below (T11.setTop (mkF m 42 #[.val (.ref a1)] [(.int (5 : Int32)), (.ref b1), (.ref b1)])) _
    refine XS.aloadN X11.here hx rfl (hb hby d6_42) rfl rfl ?_
    show Steps p.tables e below (T11.setTop (mkF m 43 #[.val (.ref a1)] [(.ref a1), (.int (5 : Int32)), (.ref b1), (.ref b1)])) _
    refine st12 _ ?_
    show Steps p.tables e below (T12.setTop (mkF m 46 #[.val (.ref a1)] [v6, (.int (5 : Int32)), (.ref b1), (.ref b1)])) _
    refine st13 _ ?_
    show Steps p.tables e below (T13.setTop (mkF m 47 #[.val (.ref a1)] [(.ref b1)])) _
    refine XS.dup X13.here hx rfl (hb hby d6_47) rfl rfl ?_
    show Steps p.tables e below (T13.setTop (mkF m 48 #[.val (.ref a1)] [(.ref b1), (.ref b1)])) _
    refine XS.bipush X13.here hx rfl (hb hby d6_48) ?_
    show Steps p.tables e below (T13.setTop (mkF m 50 #[.val (.ref a1)] [(.int (6 : Int32)), (.ref b1), (.ref b1)])) _
    refine XS.aloadN X13.here hx rfl (hb hby d6_50) rfl rfl ?_
    show Steps p.tables e below (T13.setTop (mkF m 51 #[.val (.ref a1)] [(.ref a1), (.int (6 : Int32)), (.ref b1), (.ref b1)])) _
    refine st14 _ ?_
    show Steps p.tables e below (T14.setTop (mkF m 54 #[.val (.ref a1)] [v7, (.int (6 : Int32)), (.ref b1), (.ref b1)])) _
    refine st15 _ ?_
    show Steps p.tables e below (T15.setTop (mkF m 55 #[.val (.ref a1)] [(.ref b1)])) _
    refine XS.dup X15.here hx rfl (hb hby d6_55) rfl rfl ?_
    show Steps p.tables e below (T15.setTop (mkF m 56 #[.val (.ref a1)] [(.ref b1), (.ref b1)])) _
    refine XS.bipush X15.here hx rfl (hb hby d6_56) ?_
    show Steps p.tables e below (T15.setTop (mkF m 58 #[.val (.ref a1)] [(.int (7 : Int32)), (.ref b1), (.ref b1)])) _
    refine XS.aloadN X15.here hx rfl (hb hby d6_58) rfl rfl ?_
    show Steps p.tables e below (T15.setTop (mkF m 59 #[.val (.ref a1)] [(.ref a1), (.int (7 : Int32)), (.ref b1), (.ref b1)])) _
    refine st16 _ ?_
    show Steps p.tables e below (T16.setTop (mkF m 62 #[.val (.ref a1)] [v8, (.int (7 : Int32)), (.ref b1), (.ref b1)])) _
    refine st17 _ ?_
    show Steps p.tables e below (T17.setTop (mkF m 63 #[.val (.ref a1)] [(.ref b1)])) _
    exact retOut X17 hx Bd.returns rfl (Or.inr (Or.inr (Or.inr (Or.inr ⟨rfl, rfl, rfl⟩)))) (hb hby d6_63) hr
  · show QA Z v1 v2 v3 v4 v5 v6 v7 v8 h0 n0 _ T17.heap _
    rw [e17]
    exact ⟨_, _, rfl, N17, K17, sz0_b1, O1, ((((((((B1.keep (Keep.of_wr W3)).keep (Keep.of_wr W5)).keep (Keep.of_wr W7)).keep (Keep.of_wr W9)).keep (Keep.of_wr W11)).keep (Keep.of_wr W13)).keep (Keep.of_wr W15)).keep (Keep.of_wr W17)), V17⟩
theorem d7_0 : decode prog_50_method_2_code 0 = .ok (.aload_n 0, 1) := by decide +kernel
theorem d7_1 : decode prog_50_method_2_code 1 = .ok (.getfield 7, 3) := by decide +kernel
theorem d7_4 : decode prog_50_method_2_code 4 = .ok (.areturn, 1) := by decide +kernel
theorem ef_7_R (m : MethodId) (x0 : Addr) : entryFrame m #[(.ref x0)] 1 = mkF m 0 #[.val (.ref x0)] [] := by first | (simp [entryFrame, mkF, argsToLocals, Value.category]; done) | (simp [entryFrame, mkF, argsToLocals, own_cr, own_ci, own_cj]; done) | rfl
set_option maxRecDepth 65536 in
set_option maxHeartbeats 40000000 in
theorem tup_get (l : Launch) (Z : State) (a0 : Array Value) (hw : ∀ d ∈ tables_1, d.before a0 Z = true) (ws : List Jvm.Cond) (a1 : Addr) (v1 : Value) (h0 : Heap) (n0 : Nat) (Z0 : n0 ≤ h0.size) (F_t1 : Fld Z h0 a1 "com/example/tributary/tributary/Tuple8" "t1" "Ljava/lang/Object;" v1) (r_v1 : v1.isRef = true) :
    MetFree l (⟨"com/example/tributary/tributary/Tuple8", "getT1", "()Ljava/lang/Object;"⟩ : MethodName) (head1 (Jvm.Cond.code (⟨"com/example/tributary/tributary/Tuple8", "getT1", "()Ljava/lang/Object;"⟩ : MethodName) prog_50_method_2_code 1 (some (.object "java/lang/Object")) :: ws) ({ frames := 0, cells := 0, slots := 0, locals := 0 } : Room)) (fun a U => a = #[(.ref a1)] ∧ Z.Warmed39 U.vm ∧ U.heap = h0) (fun _ _ _ _ _ => True) (fun _ U o U' => ∃ v L, o = .returned v ∧ QG v1 h0 n0 v U'.heap L ∧ FrameEnd U o U' L ({ frames := 0, cells := 0, slots := 0, locals := 0 } : Room).cells ({ frames := 0, cells := 0, slots := 0, locals := 0 } : Room).slots) := by
  refine MetFree.of_bodySF (plainFor_of_name pn_com_example_tributary_tributary_Tuple8) hisR ?_
  intro p e s m args below meth c s₁ Bd hml0 hP hK
  obtain ⟨rfl, hZ, hh⟩ := hP
  have hx := Bd.exec
  have hby := Bd.bytes
  have hml : c.maxLocals = 1 := hml0
  have hown : s.vm.findClass "com/example/tributary/tributary/Tuple8" = some m.cls := findClass_of_methodNamed Bd.named
  have hnm := (name_of_methodNamed Bd.named Bd.method).1
  have X0 : Stand p l e ({ frames := 0, cells := 0, slots := 0, locals := 0 } : Room) s m #[(.ref a1)] below meth c s₁ [] 0 0 := Stand.of_body Bd
  have e0 : s₁.heap = h0 := by rw [← hh, Bd.state]; rfl
  have N0 := Fr.nil n0
  have pre0 : ∀ t, Steps p.tables e below (s₁.setTop (mkF m 0 #[.val (.ref a1)] [])) t → Steps p.tables e below (s₁.setTop (entryFrame m #[(.ref a1)] 1)) t := fun t k => castTop (ef_7_R m a1) k
  obtain ⟨T1, X1, e1, st1⟩ := getF X0 hx hZ hown (host := "") (Or.inl (hw _ (List.mem_of_getElem? (i := 26) rfl))) Via.refl e0 F_t1 (g := (mkF m 1 #[.val (.ref a1)] [(.ref a1)])) rfl rfl (hb hby d7_1)
  obtain ⟨fs, hr, hrun, hended, hW, hsame⟩ := X1.leave (v := some v1) (fun h => by rw [Bd.returns] at h; cases h)
  refine ⟨_, _, pre0 _ ?_, hrun, hended, _, _, rfl, ?_, ⟨_, rfl⟩, hW, hsame.mono (by decide) (by decide)⟩
  · show Steps p.tables e below (s₁.setTop (mkF m 0 #[.val (.ref a1)] [])) _
    refine XS.aloadN X0.here hx rfl (hb hby d7_0) rfl rfl ?_
    show Steps p.tables e below (s₁.setTop (mkF m 1 #[.val (.ref a1)] [(.ref a1)])) _
    refine st1 _ ?_
    show Steps p.tables e below (T1.setTop (mkF m 4 #[.val (.ref a1)] [v1])) _
    exact retOut X1 hx Bd.returns rfl (Or.inr (Or.inr (Or.inr (Or.inr ⟨rfl, rfl, r_v1⟩)))) (hb hby d7_4) hr
  · show QG v1 h0 n0 _ T1.heap _
    rw [e1]
    exact ⟨rfl, N0, rfl⟩
theorem pd__IIII_Ljava_lang_Object_ : parseMethodDescriptor "(IIII)Ljava/lang/Object;" = some ⟨[.int, .int, .int, .int], some (.object "java/lang/Object")⟩ := by decide +kernel
theorem pd__Ljava_lang_Object_Ljava_lang_Object_Ljava_lang_Object_Ljava_lang_Object_Ljava_lang_Object_Ljava_lang_Object_Ljava_lang_Object_Ljava_lang_Object__V : parseMethodDescriptor "(Ljava/lang/Object;Ljava/lang/Object;Ljava/lang/Object;Ljava/lang/Object;Ljava/lang/Object;Ljava/lang/Object;Ljava/lang/Object;Ljava/lang/Object;)V" = some ⟨[(.object "java/lang/Object"), (.object "java/lang/Object"), (.object "java/lang/Object"), (.object "java/lang/Object"), (.object "java/lang/Object"), (.object "java/lang/Object"), (.object "java/lang/Object"), (.object "java/lang/Object")], none⟩ := by decide +kernel
theorem pd____Ljava_lang_Object_ : parseMethodDescriptor "()[Ljava/lang/Object;" = some ⟨[], some (.array (.object "java/lang/Object"))⟩ := by decide +kernel
theorem pd___Ljava_lang_Object_ : parseMethodDescriptor "()Ljava/lang/Object;" = some ⟨[], some (.object "java/lang/Object")⟩ := by decide +kernel
theorem ef_0_III (m : MethodId) (x0 : Int32) (x1 : Int32) (x2 : Int32) : entryFrame m #[(.int x0), (.int x1), (.int x2)] maxLocals = mkF m 0 #[.val (.int x0), .val (.int x1), .val (.int x2), .unset, .unset, .unset, .unset, .unset, .unset, .unset, .unset, .unset, .unset, .unset, .unset] [] := by first | (simp [entryFrame, mkF, argsToLocals, Value.category, maxLocals]; done) | (simp [entryFrame, mkF, argsToLocals, own_cr, own_ci, own_cj, maxLocals]; done) | rfl
set_option maxRecDepth 65536 in
set_option maxHeartbeats 40000000 in
theorem law_0 (l : Launch) (Z : State) (a0 : Array Value) (hw : ∀ d ∈ tables_1, d.before a0 Z = true) (ws : List Jvm.Cond) (p0 : Int32) (p1 : Int32) (p2 : Int32) (w_Long : Addr) (c_Long : Cell) (h0 : Heap) (n0 : Nat) (Z0 : n0 ≤ h0.size) (C_Long : Cache Z h0 "java/lang/Long" "java/lang/Long$LongCache" "[Ljava/lang/Long;" w_Long c_Long) :
    MetFree l x (head1 (Jvm.Cond.code x code maxLocals ret :: ws) room_1) (fun a U => a = #[(.int p0), (.int p1), (.int p2)] ∧ Z.Warmed39 U.vm ∧ U.heap = h0) (fun _ _ _ _ _ => True) (fun _ U o U' => ∃ v L, o = .returned v ∧ QL (some (.int (1 : Int32))) h0 n0 v U'.heap L ∧ FrameEnd U o U' L room_1.cells room_1.slots) := by
  refine MetFree.of_bodySF (plainFor_of_name pn_com_example_tributary_tributary_Tuple8ToArrayPinLaw) hisR ?_
  intro p e s m args below meth c s₁ Bd hml0 hP hK
  obtain ⟨rfl, hZ, hh⟩ := hP
  have hx := Bd.exec
  have hby := Bd.bytes
  have hml : c.maxLocals = 15 := hml0
  have hown : s.vm.findClass "com/example/tributary/tributary/Tuple8ToArrayPinLaw" = some m.cls := findClass_of_methodNamed Bd.named
  have hnm := (name_of_methodNamed Bd.named Bd.method).1
  have X0 : Stand p l e room_1 s m #[(.int p0), (.int p1), (.int p2)] below meth c s₁ [] 0 0 := Stand.of_body Bd
  have e0 : s₁.heap = h0 := by rw [← hh, Bd.state]; rfl
  have N0 := Fr.nil n0
  have pre0 : ∀ t, Steps p.tables e below (s₁.setTop (mkF m 0 #[.val (.int p0), .val (.int p1), .val (.int p2), .unset, .unset, .unset, .unset, .unset, .unset, .unset, .unset, .unset, .unset, .unset, .unset] [])) t → Steps p.tables e below (s₁.setTop (entryFrame m #[(.int p0), (.int p1), (.int p2)] maxLocals)) t := fun t k => castTop (ef_0_III m p0 p1 p2) k
  obtain ⟨_, _, ⟨T1, L1, k1, n1⟩, -, X1, ⟨Lc1, hQ1, l1, y1, z1⟩, st1⟩ := Jvm.LawKit.callS X0 hx (y := (⟨"com/example/tributary/tributary/Tuple8ToArrayPinLaw", "v", "(IIII)Ljava/lang/Object;"⟩ : MethodName)) hown (mvT hZ (hw _ (List.mem_of_getElem? (i := 0) rfl))) (mvT hZ (hw _ (List.mem_of_getElem? (i := 1) rfl))) (mvT hZ (hw _ (List.mem_of_getElem? (i := 2) rfl))) (mvT hZ (hw _ (List.mem_of_getElem? (i := 3) rfl))) (by decide) (backOf (W := 0) (v_all l Z a0 hw [] p2 (0 : Int32) p0 (0 : Int32) w_Long c_Long h0 n0 Z0 (C_Long.keep (Keep.refl h0 []))) hZ (hw _ (List.mem_of_getElem? (i := 3) rfl)) (hw _ (List.mem_of_getElem? (i := 2) rfl)) (by decide) (by decide)) (g := (mkF m 4 #[.val (.int p0), .val (.int p1), .val (.int p2), .unset, .unset, .unset, .unset, .unset, .unset, .unset, .unset, .unset, .unset, .unset, .unset] [(.int (0 : Int32)), (.int p0), (.int (0 : Int32)), (.int p2)])) rfl (by rw [hml]; rfl) (argsL := [(.int p2), (.int (0 : Int32)), (.int p0), (.int (0 : Int32))]) (rest := []) (lenOf pd__IIII_Ljava_lang_Object_ rfl) rfl (by show 2 * 0 + _ ≤ _; exact Nat.le_of_eq rfl) (hb hby at_4) (fun _ _ => ⟨rfl, e0, (by decide : 0 + 1 ≤ _), (by decide : 0 + 1 ≤ _)⟩)
  dsimp only [Pt.U, Pt.locs, Pt.cells, Pt.slots] at X1 l1 y1 z1 st1 hQ1
  subst l1 y1 z1
  obtain ⟨x1, rfl, N1q, K1q, O1q⟩ := hQ1
  have N1 := Fr.app N0 N1q
  have K1 : Keep h0 T1.heap [] := (Keep.refl h0 []).trans K1q all0
  have r_x1 := own_obj_ref O1q
  have c_x1 := own_cat r_x1
  obtain ⟨_, _, ⟨T2, L2, k2, n2⟩, -, X2, ⟨Lc2, hQ2, l2, y2, z2⟩, st2⟩ := Jvm.LawKit.callS X1 hx (y := (⟨"com/example/tributary/tributary/Tuple8ToArrayPinLaw", "v", "(IIII)Ljava/lang/Object;"⟩ : MethodName)) hown (mvT hZ (hw _ (List.mem_of_getElem? (i := 0) rfl))) (mvT hZ (hw _ (List.mem_of_getElem? (i := 1) rfl))) (mvT hZ (hw _ (List.mem_of_getElem? (i := 2) rfl))) (mvT hZ (hw _ (List.mem_of_getElem? (i := 3) rfl))) (by decide) (backOf (W := 0) (v_all l Z a0 hw [] p2 (1 : Int32) p0 (1 : Int32) w_Long c_Long T1.heap n0 (Nat.le_trans Z0 K1.1) (C_Long.keep K1)) hZ (hw _ (List.mem_of_getElem? (i := 3) rfl)) (hw _ (List.mem_of_getElem? (i := 2) rfl)) (by decide) (by decide)) (g := (mkF m 12 #[.val (.int p0), .val (.int p1), .val (.int p2), .val x1, .unset, .unset, .unset, .unset, .unset, .unset, .unset, .unset, .unset, .unset, .unset] [(.int (1 : Int32)), (.int p0), (.int (1 : Int32)), (.int p2)])) rfl (by rw [hml]; rfl) (argsL := [(.int p2), (.int (1 : Int32)), (.int p0), (.int (1 : Int32))]) (rest := []) (lenOf pd__IIII_Ljava_lang_Object_ rfl) rfl (by show 2 * 0 + _ ≤ _; exact Nat.le_of_eq rfl) (hb hby at_12) (fun _ _ => ⟨rfl, rfl, (by decide : 1 + 1 ≤ _), (by decide : 1 + 1 ≤ _)⟩)
  dsimp only [Pt.U, Pt.locs, Pt.cells, Pt.slots] at X2 l2 y2 z2 st2 hQ2
  subst l2 y2 z2
  obtain ⟨x2, rfl, N2q, K2q, O2q⟩ := hQ2
  have N2 := Fr.app N1 N2q
  have K2 : Keep h0 T2.heap [] := K1.trans K2q all0
  have r_x2 := own_obj_ref O2q
  have c_x2 := own_cat r_x2
  obtain ⟨_, _, ⟨T3, L3, k3, n3⟩, -, X3, ⟨Lc3, hQ3, l3, y3, z3⟩, st3⟩ := Jvm.LawKit.callS X2 hx (y := (⟨"com/example/tributary/tributary/Tuple8ToArrayPinLaw", "v", "(IIII)Ljava/lang/Object;"⟩ : MethodName)) hown (mvT hZ (hw _ (List.mem_of_getElem? (i := 0) rfl))) (mvT hZ (hw _ (List.mem_of_getElem? (i := 1) rfl))) (mvT hZ (hw _ (List.mem_of_getElem? (i := 2) rfl))) (mvT hZ (hw _ (List.mem_of_getElem? (i := 3) rfl))) (by decide) (backOf (W := 0) (v_all l Z a0 hw [] p2 (2 : Int32) p0 (2 : Int32) w_Long c_Long T2.heap n0 (Nat.le_trans Z0 K2.1) (C_Long.keep K2)) hZ (hw _ (List.mem_of_getElem? (i := 3) rfl)) (hw _ (List.mem_of_getElem? (i := 2) rfl)) (by decide) (by decide)) (g := (mkF m 21 #[.val (.int p0), .val (.int p1), .val (.int p2), .val x1, .val x2, .unset, .unset, .unset, .unset, .unset, .unset, .unset, .unset, .unset, .unset] [(.int (2 : Int32)), (.int p0), (.int (2 : Int32)), (.int p2)])) rfl (by rw [hml]; rfl) (argsL := [(.int p2), (.int (2 : Int32)), (.int p0), (.int (2 : Int32))]) (rest := []) (lenOf pd__IIII_Ljava_lang_Object_ rfl) rfl (by show 2 * 0 + _ ≤ _; exact Nat.le_of_eq rfl) (hb hby at_21) (fun _ _ => ⟨rfl, rfl, (by decide : 2 + 1 ≤ _), (by decide : 2 + 1 ≤ _)⟩)
  dsimp only [Pt.U, Pt.locs, Pt.cells, Pt.slots] at X3 l3 y3 z3 st3 hQ3
  subst l3 y3 z3
  obtain ⟨x3, rfl, N3q, K3q, O3q⟩ := hQ3
  have N3 := Fr.app N2 N3q
  have K3 : Keep h0 T3.heap [] := K2.trans K3q all0
  have r_x3 := own_obj_ref O3q
  have c_x3 := own_cat r_x3
  obtain ⟨_, _, ⟨T4, L4, k4, n4⟩, -, X4, ⟨Lc4, hQ4, l4, y4, z4⟩, st4⟩ := Jvm.LawKit.callS X3 hx (y := (⟨"com/example/tributary/tributary/Tuple8ToArrayPinLaw", "v", "(IIII)Ljava/lang/Object;"⟩ : MethodName)) hown (mvT hZ (hw _ (List.mem_of_getElem? (i := 0) rfl))) (mvT hZ (hw _ (List.mem_of_getElem? (i := 1) rfl))) (mvT hZ (hw _ (List.mem_of_getElem? (i := 2) rfl))) (mvT hZ (hw _ (List.mem_of_getElem? (i := 3) rfl))) (by decide) (backOf (W := 0) (v_all l Z a0 hw [] p2 (3 : Int32) p0 (3 : Int32) w_Long c_Long T3.heap n0 (Nat.le_trans Z0 K3.1) (C_Long.keep K3)) hZ (hw _ (List.mem_of_getElem? (i := 3) rfl)) (hw _ (List.mem_of_getElem? (i := 2) rfl)) (by decide) (by decide)) (g := (mkF m 30 #[.val (.int p0), .val (.int p1), .val (.int p2), .val x1, .val x2, .val x3, .unset, .unset, .unset, .unset, .unset, .unset, .unset, .unset, .unset] [(.int (3 : Int32)), (.int p0), (.int (3 : Int32)), (.int p2)])) rfl (by rw [hml]; rfl) (argsL := [(.int p2), (.int (3 : Int32)), (.int p0), (.int (3 : Int32))]) (rest := []) (lenOf pd__IIII_Ljava_lang_Object_ rfl) rfl (by show 2 * 0 + _ ≤ _; exact Nat.le_of_eq rfl) (hb hby at_30) (fun _ _ => ⟨rfl, rfl, (by decide : 3 + 1 ≤ _), (by decide : 3 + 1 ≤ _)⟩)
  dsimp only [Pt.U, Pt.locs, Pt.cells, Pt.slots] at X4 l4 y4 z4 st4 hQ4
  subst l4 y4 z4
  obtain ⟨x4, rfl, N4q, K4q, O4q⟩ := hQ4
  have N4 := Fr.app N3 N4q
  have K4 : Keep h0 T4.heap [] := K3.trans K4q all0
  have r_x4 := own_obj_ref O4q
  have c_x4 := own_cat r_x4
  obtain ⟨_, _, ⟨T5, L5, k5, n5⟩, -, X5, ⟨Lc5, hQ5, l5, y5, z5⟩, st5⟩ := Jvm.LawKit.callS X4 hx (y := (⟨"com/example/tributary/tributary/Tuple8ToArrayPinLaw", "v", "(IIII)Ljava/lang/Object;"⟩ : MethodName)) hown (mvT hZ (hw _ (List.mem_of_getElem? (i := 0) rfl))) (mvT hZ (hw _ (List.mem_of_getElem? (i := 1) rfl))) (mvT hZ (hw _ (List.mem_of_getElem? (i := 2) rfl))) (mvT hZ (hw _ (List.mem_of_getElem? (i := 3) rfl))) (by decide) (backOf (W := 0) (v_all l Z a0 hw [] p2 (4 : Int32) p1 (4 : Int32) w_Long c_Long T4.heap n0 (Nat.le_trans Z0 K4.1) (C_Long.keep K4)) hZ (hw _ (List.mem_of_getElem? (i := 3) rfl)) (hw _ (List.mem_of_getElem? (i := 2) rfl)) (by decide) (by decide)) (g := (mkF m 39 #[.val (.int p0), .val (.int p1), .val (.int p2), .val x1, .val x2, .val x3, .val x4, .unset, .unset, .unset, .unset, .unset, .unset, .unset, .unset] [(.int (4 : Int32)), (.int p1), (.int (4 : Int32)), (.int p2)])) rfl (by rw [hml]; rfl) (argsL := [(.int p2), (.int (4 : Int32)), (.int p1), (.int (4 : Int32))]) (rest := []) (lenOf pd__IIII_Ljava_lang_Object_ rfl) rfl (by show 2 * 0 + _ ≤ _; exact Nat.le_of_eq rfl) (hb hby at_39) (fun _ _ => ⟨rfl, rfl, (by decide : 4 + 1 ≤ _), (by decide : 4 + 1 ≤ _)⟩)
  dsimp only [Pt.U, Pt.locs, Pt.cells, Pt.slots] at X5 l5 y5 z5 st5 hQ5
  subst l5 y5 z5
  obtain ⟨x5, rfl, N5q, K5q, O5q⟩ := hQ5
  have N5 := Fr.app N4 N5q
  have K5 : Keep h0 T5.heap [] := K4.trans K5q all0
  have r_x5 := own_obj_ref O5q
  have c_x5 := own_cat r_x5
  obtain ⟨_, _, ⟨T6, L6, k6, n6⟩, -, X6, ⟨Lc6, hQ6, l6, y6, z6⟩, st6⟩ := Jvm.LawKit.callS X5 hx (y := (⟨"com/example/tributary/tributary/Tuple8ToArrayPinLaw", "v", "(IIII)Ljava/lang/Object;"⟩ : MethodName)) hown (mvT hZ (hw _ (List.mem_of_getElem? (i := 0) rfl))) (mvT hZ (hw _ (List.mem_of_getElem? (i := 1) rfl))) (mvT hZ (hw _ (List.mem_of_getElem? (i := 2) rfl))) (mvT hZ (hw _ (List.mem_of_getElem? (i := 3) rfl))) (by decide) (backOf (W := 0) (v_all l Z a0 hw [] p2 (5 : Int32) p1 (5 : Int32) w_Long c_Long T5.heap n0 (Nat.le_trans Z0 K5.1) (C_Long.keep K5)) hZ (hw _ (List.mem_of_getElem? (i := 3) rfl)) (hw _ (List.mem_of_getElem? (i := 2) rfl)) (by decide) (by decide)) (g := (mkF m 48 #[.val (.int p0), .val (.int p1), .val (.int p2), .val x1, .val x2, .val x3, .val x4, .val x5, .unset, .unset, .unset, .unset, .unset, .unset, .unset] [(.int (5 : Int32)), (.int p1), (.int (5 : Int32)), (.int p2)])) rfl (by rw [hml]; rfl) (argsL := [(.int p2), (.int (5 : Int32)), (.int p1), (.int (5 : Int32))]) (rest := []) (lenOf pd__IIII_Ljava_lang_Object_ rfl) rfl (by show 2 * 0 + _ ≤ _; exact Nat.le_of_eq rfl) (hb hby at_48) (fun _ _ => ⟨rfl, rfl, (by decide : 5 + 1 ≤ _), (by decide : 5 + 1 ≤ _)⟩)
  dsimp only [Pt.U, Pt.locs, Pt.cells, Pt.slots] at X6 l6 y6 z6 st6 hQ6
  subst l6 y6 z6
  obtain ⟨x6, rfl, N6q, K6q, O6q⟩ := hQ6
  have N6 := Fr.app N5 N6q
  have K6 : Keep h0 T6.heap [] := K5.trans K6q all0
  have r_x6 := own_obj_ref O6q
  have c_x6 := own_cat r_x6
  obtain ⟨_, _, ⟨T7, L7, k7, n7⟩, -, X7, ⟨Lc7, hQ7, l7, y7, z7⟩, st7⟩ := Jvm.LawKit.callS X6 hx (y := (⟨"com/example/tributary/tributary/Tuple8ToArrayPinLaw", "v", "(IIII)Ljava/lang/Object;"⟩ : MethodName)) hown (mvT hZ (hw _ (List.mem_of_getElem? (i := 0) rfl))) (mvT hZ (hw _ (List.mem_of_getElem? (i := 1) rfl))) (mvT hZ (hw _ (List.mem_of_getElem? (i := 2) rfl))) (mvT hZ (hw _ (List.mem_of_getElem? (i := 3) rfl))) (by decide) (backOf (W := 0) (v_all l Z a0 hw [] p2 (6 : Int32) p1 (6 : Int32) w_Long c_Long T6.heap n0 (Nat.le_trans Z0 K6.1) (C_Long.keep K6)) hZ (hw _ (List.mem_of_getElem? (i := 3) rfl)) (hw _ (List.mem_of_getElem? (i := 2) rfl)) (by decide) (by decide)) (g := (mkF m 59 #[.val (.int p0), .val (.int p1), .val (.int p2), .val x1, .val x2, .val x3, .val x4, .val x5, .val x6, .unset, .unset, .unset, .unset, .unset, .unset] [(.int (6 : Int32)), (.int p1), (.int (6 : Int32)), (.int p2)])) rfl (by rw [hml]; rfl) (argsL := [(.int p2), (.int (6 : Int32)), (.int p1), (.int (6 : Int32))]) (rest := []) (lenOf pd__IIII_Ljava_lang_Object_ rfl) rfl (by show 2 * 0 + _ ≤ _; exact Nat.le_of_eq rfl) (hb hby at_59) (fun _ _ => ⟨rfl, rfl, (by decide : 6 + 1 ≤ _), (by decide : 6 + 1 ≤ _)⟩)
  dsimp only [Pt.U, Pt.locs, Pt.cells, Pt.slots] at X7 l7 y7 z7 st7 hQ7
  subst l7 y7 z7
  obtain ⟨x7, rfl, N7q, K7q, O7q⟩ := hQ7
  have N7 := Fr.app N6 N7q
  have K7 : Keep h0 T7.heap [] := K6.trans K7q all0
  have r_x7 := own_obj_ref O7q
  have c_x7 := own_cat r_x7
  obtain ⟨_, _, ⟨T8, L8, k8, n8⟩, -, X8, ⟨Lc8, hQ8, l8, y8, z8⟩, st8⟩ := Jvm.LawKit.callS X7 hx (y := (⟨"com/example/tributary/tributary/Tuple8ToArrayPinLaw", "v", "(IIII)Ljava/lang/Object;"⟩ : MethodName)) hown (mvT hZ (hw _ (List.mem_of_getElem? (i := 0) rfl))) (mvT hZ (hw _ (List.mem_of_getElem? (i := 1) rfl))) (mvT hZ (hw _ (List.mem_of_getElem? (i := 2) rfl))) (mvT hZ (hw _ (List.mem_of_getElem? (i := 3) rfl))) (by decide) (backOf (W := 0) (v_all l Z a0 hw [] p2 (7 : Int32) p1 (7 : Int32) w_Long c_Long T7.heap n0 (Nat.le_trans Z0 K7.1) (C_Long.keep K7)) hZ (hw _ (List.mem_of_getElem? (i := 3) rfl)) (hw _ (List.mem_of_getElem? (i := 2) rfl)) (by decide) (by decide)) (g := (mkF m 70 #[.val (.int p0), .val (.int p1), .val (.int p2), .val x1, .val x2, .val x3, .val x4, .val x5, .val x6, .val x7, .unset, .unset, .unset, .unset, .unset] [(.int (7 : Int32)), (.int p1), (.int (7 : Int32)), (.int p2)])) rfl (by rw [hml]; rfl) (argsL := [(.int p2), (.int (7 : Int32)), (.int p1), (.int (7 : Int32))]) (rest := []) (lenOf pd__IIII_Ljava_lang_Object_ rfl) rfl (by show 2 * 0 + _ ≤ _; exact Nat.le_of_eq rfl) (hb hby at_70) (fun _ _ => ⟨rfl, rfl, (by decide : 7 + 1 ≤ _), (by decide : 7 + 1 ≤ _)⟩)
  dsimp only [Pt.U, Pt.locs, Pt.cells, Pt.slots] at X8 l8 y8 z8 st8 hQ8
  subst l8 y8 z8
  obtain ⟨x8, rfl, N8q, K8q, O8q⟩ := hQ8
  have N8 := Fr.app N7 N8q
  have K8 : Keep h0 T8.heap [] := K7.trans K8q all0
  have r_x8 := own_obj_ref O8q
  have c_x8 := own_cat r_x8
  obtain ⟨T9, h9, X9, e9, E9, A9, D9, -, st9⟩ := newO X8 hx hZ hown (hw _ (List.mem_of_getElem? (i := 12) rfl)) (hw _ (List.mem_of_getElem? (i := 13) rfl)) (hw _ (List.mem_of_getElem? (i := 14) rfl)) rfl (g := (mkF m 75 #[.val (.int p0), .val (.int p1), .val (.int p2), .val x1, .val x2, .val x3, .val x4, .val x5, .val x6, .val x7, .val x8, .unset, .unset, .unset, .unset] [])) rfl (hb hby at_75) (by decide) (by decide)
  obtain ⟨b9, gg9⟩ : ∃ z, z = T8.heap.size := ⟨_, rfl⟩
  rw [← gg9] at A9 D9 st9
  have sz_b9 : T8.heap.size ≤ b9 := Nat.le_of_eq gg9.symm
  have sz0_b9 : h0.size ≤ b9 := Nat.le_trans K8.1 sz_b9
  have g_b9 : n0 ≤ b9 := Nat.le_trans Z0 sz0_b9
  have K9q : Keep T8.heap h9 [] := (Keep.refl _ []).ext E9
  have K9 : Keep h0 h9 [] := K8.ext E9
  have F9_t1 : Fld Z h9 b9 "com/example/tributary/tributary/Tuple8" "t1" "Ljava/lang/Object;" .null := D9 (Or.inr (hw _ (List.mem_of_getElem? (i := 27) rfl))) (ty := (.object "java/lang/Object")) (by decide)
  have F9_t2 : Fld Z h9 b9 "com/example/tributary/tributary/Tuple8" "t2" "Ljava/lang/Object;" .null := D9 (Or.inr (hw _ (List.mem_of_getElem? (i := 29) rfl))) (ty := (.object "java/lang/Object")) (by decide)
  have F9_t3 : Fld Z h9 b9 "com/example/tributary/tributary/Tuple8" "t3" "Ljava/lang/Object;" .null := D9 (Or.inr (hw _ (List.mem_of_getElem? (i := 31) rfl))) (ty := (.object "java/lang/Object")) (by decide)
  have F9_t4 : Fld Z h9 b9 "com/example/tributary/tributary/Tuple8" "t4" "Ljava/lang/Object;" .null := D9 (Or.inr (hw _ (List.mem_of_getElem? (i := 33) rfl))) (ty := (.object "java/lang/Object")) (by decide)
  have F9_t5 : Fld Z h9 b9 "com/example/tributary/tributary/Tuple8" "t5" "Ljava/lang/Object;" .null := D9 (Or.inr (hw _ (List.mem_of_getElem? (i := 35) rfl))) (ty := (.object "java/lang/Object")) (by decide)
  have F9_t6 : Fld Z h9 b9 "com/example/tributary/tributary/Tuple8" "t6" "Ljava/lang/Object;" .null := D9 (Or.inr (hw _ (List.mem_of_getElem? (i := 37) rfl))) (ty := (.object "java/lang/Object")) (by decide)
  have F9_t7 : Fld Z h9 b9 "com/example/tributary/tributary/Tuple8" "t7" "Ljava/lang/Object;" .null := D9 (Or.inr (hw _ (List.mem_of_getElem? (i := 39) rfl))) (ty := (.object "java/lang/Object")) (by decide)
  have F9_t8 : Fld Z h9 b9 "com/example/tributary/tributary/Tuple8" "t8" "Ljava/lang/Object;" .null := D9 (Or.inr (hw _ (List.mem_of_getElem? (i := 41) rfl))) (ty := (.object "java/lang/Object")) (by decide)
  obtain ⟨_, _, ⟨T10, L10, k10, n10⟩, -, X10, ⟨Lc10, hQ10, l10, y10, z10⟩, st10⟩ := X9.specialBack hx (y := (⟨"com/example/tributary/tributary/Tuple8", "<init>", "(Ljava/lang/Object;Ljava/lang/Object;Ljava/lang/Object;Ljava/lang/Object;Ljava/lang/Object;Ljava/lang/Object;Ljava/lang/Object;Ljava/lang/Object;)V"⟩ : MethodName)) rfl hown (mvT hZ (hw _ (List.mem_of_getElem? (i := 15) rfl))) (mvT hZ (hw _ (List.mem_of_getElem? (i := 16) rfl))) (mvT hZ (hw _ (List.mem_of_getElem? (i := 17) rfl))) (by decide) (backOf (W := 1) (tup_init l Z a0 hw [] b9 x1 x2 x3 x4 x5 x6 x7 x8 h9 n0 (Nat.le_trans Z0 K9.1) F9_t1 F9_t2 F9_t3 F9_t4 F9_t5 F9_t6 F9_t7 F9_t8 A9 g_b9 r_x1 r_x2 r_x3 r_x4 r_x5 r_x6 r_x7 r_x8) hZ (hw _ (List.mem_of_getElem? (i := 17) rfl)) (hw _ (List.mem_of_getElem? (i := 14) rfl)) (by decide) (by decide)) (g := (mkF m 94 #[.val (.int p0), .val (.int p1), .val (.int p2), .val x1, .val x2, .val x3, .val x4, .val x5, .val x6, .val x7, .val x8, .unset, .unset, .unset, .unset] [x8, x7, x6, x5, x4, x3, x2, x1, (.ref b9), (.ref b9)])) rfl (by rw [hml]; rfl) (Steps.refl _) (a := b9) (argsL := [x1, x2, x3, x4, x5, x6, x7, x8]) (rest := [(.ref b9)]) (lenOf pd__Ljava_lang_Object_Ljava_lang_Object_Ljava_lang_Object_Ljava_lang_Object_Ljava_lang_Object_Ljava_lang_Object_Ljava_lang_Object_Ljava_lang_Object__V rfl) rfl (by show 2 * 0 + _ ≤ _; exact Nat.le_of_eq rfl) (hb hby at_94) (fun _ _ => ⟨rfl, e9, (by decide : 9 + 0 ≤ _), (by decide : 16 + 0 ≤ _)⟩)
  dsimp only [Pt.U, Pt.locs, Pt.cells, Pt.slots] at X10 l10 y10 z10 st10 hQ10
  subst l10 y10 z10
  obtain ⟨rfl, N10q, K10q, E10q, F10q_t1, F10q_t2, F10q_t3, F10q_t4, F10q_t5, F10q_t6, F10q_t7, F10q_t8⟩ := hQ10
  have N10 := Fr.app N8 N10q
  have K10 : Keep h0 T10.heap [] := K9.trans K10q (allS (Or.inr sz0_b9) all0)
  obtain ⟨cq11, kq11, q11a, q11b, q11c⟩ := isOf hZ rfl E10q
  obtain ⟨_, _, ⟨T11, L11, k11, n11⟩, -, X11, ⟨Lc11, hQ11, l11, y11, z11⟩, st11⟩ := X10.virtualBack hx (y := (⟨"com/example/tributary/tributary/Tuple8", "toArray", "()[Ljava/lang/Object;"⟩ : MethodName)) (z := (⟨"com/example/tributary/tributary/Tuple8", "toArray", "()[Ljava/lang/Object;"⟩ : MethodName)) hown (mvT hZ (hw _ (List.mem_of_getElem? (i := 42) rfl))) (mvT hZ (hw _ (List.mem_of_getElem? (i := 43) rfl))) (notFace_of_selects (args := #[]) (mvT hZ (hw _ (List.mem_of_getElem? (i := 45) rfl)))) (mvT hZ (hw _ (List.mem_of_getElem? (i := 45) rfl))) (mvT hZ (hw _ (List.mem_of_getElem? (i := 44) rfl))) (by decide) (backOf (W := 0) (tup_arr l Z a0 hw [] b9 x1 x2 x3 x4 x5 x6 x7 x8 T10.heap n0 (Nat.le_trans Z0 K10.1) F10q_t1 F10q_t2 F10q_t3 F10q_t4 F10q_t5 F10q_t6 F10q_t7 F10q_t8 (own_obj_keep (own_obj_keep (own_obj_keep (own_obj_keep (own_obj_keep (own_obj_keep (own_obj_keep (own_obj_keep (own_obj_keep O1q K2q) K3q) K4q) K5q) K6q) K7q) K8q) K9q) K10q) (own_obj_keep (own_obj_keep (own_obj_keep (own_obj_keep (own_obj_keep (own_obj_keep (own_obj_keep (own_obj_keep O2q K3q) K4q) K5q) K6q) K7q) K8q) K9q) K10q) (own_obj_keep (own_obj_keep (own_obj_keep (own_obj_keep (own_obj_keep (own_obj_keep (own_obj_keep O3q K4q) K5q) K6q) K7q) K8q) K9q) K10q) (own_obj_keep (own_obj_keep (own_obj_keep (own_obj_keep (own_obj_keep (own_obj_keep O4q K5q) K6q) K7q) K8q) K9q) K10q) (own_obj_keep (own_obj_keep (own_obj_keep (own_obj_keep (own_obj_keep O5q K6q) K7q) K8q) K9q) K10q) (own_obj_keep (own_obj_keep (own_obj_keep (own_obj_keep O6q K7q) K8q) K9q) K10q) (own_obj_keep (own_obj_keep (own_obj_keep O7q K8q) K9q) K10q) (own_obj_keep (own_obj_keep O8q K9q) K10q)) hZ (hw _ (List.mem_of_getElem? (i := 46) rfl)) (hw _ (List.mem_of_getElem? (i := 14) rfl)) (by decide) (by decide)) q11a q11c (g := (mkF m 101 #[.val (.int p0), .val (.int p1), .val (.int p2), .val x1, .val x2, .val x3, .val x4, .val x5, .val x6, .val x7, .val x8, .val (.ref b9), .unset, .unset, .unset] [(.ref b9)])) rfl (by rw [hml]; rfl) (Steps.refl _) (argsL := []) (rest := []) (lenOf pd____Ljava_lang_Object_ rfl) rfl (by show 2 * 0 + _ ≤ _; exact Nat.le_of_eq rfl) (hb hby at_101) (fun _ _ => ⟨rfl, rfl, (by decide : 9 + 1 ≤ _), (by decide : 16 + 8 ≤ _)⟩)
  dsimp only [Pt.U, Pt.locs, Pt.cells, Pt.slots] at X11 l11 y11 z11 st11 hQ11
  subst l11 y11 z11
  obtain ⟨r11, k11r, rfl, N11q, K11q, sz_r11, O11q, E11q, V11q⟩ := hQ11
  have sz0_r11 : h0.size ≤ r11 := Nat.le_trans K10.1 sz_r11
  have g_r11 : n0 ≤ r11 := Nat.le_trans Z0 sz0_r11
  have N11 := Fr.app N10 N11q
  have K11 : Keep h0 T11.heap [] := K10.trans K11q all0
  obtain ⟨cl12, Ar12, q12, s12, m12, H12, F12⟩ := (id V11q)
  obtain ⟨cl13, Ar13, q13, s13, m13, H13, F13⟩ := (id V11q)
  have hin13 : ¬ ((0 : Int32) < 0 ∨ cl13.slots.size ≤ ((0 : Int32)).toNatClampNeg) := inb_of s13 ⟨by decide, by decide⟩
  have hat13 : cl13.slots[((0 : Int32)).toNatClampNeg]? = some x1 := H13.at hin13 rfl
  obtain ⟨cl14, Ar14, q14, s14, m14, H14, F14⟩ := (id V11q)
  have hin14 : ¬ ((1 : Int32) < 0 ∨ cl14.slots.size ≤ ((1 : Int32)).toNatClampNeg) := inb_of s14 ⟨by decide, by decide⟩
  have hat14 : cl14.slots[((1 : Int32)).toNatClampNeg]? = some x2 := H14.at hin14 rfl
  obtain ⟨cl15, Ar15, q15, s15, m15, H15, F15⟩ := (id V11q)
  have hin15 : ¬ ((2 : Int32) < 0 ∨ cl15.slots.size ≤ ((2 : Int32)).toNatClampNeg) := inb_of s15 ⟨by decide, by decide⟩
  have hat15 : cl15.slots[((2 : Int32)).toNatClampNeg]? = some x3 := H15.at hin15 rfl
  obtain ⟨cl16, Ar16, q16, s16, m16, H16, F16⟩ := (id V11q)
  have hin16 : ¬ ((3 : Int32) < 0 ∨ cl16.slots.size ≤ ((3 : Int32)).toNatClampNeg) := inb_of s16 ⟨by decide, by decide⟩
  have hat16 : cl16.slots[((3 : Int32)).toNatClampNeg]? = some x4 := H16.at hin16 rfl
  obtain ⟨cl17, Ar17, q17, s17, m17, H17, F17⟩ := (id V11q)
  have hin17 : ¬ ((4 : Int32) < 0 ∨ cl17.slots.size ≤ ((4 : Int32)).toNatClampNeg) := inb_of s17 ⟨by decide, by decide⟩
  have hat17 : cl17.slots[((4 : Int32)).toNatClampNeg]? = some x5 := H17.at hin17 rfl
  obtain ⟨cl18, Ar18, q18, s18, m18, H18, F18⟩ := (id V11q)
  have hin18 : ¬ ((5 : Int32) < 0 ∨ cl18.slots.size ≤ ((5 : Int32)).toNatClampNeg) := inb_of s18 ⟨by decide, by decide⟩
  have hat18 : cl18.slots[((5 : Int32)).toNatClampNeg]? = some x6 := H18.at hin18 rfl
  obtain ⟨cl19, Ar19, q19, s19, m19, H19, F19⟩ := (id V11q)
  have hin19 : ¬ ((6 : Int32) < 0 ∨ cl19.slots.size ≤ ((6 : Int32)).toNatClampNeg) := inb_of s19 ⟨by decide, by decide⟩
  have hat19 : cl19.slots[((6 : Int32)).toNatClampNeg]? = some x7 := H19.at hin19 rfl
  obtain ⟨cl20, Ar20, q20, s20, m20, H20, F20⟩ := (id V11q)
  have hin20 : ¬ ((7 : Int32) < 0 ∨ cl20.slots.size ≤ ((7 : Int32)).toNatClampNeg) := inb_of s20 ⟨by decide, by decide⟩
  have hat20 : cl20.slots[((7 : Int32)).toNatClampNeg]? = some x8 := H20.at hin20 rfl
  obtain ⟨cl21, Ar21, q21, s21, m21, H21, F21⟩ := (id V11q)
  have hin21 : ¬ ((0 : Int32) < 0 ∨ cl21.slots.size ≤ ((0 : Int32)).toNatClampNeg) := inb_of s21 ⟨by decide, by decide⟩
  have sto21 : Sto Z T11.heap r11 (.ref b9) := own_sto Ar21 q21 O11q (own_obj (E10q.keep K11q) (hw _ (List.mem_of_getElem? (i := 50) rfl)))
  obtain ⟨T21, h21, X21, e21, W21, st21⟩ := stR X11 hx hZ rfl Ar21 (j := (0 : Int32)) (v := (.ref b9)) hin21 rfl sto21 (g := (mkF m 213 #[.val (.int p0), .val (.int p1), .val (.int p2), .val x1, .val x2, .val x3, .val x4, .val x5, .val x6, .val x7, .val x8, .val (.ref b9), .val (.ref r11), .val (.int (1 : Int32)), .unset] [(.ref b9), (.int (0 : Int32)), (.ref r11)])) rfl rfl (hb hby at_213)
  have V21 : Arv Z h21 r11 k11r (.object "java/lang/Object") (8 : Int32) [(.ref b9), x2, x3, x4, x5, x6, x7, x8] .null := Arv.set Ar21 q21 s21 m21 H21 F21 rfl W21 0 rfl (Nat.le_of_ble_eq_true rfl)
  have K21 : Keep h0 h21 [] := K11.wr W21 (Or.inr sz0_r11)
  have N21 := Fr.snoc X21 N11 g_r11
  obtain ⟨cq22, kq22, q22a, q22b, q22c⟩ := isOf hZ e21 ((E10q.keep K11q).keep (Keep.of_wr W21))
  obtain ⟨_, _, ⟨T22, L22, k22, n22⟩, -, X22, ⟨Lc22, hQ22, l22, y22, z22⟩, st22⟩ := X21.virtualBack hx (y := (⟨"com/example/tributary/tributary/Tuple8", "toArray", "()[Ljava/lang/Object;"⟩ : MethodName)) (z := (⟨"com/example/tributary/tributary/Tuple8", "toArray", "()[Ljava/lang/Object;"⟩ : MethodName)) hown (mvT hZ (hw _ (List.mem_of_getElem? (i := 42) rfl))) (mvT hZ (hw _ (List.mem_of_getElem? (i := 43) rfl))) (notFace_of_selects (args := #[]) (mvT hZ (hw _ (List.mem_of_getElem? (i := 45) rfl)))) (mvT hZ (hw _ (List.mem_of_getElem? (i := 45) rfl))) (mvT hZ (hw _ (List.mem_of_getElem? (i := 44) rfl))) (by decide) (backOf (W := 0) (tup_arr l Z a0 hw [] b9 x1 x2 x3 x4 x5 x6 x7 x8 h21 n0 (Nat.le_trans Z0 K21.1) ((F10q_t1.keep K11q nin0).keep (Keep.of_wr W21) (ninS (Nat.ne_of_lt (Nat.lt_of_lt_of_le E10q.lt sz_r11)) nin0)) ((F10q_t2.keep K11q nin0).keep (Keep.of_wr W21) (ninS (Nat.ne_of_lt (Nat.lt_of_lt_of_le E10q.lt sz_r11)) nin0)) ((F10q_t3.keep K11q nin0).keep (Keep.of_wr W21) (ninS (Nat.ne_of_lt (Nat.lt_of_lt_of_le E10q.lt sz_r11)) nin0)) ((F10q_t4.keep K11q nin0).keep (Keep.of_wr W21) (ninS (Nat.ne_of_lt (Nat.lt_of_lt_of_le E10q.lt sz_r11)) nin0)) ((F10q_t5.keep K11q nin0).keep (Keep.of_wr W21) (ninS (Nat.ne_of_lt (Nat.lt_of_lt_of_le E10q.lt sz_r11)) nin0)) ((F10q_t6.keep K11q nin0).keep (Keep.of_wr W21) (ninS (Nat.ne_of_lt (Nat.lt_of_lt_of_le E10q.lt sz_r11)) nin0)) ((F10q_t7.keep K11q nin0).keep (Keep.of_wr W21) (ninS (Nat.ne_of_lt (Nat.lt_of_lt_of_le E10q.lt sz_r11)) nin0)) ((F10q_t8.keep K11q nin0).keep (Keep.of_wr W21) (ninS (Nat.ne_of_lt (Nat.lt_of_lt_of_le E10q.lt sz_r11)) nin0)) (own_obj_keep (own_obj_keep (own_obj_keep (own_obj_keep (own_obj_keep (own_obj_keep (own_obj_keep (own_obj_keep (own_obj_keep (own_obj_keep (own_obj_keep O1q K2q) K3q) K4q) K5q) K6q) K7q) K8q) K9q) K10q) K11q) (Keep.of_wr W21)) (own_obj_keep (own_obj_keep (own_obj_keep (own_obj_keep (own_obj_keep (own_obj_keep (own_obj_keep (own_obj_keep (own_obj_keep (own_obj_keep O2q K3q) K4q) K5q) K6q) K7q) K8q) K9q) K10q) K11q) (Keep.of_wr W21)) (own_obj_keep (own_obj_keep (own_obj_keep (own_obj_keep (own_obj_keep (own_obj_keep (own_obj_keep (own_obj_keep (own_obj_keep O3q K4q) K5q) K6q) K7q) K8q) K9q) K10q) K11q) (Keep.of_wr W21)) (own_obj_keep (own_obj_keep (own_obj_keep (own_obj_keep (own_obj_keep (own_obj_keep (own_obj_keep (own_obj_keep O4q K5q) K6q) K7q) K8q) K9q) K10q) K11q) (Keep.of_wr W21)) (own_obj_keep (own_obj_keep (own_obj_keep (own_obj_keep (own_obj_keep (own_obj_keep (own_obj_keep O5q K6q) K7q) K8q) K9q) K10q) K11q) (Keep.of_wr W21)) (own_obj_keep (own_obj_keep (own_obj_keep (own_obj_keep (own_obj_keep (own_obj_keep O6q K7q) K8q) K9q) K10q) K11q) (Keep.of_wr W21)) (own_obj_keep (own_obj_keep (own_obj_keep (own_obj_keep (own_obj_keep O7q K8q) K9q) K10q) K11q) (Keep.of_wr W21)) (own_obj_keep (own_obj_keep (own_obj_keep (own_obj_keep O8q K9q) K10q) K11q) (Keep.of_wr W21))) hZ (hw _ (List.mem_of_getElem? (i := 46) rfl)) (hw _ (List.mem_of_getElem? (i := 14) rfl)) (by decide) (by decide)) q22a q22c (g := (mkF m 216 #[.val (.int p0), .val (.int p1), .val (.int p2), .val x1, .val x2, .val x3, .val x4, .val x5, .val x6, .val x7, .val x8, .val (.ref b9), .val (.ref r11), .val (.int (1 : Int32)), .unset] [(.ref b9)])) rfl (by rw [hml]; rfl) (Steps.refl _) (argsL := []) (rest := []) (lenOf pd____Ljava_lang_Object_ rfl) rfl (by show 2 * 0 + _ ≤ _; exact Nat.le_of_eq rfl) (hb hby at_216) (fun _ _ => ⟨rfl, e21, (by decide : 10 + 1 ≤ _), (by decide : 24 + 8 ≤ _)⟩)
  dsimp only [Pt.U, Pt.locs, Pt.cells, Pt.slots] at X22 l22 y22 z22 st22 hQ22
  subst l22 y22 z22
  obtain ⟨r22, k22r, rfl, N22q, K22q, sz_r22, O22q, E22q, V22q⟩ := hQ22
  have sz0_r22 : h0.size ≤ r22 := Nat.le_trans K21.1 sz_r22
  have g_r22 : n0 ≤ r22 := Nat.le_trans Z0 sz0_r22
  have N22 := Fr.app N21 N22q
  have K22 : Keep h0 T22.heap [] := K21.trans K22q all0
  obtain ⟨cl23, Ar23, q23, s23, m23, H23, F23⟩ := (id V22q)
  obtain ⟨cl24, Ar24, q24, s24, m24, H24, F24⟩ := (id V22q)
  have hin24 : ¬ ((0 : Int32) < 0 ∨ cl24.slots.size ≤ ((0 : Int32)).toNatClampNeg) := inb_of s24 ⟨by decide, by decide⟩
  have hat24 : cl24.slots[((0 : Int32)).toNatClampNeg]? = some x1 := H24.at hin24 rfl
  obtain ⟨cq25, kq25, q25a, q25b, q25c⟩ := isOf hZ rfl (((E10q.keep K11q).keep (Keep.of_wr W21)).keep K22q)
  obtain ⟨_, _, ⟨T25, L25, k25, n25⟩, -, X25, ⟨Lc25, hQ25, l25, y25, z25⟩, st25⟩ := X22.virtualBack hx (y := (⟨"com/example/tributary/tributary/Tuple8", "getT1", "()Ljava/lang/Object;"⟩ : MethodName)) (z := (⟨"com/example/tributary/tributary/Tuple8", "getT1", "()Ljava/lang/Object;"⟩ : MethodName)) hown (mvT hZ (hw _ (List.mem_of_getElem? (i := 51) rfl))) (mvT hZ (hw _ (List.mem_of_getElem? (i := 52) rfl))) (notFace_of_selects (args := #[]) (mvT hZ (hw _ (List.mem_of_getElem? (i := 54) rfl)))) (mvT hZ (hw _ (List.mem_of_getElem? (i := 54) rfl))) (mvT hZ (hw _ (List.mem_of_getElem? (i := 53) rfl))) (by decide) (backOf (W := 0) (tup_get l Z a0 hw [] b9 x1 T22.heap n0 (Nat.le_trans Z0 K22.1) (((F10q_t1.keep K11q nin0).keep (Keep.of_wr W21) (ninS (Nat.ne_of_lt (Nat.lt_of_lt_of_le E10q.lt sz_r11)) nin0)).keep K22q nin0) r_x1) hZ (hw _ (List.mem_of_getElem? (i := 55) rfl)) (hw _ (List.mem_of_getElem? (i := 14) rfl)) (by decide) (by decide)) q25a q25c (g := (mkF m 253 #[.val (.int p0), .val (.int p1), .val (.int p2), .val x1, .val x2, .val x3, .val x4, .val x5, .val x6, .val x7, .val x8, .val (.ref b9), .val (.ref r11), .val (.int (1 : Int32)), .val (.ref r22)] [(.ref b9)])) rfl (by rw [hml]; rfl) (Steps.refl _) (argsL := []) (rest := []) (lenOf pd___Ljava_lang_Object_ rfl) rfl (by show 2 * 0 + _ ≤ _; exact Nat.le_of_eq rfl) (hb hby at_253) (fun _ _ => ⟨rfl, rfl, (by decide : 11 + 0 ≤ _), (by decide : 32 + 0 ≤ _)⟩)
  dsimp only [Pt.U, Pt.locs, Pt.cells, Pt.slots] at X25 l25 y25 z25 st25 hQ25
  subst l25 y25 z25
  obtain ⟨rfl, N25q, e25⟩ := hQ25
  have N25 := Fr.app N22 N25q
  obtain ⟨cl26, Ar26, q26, s26, m26, H26, F26⟩ := (id V22q)
  have hin26 : ¬ ((7 : Int32) < 0 ∨ cl26.slots.size ≤ ((7 : Int32)).toNatClampNeg) := inb_of s26 ⟨by decide, by decide⟩
  have hat26 : cl26.slots[((7 : Int32)).toNatClampNeg]? = some x8 := H26.at hin26 rfl
  obtain ⟨fs, hr, hrun, hended, hW, hsame⟩ := X25.leave (v := some (.int (1 : Int32))) (fun h => by rw [Bd.returns] at h; cases h)
  refine ⟨_, _, pre0 _ ?_, hrun, hended, _, _, rfl, ?_, ⟨_, rfl⟩, hW, hsame.mono (by decide) (by decide)⟩
  · show Steps p.tables e below (s₁.setTop (mkF m 0 #[.val (.int p0), .val (.int p1), .val (.int p2), .unset, .unset, .unset, .unset, .unset, .unset, .unset, .unset, .unset, .unset, .unset, .unset] [])) _
    refine XS.iloadN X0.here hx rfl (hb hby at_0) rfl ?_
    show Steps p.tables e below (s₁.setTop (mkF m 1 #[.val (.int p0), .val (.int p1), .val (.int p2), .unset, .unset, .unset, .unset, .unset, .unset, .unset, .unset, .unset, .unset, .unset, .unset] [(.int p2)])) _
    refine XS.iconst X0.here hx rfl (hb hby at_1) ?_
    show Steps p.tables e below (s₁.setTop (mkF m 2 #[.val (.int p0), .val (.int p1), .val (.int p2), .unset, .unset, .unset, .unset, .unset, .unset, .unset, .unset, .unset, .unset, .unset, .unset] [(.int (0 : Int32)), (.int p2)])) _
    refine XS.iloadN X0.here hx rfl (hb hby at_2) rfl ?_
    show Steps p.tables e below (s₁.setTop (mkF m 3 #[.val (.int p0), .val (.int p1), .val (.int p2), .unset, .unset, .unset, .unset, .unset, .unset, .unset, .unset, .unset, .unset, .unset, .unset] [(.int p0), (.int (0 : Int32)), (.int p2)])) _
    refine XS.iconst X0.here hx rfl (hb hby at_3) ?_
    show Steps p.tables e below (s₁.setTop (mkF m 4 #[.val (.int p0), .val (.int p1), .val (.int p2), .unset, .unset, .unset, .unset, .unset, .unset, .unset, .unset, .unset, .unset, .unset, .unset] [(.int (0 : Int32)), (.int p0), (.int (0 : Int32)), (.int p2)])) _
    refine st1 _ ?_
    show Steps p.tables e below (T1.setTop (mkF m 7 #[.val (.int p0), .val (.int p1), .val (.int p2), .unset, .unset, .unset, .unset, .unset, .unset, .unset, .unset, .unset, .unset, .unset, .unset] [x1])) _
    refine XS.astoreN X1.here hx rfl (hb hby at_7) rfl r_x1 (l' := #[.val (.int p0), .val (.int p1), .val (.int p2), .val x1, .unset, .unset, .unset, .unset, .unset, .unset, .unset, .unset, .unset, .unset, .unset]) (XS.store1 rfl (Or.inl rfl) c_x1) ?_
    show Steps p.tables e below (T1.setTop (mkF m 8 #[.val (.int p0), .val (.int p1), .val (.int p2), .val x1, .unset, .unset, .unset, .unset, .unset, .unset, .unset, .unset, .unset, .unset, .unset] [])) _
    refine XS.iloadN X1.here hx rfl (hb hby at_8) rfl ?_
    show Steps p.tables e below (T1.setTop (mkF m 9 #[.val (.int p0), .val (.int p1), .val (.int p2), .val x1, .unset, .unset, .unset, .unset, .unset, .unset, .unset, .unset, .unset, .unset, .unset] [(.int p2)])) _
    refine XS.iconst X1.here hx rfl (hb hby at_9) ?_
    show Steps p.tables e below (T1.setTop (mkF m 10 #[.val (.int p0), .val (.int p1), .val (.int p2), .val x1, .unset, .unset, .unset, .unset, .unset, .unset, .unset, .unset, .unset, .unset, .unset] [(.int (1 : Int32)), (.int p2)])) _
    refine XS.iloadN X1.here hx rfl (hb hby at_10) rfl ?_
    show Steps p.tables e below (T1.setTop (mkF m 11 #[.val (.int p0), .val (.int p1), .val (.int p2), .val x1, .unset, .unset, .unset, .unset, .unset, .unset, .unset, .unset, .unset, .unset, .unset] [(.int p0), (.int (1 : Int32)), (.int p2)])) _
    refine XS.iconst X1.here hx rfl (hb hby at_11) ?_
    show Steps p.tables e below (T1.setTop (mkF m 12 #[.val (.int p0), .val (.int p1), .val (.int p2), .val x1, .unset, .unset, .unset, .unset, .unset, .unset, .unset, .unset, .unset, .unset, .unset] [(.int (1 : Int32)), (.int p0), (.int (1 : Int32)), (.int p2)])) _
    refine st2 _ ?_
    show Steps p.tables e below (T2.setTop (mkF m 15 #[.val (.int p0), .val (.int p1), .val (.int p2), .val x1, .unset, .unset, .unset, .unset, .unset, .unset, .unset, .unset, .unset, .unset, .unset] [x2])) _
    refine XS.astore X2.here hx rfl (hb hby at_15) rfl r_x2 (l' := #[.val (.int p0), .val (.int p1), .val (.int p2), .val x1, .val x2, .unset, .unset, .unset, .unset, .unset, .unset, .unset, .unset, .unset, .unset]) (XS.store1 rfl (Or.inl rfl) c_x2) ?_
    show Steps p.tables e below (T2.setTop (mkF m 17 #[.val (.int p0), .val (.int p1), .val (.int p2), .val x1, .val x2, .unset, .unset, .unset, .unset, .unset, .unset, .unset, .unset, .unset, .unset] [])) _
    refine XS.iloadN X2.here hx rfl (hb hby at_17) rfl ?_
    show Steps p.tables e below (T2.setTop (mkF m 18 #[.val (.int p0), .val (.int p1), .val (.int p2), .val x1, .val x2, .unset, .unset, .unset, .unset, .unset, .unset, .unset, .unset, .unset, .unset] [(.int p2)])) _
    refine XS.iconst X2.here hx rfl (hb hby at_18) ?_
    show Steps p.tables e below (T2.setTop (mkF m 19 #[.val (.int p0), .val (.int p1), .val (.int p2), .val x1, .val x2, .unset, .unset, .unset, .unset, .unset, .unset, .unset, .unset, .unset, .unset] [(.int (2 : Int32)), (.int p2)])) _
    refine XS.iloadN X2.here hx rfl (hb hby at_19) rfl ?_
    show Steps p.tables e below (T2.setTop (mkF m 20 #[.val (.int p0), .val (.int p1), .val (.int p2), .val x1, .val x2, .unset, .unset, .unset, .unset, .unset, .unset, .unset, .unset, .unset, .unset] [(.int p0), (.int (2 : Int32)), (.int p2)])) _
    refine XS.iconst X2.here hx rfl (hb hby at_20) ?_
    show Steps p.tables e below (T2.setTop (mkF m 21 #[.val (.int p0), .val (.int p1), .val (.int p2), .val x1, .val x2, .unset, .unset, .unset, .unset, .unset, .unset, .unset, .unset, .unset, .unset] [(.int (2 : Int32)), (.int p0), (.int (2 : Int32)), (.int p2)])) _
    refine st3 _ ?_
    show Steps p.tables e below (T3.setTop (mkF m 24 #[.val (.int p0), .val (.int p1), .val (.int p2), .val x1, .val x2, .unset, .unset, .unset, .unset, .unset, .unset, .unset, .unset, .unset, .unset] [x3])) _
    refine XS.astore X3.here hx rfl (hb hby at_24) rfl r_x3 (l' := #[.val (.int p0), .val (.int p1), .val (.int p2), .val x1, .val x2, .val x3, .unset, .unset, .unset, .unset, .unset, .unset, .unset, .unset, .unset]) (XS.store1 rfl (Or.inl rfl) c_x3) ?_
    show Steps p.tables e below (T3.setTop (mkF m 26 #[.val (.int p0), .val (.int p1), .val (.int p2), .val x1, .val x2, .val x3, .unset, .unset, .unset, .unset, .unset, .unset, .unset, .unset, .unset] [])) _
    refine XS.iloadN X3.here hx rfl (hb hby at_26) rfl ?_
    show Steps p.tables e below (T3.setTop (mkF m 27 #[.val (.int p0), .val (.int p1), .val (.int p2), .val x1, .val x2, .val x3, .unset, .unset, .unset, .unset, .unset, .unset, .unset, .unset, .unset] [(.int p2)])) _
    refine XS.iconst X3.here hx rfl (hb hby at_27) ?_
    show Steps p.tables e below (T3.setTop (mkF m 28 #[.val (.int p0), .val (.int p1), .val (.int p2), .val x1, .val x2, .val x3, .unset, .unset, .unset, .unset, .unset, .unset, .unset, .unset, .unset] [(.int (3 : Int32)), (.int p2)])) _
    refine XS.iloadN X3.here hx rfl (hb hby at_28) rfl ?_
    show Steps p.tables e below (T3.setTop (mkF m 29 #[.val (.int p0), .val (.int p1), .val (.int p2), .val x1, .val x2, .val x3, .unset, .unset, .unset, .unset, .unset, .unset, .unset, .unset, .unset] [(.int p0), (.int (3 : Int32)), (.int p2)])) _
    refine XS.iconst X3.here hx rfl (hb hby at_29) ?_
    show Steps p.tables e below (T3.setTop (mkF m 30 #[.val (.int p0), .val (.int p1), .val (.int p2), .val x1, .val x2, .val x3, .unset, .unset, .unset, .unset, .unset, .unset, .unset, .unset, .unset] [(.int (3 : Int32)), (.int p0), (.int (3 : Int32)), (.int p2)])) _
    refine st4 _ ?_
    show Steps p.tables e below (T4.setTop (mkF m 33 #[.val (.int p0), .val (.int p1), .val (.int p2), .val x1, .val x2, .val x3, .unset, .unset, .unset, .unset, .unset, .unset, .unset, .unset, .unset] [x4])) _
    refine XS.astore X4.here hx rfl (hb hby at_33) rfl r_x4 (l' := #[.val (.int p0), .val (.int p1), .val (.int p2), .val x1, .val x2, .val x3, .val x4, .unset, .unset, .unset, .unset, .unset, .unset, .unset, .unset]) (XS.store1 rfl (Or.inl rfl) c_x4) ?_
    show Steps p.tables e below (T4.setTop (mkF m 35 #[.val (.int p0), .val (.int p1), .val (.int p2), .val x1, .val x2, .val x3, .val x4, .unset, .unset, .unset, .unset, .unset, .unset, .unset, .unset] [])) _
    refine XS.iloadN X4.here hx rfl (hb hby at_35) rfl ?_
    show Steps p.tables e below (T4.setTop (mkF m 36 #[.val (.int p0), .val (.int p1), .val (.int p2), .val x1, .val x2, .val x3, .val x4, .unset, .unset, .unset, .unset, .unset, .unset, .unset, .unset] [(.int p2)])) _
    refine XS.iconst X4.here hx rfl (hb hby at_36) ?_
    show Steps p.tables e below (T4.setTop (mkF m 37 #[.val (.int p0), .val (.int p1), .val (.int p2), .val x1, .val x2, .val x3, .val x4, .unset, .unset, .unset, .unset, .unset, .unset, .unset, .unset] [(.int (4 : Int32)), (.int p2)])) _
    refine XS.iloadN X4.here hx rfl (hb hby at_37) rfl ?_
    show Steps p.tables e below (T4.setTop (mkF m 38 #[.val (.int p0), .val (.int p1), .val (.int p2), .val x1, .val x2, .val x3, .val x4, .unset, .unset, .unset, .unset, .unset, .unset, .unset, .unset] [(.int p1), (.int (4 : Int32)), (.int p2)])) _
    refine XS.iconst X4.here hx rfl (hb hby at_38) ?_
    show Steps p.tables e below (T4.setTop (mkF m 39 #[.val (.int p0), .val (.int p1), .val (.int p2), .val x1, .val x2, .val x3, .val x4, .unset, .unset, .unset, .unset, .unset, .unset, .unset, .unset] [(.int (4 : Int32)), (.int p1), (.int (4 : Int32)), (.int p2)])) _
    refine st5 _ ?_
    show Steps p.tables e below (T5.setTop (mkF m 42 #[.val (.int p0), .val (.int p1), .val (.int p2), .val x1, .val x2, .val x3, .val x4, .unset, .unset, .unset, .unset, .unset, .unset, .unset, .unset] [x5])) _
    refine XS.astore X5.here hx rfl (hb hby at_42) rfl r_x5 (l' := #[.val (.int p0), .val (.int p1), .val (.int p2), .val x1, .val x2, .val x3, .val x4, .val x5, .unset, .unset, .unset, .unset, .unset, .unset, .unset]) (XS.store1 rfl (Or.inl rfl) c_x5) ?_
    show Steps p.tables e below (T5.setTop (mkF m 44 #[.val (.int p0), .val (.int p1), .val (.int p2), .val x1, .val x2, .val x3, .val x4, .val x5, .unset, .unset, .unset, .unset, .unset, .unset, .unset] [])) _
    refine XS.iloadN X5.here hx rfl (hb hby at_44) rfl ?_
    show Steps p.tables e below (T5.setTop (mkF m 45 #[.val (.int p0), .val (.int p1), .val (.int p2), .val x1, .val x2, .val x3, .val x4, .val x5, .unset, .unset, .unset, .unset, .unset, .unset, .unset] [(.int p2)])) _
    refine XS.iconst X5.here hx rfl (hb hby at_45) ?_
    show Steps p.tables e below (T5.setTop (mkF m 46 #[.val (.int p0), .val (.int p1), .val (.int p2), .val x1, .val x2, .val x3, .val x4, .val x5, .unset, .unset, .unset, .unset, .unset, .unset, .unset] [(.int (5 : Int32)), (.int p2)])) _
    refine XS.iloadN X5.here hx rfl (hb hby at_46) rfl ?_
    show Steps p.tables e below (T5.setTop (mkF m 47 #[.val (.int p0), .val (.int p1), .val (.int p2), .val x1, .val x2, .val x3, .val x4, .val x5, .unset, .unset, .unset, .unset, .unset, .unset, .unset] [(.int p1), (.int (5 : Int32)), (.int p2)])) _
    refine XS.iconst X5.here hx rfl (hb hby at_47) ?_
    show Steps p.tables e below (T5.setTop (mkF m 48 #[.val (.int p0), .val (.int p1), .val (.int p2), .val x1, .val x2, .val x3, .val x4, .val x5, .unset, .unset, .unset, .unset, .unset, .unset, .unset] [(.int (5 : Int32)), (.int p1), (.int (5 : Int32)), (.int p2)])) _
    refine st6 _ ?_
    show Steps p.tables e below (T6.setTop (mkF m 51 #[.val (.int p0), .val (.int p1), .val (.int p2), .val x1, .val x2, .val x3, .val x4, .val x5, .unset, .unset, .unset, .unset, .unset, .unset, .unset] [x6])) _
    refine XS.astore X6.here hx rfl (hb hby at_51) rfl r_x6 (l' := #[.val (.int p0), .val (.int p1), .val (.int p2), .val x1, .val x2, .val x3, .val x4, .val x5, .val x6, .unset, .unset, .unset, .unset, .unset, .unset]) (XS.store1 rfl (Or.inl rfl) c_x6) ?_
    show Steps p.tables e below (T6.setTop (mkF m 53 #[.val (.int p0), .val (.int p1), .val (.int p2), .val x1, .val x2, .val x3, .val x4, .val x5, .val x6, .unset, .unset, .unset, .unset, .unset, .unset] [])) _
    refine XS.iloadN X6.here hx rfl (hb hby at_53) rfl ?_
    show Steps p.tables e below (T6.setTop (mkF m 54 #[.val (.int p0), .val (.int p1), .val (.int p2), .val x1, .val x2, .val x3, .val x4, .val x5, .val x6, .unset, .unset, .unset, .unset, .unset, .unset] [(.int p2)])) _
    refine XS.bipush X6.here hx rfl (hb hby at_54) ?_
    show Steps p.tables e below (T6.setTop (mkF m 56 #[.val (.int p0), .val (.int p1), .val (.int p2), .val x1, .val x2, .val x3, .val x4, .val x5, .val x6, .unset, .unset, .unset, .unset, .unset, .unset] [(.int (6 : Int32)), (.int p2)])) _
    refine XS.iloadN X6.here hx rfl (hb hby at_56) rfl ?_
    show Steps p.tables e below (T6.setTop (mkF m 57 #[.val (.int p0), .val (.int p1), .val (.int p2), .val x1, .val x2, .val x3, .val x4, .val x5, .val x6, .unset, .unset, .unset, .unset, .unset, .unset] [(.int p1), (.int (6 : Int32)), (.int p2)])) _
    refine XS.bipush X6.here hx rfl (hb hby at_57) ?_
    show Steps p.tables e below (T6.setTop (mkF m 59 #[.val (.int p0), .val (.int p1), .val (.int p2), .val x1, .val x2, .val x3, .val x4, .val x5, .val x6, .unset, .unset, .unset, .unset, .unset, .unset] [(.int (6 : Int32)), (.int p1), (.int (6 : Int32)), (.int p2)])) _
    refine st7 _ ?_
    show Steps p.tables e below (T7.setTop (mkF m 62 #[.val (.int p0), .val (.int p1), .val (.int p2), .val x1, .val x2, .val x3, .val x4, .val x5, .val x6, .unset, .unset, .unset, .unset, .unset, .unset] [x7])) _
    refine XS.astore X7.here hx rfl (hb hby at_62) rfl r_x7 (l' := #[.val (.int p0), .val (.int p1), .val (.int p2), .val x1, .val x2, .val x3, .val x4, .val x5, .val x6, .val x7, .unset, .unset, .unset, .unset, .unset]) (XS.store1 rfl (Or.inl rfl) c_x7) ?_
    show Steps p.tables e below (T7.setTop (mkF m 64 #[.val (.int p0), .val (.int p1), .val (.int p2), .val x1, .val x2, .val x3, .val x4, .val x5, .val x6, .val x7, .unset, .unset, .unset, .unset, .unset] [])) _
    refine XS.iloadN X7.here hx rfl (hb hby at_64) rfl ?_
    show Steps p.tables e below (T7.setTop (mkF m 65 #[.val (.int p0), .val (.int p1), .val (.int p2), .val x1, .val x2, .val x3, .val x4, .val x5, .val x6, .val x7, .unset, .unset, .unset, .unset, .unset] [(.int p2)])) _
    refine XS.bipush X7.here hx rfl (hb hby at_65) ?_
    show Steps p.tables e below (T7.setTop (mkF m 67 #[.val (.int p0), .val (.int p1), .val (.int p2), .val x1, .val x2, .val x3, .val x4, .val x5, .val x6, .val x7, .unset, .unset, .unset, .unset, .unset] [(.int (7 : Int32)), (.int p2)])) _
    refine XS.iloadN X7.here hx rfl (hb hby at_67) rfl ?_
    show Steps p.tables e below (T7.setTop (mkF m 68 #[.val (.int p0), .val (.int p1), .val (.int p2), .val x1, .val x2, .val x3, .val x4, .val x5, .val x6, .val x7, .unset, .unset, .unset, .unset, .unset] [(.int p1), (.int (7 : Int32)), (.int p2)])) _
    refine XS.bipush X7.here hx rfl (hb hby at_68) ?_
    show Steps p.tables e below (T7.setTop (mkF m 70 #[.val (.int p0), .val (.int p1), .val (.int p2), .val x1, .val x2, .val x3, .val x4, .val x5, .val x6, .val x7, .unset, .unset, .unset, .unset, .unset] [(.int (7 : Int32)), (.int p1), (.int (7 : Int32)), (.int p2)])) _
    refine st8 _ ?_
    show Steps p.tables e below (T8.setTop (mkF m 73 #[.val (.int p0), .val (.int p1), .val (.int p2), .val x1, .val x2, .val x3, .val x4, .val x5, .val x6, .val x7, .unset, .unset, .unset, .unset, .unset] [x8])) _
    refine XS.astore X8.here hx rfl (hb hby at_73) rfl r_x8 (l' := #[.val (.int p0), .val (.int p1), .val (.int p2), .val x1, .val x2, .val x3, .val x4, .val x5, .val x6, .val x7, .val x8, .unset, .unset, .unset, .unset]) (XS.store1 rfl (Or.inl rfl) c_x8) ?_
    show Steps p.tables e below (T8.setTop (mkF m 75 #[.val (.int p0), .val (.int p1), .val (.int p2), .val x1, .val x2, .val x3, .val x4, .val x5, .val x6, .val x7, .val x8, .unset, .unset, .unset, .unset] [])) _
    refine st9 _ ?_
    show Steps p.tables e below (T9.setTop (mkF m 78 #[.val (.int p0), .val (.int p1), .val (.int p2), .val x1, .val x2, .val x3, .val x4, .val x5, .val x6, .val x7, .val x8, .unset, .unset, .unset, .unset] [(.ref b9)])) _
    refine XS.dup X9.here hx rfl (hb hby at_78) rfl rfl ?_
    show Steps p.tables e below (T9.setTop (mkF m 79 #[.val (.int p0), .val (.int p1), .val (.int p2), .val x1, .val x2, .val x3, .val x4, .val x5, .val x6, .val x7, .val x8, .unset, .unset, .unset, .unset] [(.ref b9), (.ref b9)])) _
    refine XS.aloadN X9.here hx rfl (hb hby at_79) rfl r_x1 ?_
    show Steps p.tables e below (T9.setTop (mkF m 80 #[.val (.int p0), .val (.int p1), .val (.int p2), .val x1, .val x2, .val x3, .val x4, .val x5, .val x6, .val x7, .val x8, .unset, .unset, .unset, .unset] [x1, (.ref b9), (.ref b9)])) _
    refine XS.aload X9.here hx rfl (hb hby at_80) rfl r_x2 ?_
    show Steps p.tables e below (T9.setTop (mkF m 82 #[.val (.int p0), .val (.int p1), .val (.int p2), .val x1, .val x2, .val x3, .val x4, .val x5, .val x6, .val x7, .val x8, .unset, .unset, .unset, .unset] [x2, x1, (.ref b9), (.ref b9)])) _
    refine XS.aload X9.here hx rfl (hb hby at_82) rfl r_x3 ?_
    show Steps p.tables e below (T9.setTop (mkF m 84 #[.val (.int p0), .val (.int p1), .val (.int p2), .val x1, .val x2, .val x3, .val x4, .val x5, .val x6, .val x7, .val x8, .unset, .unset, .unset, .unset] [x3, x2, x1, (.ref b9), (.ref b9)])) _
    refine XS.aload X9.here hx rfl (hb hby at_84) rfl r_x4 ?_
    show Steps p.tables e below (T9.setTop (mkF m 86 #[.val (.int p0), .val (.int p1), .val (.int p2), .val x1, .val x2, .val x3, .val x4, .val x5, .val x6, .val x7, .val x8, .unset, .unset, .unset, .unset] [x4, x3, x2, x1, (.ref b9), (.ref b9)])) _
    refine XS.aload X9.here hx rfl (hb hby at_86) rfl r_x5 ?_
    show Steps p.tables e below (T9.setTop (mkF m 88 #[.val (.int p0), .val (.int p1), .val (.int p2), .val x1, .val x2, .val x3, .val x4, .val x5, .val x6, .val x7, .val x8, .unset, .unset, .unset, .unset] [x5, x4, x3, x2, x1, (.ref b9), (.ref b9)])) _
    refine XS.aload X9.here hx rfl (hb hby at_88) rfl r_x6 ?_
    show Steps p.tables e below (T9.setTop (mkF m 90 #[.val (.int p0), .val (.int p1), .val (.int p2), .val x1, .val x2, .val x3, .val x4, .val x5, .val x6, .val x7, .val x8, .unset, .unset, .unset, .unset] [x6, x5, x4, x3, x2, x1, (.ref b9), (.ref b9)])) _
    refine XS.aload X9.here hx rfl (hb hby at_90) rfl r_x7 ?_
    show Steps p.tables e below (T9.setTop (mkF m 92 #[.val (.int p0), .val (.int p1), .val (.int p2), .val x1, .val x2, .val x3, .val x4, .val x5, .val x6, .val x7, .val x8, .unset, .unset, .unset, .unset] [x7, x6, x5, x4, x3, x2, x1, (.ref b9), (.ref b9)])) _
    refine XS.aload X9.here hx rfl (hb hby at_92) rfl r_x8 ?_
    show Steps p.tables e below (T9.setTop (mkF m 94 #[.val (.int p0), .val (.int p1), .val (.int p2), .val x1, .val x2, .val x3, .val x4, .val x5, .val x6, .val x7, .val x8, .unset, .unset, .unset, .unset] [x8, x7, x6, x5, x4, x3, x2, x1, (.ref b9), (.ref b9)])) _
    refine st10.trans ?_
    show Steps p.tables e below (T10.setTop (mkF m 97 #[.val (.int p0), .val (.int p1), .val (.int p2), .val x1, .val x2, .val x3, .val x4, .val x5, .val x6, .val x7, .val x8, .unset, .unset, .unset, .unset] [(.ref b9)])) _
    refine XS.astore X10.here hx rfl (hb hby at_97) rfl rfl (l' := #[.val (.int p0), .val (.int p1), .val (.int p2), .val x1, .val x2, .val x3, .val x4, .val x5, .val x6, .val x7, .val x8, .val (.ref b9), .unset, .unset, .unset]) rfl ?_
    show Steps p.tables e below (T10.setTop (mkF m 99 #[.val (.int p0), .val (.int p1), .val (.int p2), .val x1, .val x2, .val x3, .val x4, .val x5, .val x6, .val x7, .val x8, .val (.ref b9), .unset, .unset, .unset] [])) _
    refine XS.aload X10.here hx rfl (hb hby at_99) rfl rfl ?_
    show Steps p.tables e below (T10.setTop (mkF m 101 #[.val (.int p0), .val (.int p1), .val (.int p2), .val x1, .val x2, .val x3, .val x4, .val x5, .val x6, .val x7, .val x8, .val (.ref b9), .unset, .unset, .unset] [(.ref b9)])) _
    refine st11.trans ?_
    show Steps p.tables e below (T11.setTop (mkF m 104 #[.val (.int p0), .val (.int p1), .val (.int p2), .val x1, .val x2, .val x3, .val x4, .val x5, .val x6, .val x7, .val x8, .val (.ref b9), .unset, .unset, .unset] [(.ref r11)])) _
    refine XS.astore X11.here hx rfl (hb hby at_104) rfl rfl (l' := #[.val (.int p0), .val (.int p1), .val (.int p2), .val x1, .val x2, .val x3, .val x4, .val x5, .val x6, .val x7, .val x8, .val (.ref b9), .val (.ref r11), .unset, .unset]) rfl ?_
    show Steps p.tables e below (T11.setTop (mkF m 106 #[.val (.int p0), .val (.int p1), .val (.int p2), .val x1, .val x2, .val x3, .val x4, .val x5, .val x6, .val x7, .val x8, .val (.ref b9), .val (.ref r11), .unset, .unset] [])) _
    refine XS.aload X11.here hx rfl (hb hby at_106) rfl rfl ?_
    show Steps p.tables e below (T11.setTop (mkF m 108 #[.val (.int p0), .val (.int p1), .val (.int p2), .val x1, .val x2, .val x3, .val x4, .val x5, .val x6, .val x7, .val x8, .val (.ref b9), .val (.ref r11), .unset, .unset] [(.ref r11)])) _
    refine XS.ifnullNo X11.here hx rfl (hb hby at_108) rfl ?_
    show Steps p.tables e below (T11.setTop (mkF m 111 #[.val (.int p0), .val (.int p1), .val (.int p2), .val x1, .val x2, .val x3, .val x4, .val x5, .val x6, .val x7, .val x8, .val (.ref b9), .val (.ref r11), .unset, .unset] [])) _
    refine XS.aload X11.here hx rfl (hb hby at_111) rfl rfl ?_
    show Steps p.tables e below (T11.setTop (mkF m 113 #[.val (.int p0), .val (.int p1), .val (.int p2), .val x1, .val x2, .val x3, .val x4, .val x5, .val x6, .val x7, .val x8, .val (.ref b9), .val (.ref r11), .unset, .unset] [(.ref r11)])) _
    refine X11.arraylength hx Ar12.1 (State.isArrayOf_alike hZ.alike Ar12.2.1) (g := (mkF m 113 #[.val (.int p0), .val (.int p1), .val (.int p2), .val x1, .val x2, .val x3, .val x4, .val x5, .val x6, .val x7, .val x8, .val (.ref b9), .val (.ref r11), .unset, .unset] [(.ref r11)])) rfl rfl (hb hby at_113) _ ?_
    rw [len_of s12 m12]
    show Steps p.tables e below (T11.setTop (mkF m 114 #[.val (.int p0), .val (.int p1), .val (.int p2), .val x1, .val x2, .val x3, .val x4, .val x5, .val x6, .val x7, .val x8, .val (.ref b9), .val (.ref r11), .unset, .unset] [(.int (8 : Int32))])) _
    refine XS.bipush X11.here hx rfl (hb hby at_114) ?_
    show Steps p.tables e below (T11.setTop (mkF m 116 #[.val (.int p0), .val (.int p1), .val (.int p2), .val x1, .val x2, .val x3, .val x4, .val x5, .val x6, .val x7, .val x8, .val (.ref b9), .val (.ref r11), .unset, .unset] [(.int (8 : Int32)), (.int (8 : Int32))])) _
    refine XS.icmpYes X11.here hx rfl (pc0 := 116) (pc' := 121) rfl (hb hby at_116) rfl (teq (by decide : (8 : Int32) = (8 : Int32))).1 (by decide) (by decide) ?_
    show Steps p.tables e below (T11.setTop (mkF m 121 #[.val (.int p0), .val (.int p1), .val (.int p2), .val x1, .val x2, .val x3, .val x4, .val x5, .val x6, .val x7, .val x8, .val (.ref b9), .val (.ref r11), .unset, .unset] [])) _
    refine XS.aload X11.here hx rfl (hb hby at_121) rfl rfl ?_
    show Steps p.tables e below (T11.setTop (mkF m 123 #[.val (.int p0), .val (.int p1), .val (.int p2), .val x1, .val x2, .val x3, .val x4, .val x5, .val x6, .val x7, .val x8, .val (.ref b9), .val (.ref r11), .unset, .unset] [(.ref r11)])) _
    refine XS.iconst X11.here hx rfl (hb hby at_123) ?_
    show Steps p.tables e below (T11.setTop (mkF m 124 #[.val (.int p0), .val (.int p1), .val (.int p2), .val x1, .val x2, .val x3, .val x4, .val x5, .val x6, .val x7, .val x8, .val (.ref b9), .val (.ref r11), .unset, .unset] [(.int (0 : Int32)), (.ref r11)])) _
    refine X11.aaload hx (j := (0 : Int32)) (v := x1) Ar13.1 (State.isArrayOf_alike hZ.alike Ar13.2.1) rfl Ar13.2.2 hin13 hat13 (g := (mkF m 124 #[.val (.int p0), .val (.int p1), .val (.int p2), .val x1, .val x2, .val x3, .val x4, .val x5, .val x6, .val x7, .val x8, .val (.ref b9), .val (.ref r11), .unset, .unset] [(.int (0 : Int32)), (.ref r11)])) rfl rfl (hb hby at_124) _ ?_
    show Steps p.tables e below (T11.setTop (mkF m 125 #[.val (.int p0), .val (.int p1), .val (.int p2), .val x1, .val x2, .val x3, .val x4, .val x5, .val x6, .val x7, .val x8, .val (.ref b9), .val (.ref r11), .unset, .unset] [x1])) _
    refine XS.aloadN X11.here hx rfl (hb hby at_125) rfl r_x1 ?_
    show Steps p.tables e below (T11.setTop (mkF m 126 #[.val (.int p0), .val (.int p1), .val (.int p2), .val x1, .val x2, .val x3, .val x4, .val x5, .val x6, .val x7, .val x8, .val (.ref b9), .val (.ref r11), .unset, .unset] [x1, x1])) _
    refine Jvm.RoadKit.acmp (g := (mkF m 126 #[.val (.int p0), .val (.int p1), .val (.int p2), .val x1, .val x2, .val x3, .val x4, .val x5, .val x6, .val x7, .val x8, .val (.ref b9), .val (.ref r11), .unset, .unset] [x1, x1])) X11 hx rfl r_x1 r_x1 (pc0 := 126) (pc' := 129) (same := true) rfl (hb hby at_126) rfl (decide_eq_true rfl) (by decide) (by decide) ?_
    show Steps p.tables e below (T11.setTop (mkF m 129 #[.val (.int p0), .val (.int p1), .val (.int p2), .val x1, .val x2, .val x3, .val x4, .val x5, .val x6, .val x7, .val x8, .val (.ref b9), .val (.ref r11), .unset, .unset] [])) _
    refine XS.aload X11.here hx rfl (hb hby at_129) rfl rfl ?_
    show Steps p.tables e below (T11.setTop (mkF m 131 #[.val (.int p0), .val (.int p1), .val (.int p2), .val x1, .val x2, .val x3, .val x4, .val x5, .val x6, .val x7, .val x8, .val (.ref b9), .val (.ref r11), .unset, .unset] [(.ref r11)])) _
    refine XS.iconst X11.here hx rfl (hb hby at_131) ?_
    show Steps p.tables e below (T11.setTop (mkF m 132 #[.val (.int p0), .val (.int p1), .val (.int p2), .val x1, .val x2, .val x3, .val x4, .val x5, .val x6, .val x7, .val x8, .val (.ref b9), .val (.ref r11), .unset, .unset] [(.int (1 : Int32)), (.ref r11)])) _
    refine X11.aaload hx (j := (1 : Int32)) (v := x2) Ar14.1 (State.isArrayOf_alike hZ.alike Ar14.2.1) rfl Ar14.2.2 hin14 hat14 (g := (mkF m 132 #[.val (.int p0), .val (.int p1), .val (.int p2), .val x1, .val x2, .val x3, .val x4, .val x5, .val x6, .val x7, .val x8, .val (.ref b9), .val (.ref r11), .unset, .unset] [(.int (1 : Int32)), (.ref r11)])) rfl rfl (hb hby at_132) _ ?_
    show Steps p.tables e below (T11.setTop (mkF m 133 #[.val (.int p0), .val (.int p1), .val (.int p2), .val x1, .val x2, .val x3, .val x4, .val x5, .val x6, .val x7, .val x8, .val (.ref b9), .val (.ref r11), .unset, .unset] [x2])) _
    refine XS.aload X11.here hx rfl (hb hby at_133) rfl r_x2 ?_
    show Steps p.tables e below (T11.setTop (mkF m 135 #[.val (.int p0), .val (.int p1), .val (.int p2), .val x1, .val x2, .val x3, .val x4, .val x5, .val x6, .val x7, .val x8, .val (.ref b9), .val (.ref r11), .unset, .unset] [x2, x2])) _
    refine Jvm.RoadKit.acmp (g := (mkF m 135 #[.val (.int p0), .val (.int p1), .val (.int p2), .val x1, .val x2, .val x3, .val x4, .val x5, .val x6, .val x7, .val x8, .val (.ref b9), .val (.ref r11), .unset, .unset] [x2, x2])) X11 hx rfl r_x2 r_x2 (pc0 := 135) (pc' := 138) (same := true) rfl (hb hby at_135) rfl (decide_eq_true rfl) (by decide) (by decide) ?_
    show Steps p.tables e below (T11.setTop (mkF m 138 #[.val (.int p0), .val (.int p1), .val (.int p2), .val x1, .val x2, .val x3, .val x4, .val x5, .val x6, .val x7, .val x8, .val (.ref b9), .val (.ref r11), .unset, .unset] [])) _
    refine XS.aload X11.here hx rfl (hb hby at_138) rfl rfl ?_
    show Steps p.tables e below (T11.setTop (mkF m 140 #[.val (.int p0), .val (.int p1), .val (.int p2), .val x1, .val x2, .val x3, .val x4, .val x5, .val x6, .val x7, .val x8, .val (.ref b9), .val (.ref r11), .unset, .unset] [(.ref r11)])) _
    refine XS.iconst X11.here hx rfl (hb hby at_140) ?_
    show Steps p.tables e below (T11.setTop (mkF m 141 #[.val (.int p0), .val (.int p1), .val (.int p2), .val x1, .val x2, .val x3, .val x4, .val x5, .val x6, .val x7, .val x8, .val (.ref b9), .val (.ref r11), .unset, .unset] [(.int (2 : Int32)), (.ref r11)])) _
    refine X11.aaload hx (j := (2 : Int32)) (v := x3) Ar15.1 (State.isArrayOf_alike hZ.alike Ar15.2.1) rfl Ar15.2.2 hin15 hat15 (g := (mkF m 141 #[.val (.int p0), .val (.int p1), .val (.int p2), .val x1, .val x2, .val x3, .val x4, .val x5, .val x6, .val x7, .val x8, .val (.ref b9), .val (.ref r11), .unset, .unset] [(.int (2 : Int32)), (.ref r11)])) rfl rfl (hb hby at_141) _ ?_
    show Steps p.tables e below (T11.setTop (mkF m 142 #[.val (.int p0), .val (.int p1), .val (.int p2), .val x1, .val x2, .val x3, .val x4, .val x5, .val x6, .val x7, .val x8, .val (.ref b9), .val (.ref r11), .unset, .unset] [x3])) _
    refine XS.aload X11.here hx rfl (hb hby at_142) rfl r_x3 ?_
    show Steps p.tables e below (T11.setTop (mkF m 144 #[.val (.int p0), .val (.int p1), .val (.int p2), .val x1, .val x2, .val x3, .val x4, .val x5, .val x6, .val x7, .val x8, .val (.ref b9), .val (.ref r11), .unset, .unset] [x3, x3])) _
    refine Jvm.RoadKit.acmp (g := (mkF m 144 #[.val (.int p0), .val (.int p1), .val (.int p2), .val x1, .val x2, .val x3, .val x4, .val x5, .val x6, .val x7, .val x8, .val (.ref b9), .val (.ref r11), .unset, .unset] [x3, x3])) X11 hx rfl r_x3 r_x3 (pc0 := 144) (pc' := 147) (same := true) rfl (hb hby at_144) rfl (decide_eq_true rfl) (by decide) (by decide) ?_
    show Steps p.tables e below (T11.setTop (mkF m 147 #[.val (.int p0), .val (.int p1), .val (.int p2), .val x1, .val x2, .val x3, .val x4, .val x5, .val x6, .val x7, .val x8, .val (.ref b9), .val (.ref r11), .unset, .unset] [])) _
    refine XS.aload X11.here hx rfl (hb hby at_147) rfl rfl ?_
    show Steps p.tables e below (T11.setTop (mkF m 149 #[.val (.int p0), .val (.int p1), .val (.int p2), .val x1, .val x2, .val x3, .val x4, .val x5, .val x6, .val x7, .val x8, .val (.ref b9), .val (.ref r11), .unset, .unset] [(.ref r11)])) _
    refine XS.iconst X11.here hx rfl (hb hby at_149) ?_
    show Steps p.tables e below (T11.setTop (mkF m 150 #[.val (.int p0), .val (.int p1), .val (.int p2), .val x1, .val x2, .val x3, .val x4, .val x5, .val x6, .val x7, .val x8, .val (.ref b9), .val (.ref r11), .unset, .unset] [(.int (3 : Int32)), (.ref r11)])) _
    refine X11.aaload hx (j := (3 : Int32)) (v := x4) Ar16.1 (State.isArrayOf_alike hZ.alike Ar16.2.1) rfl Ar16.2.2 hin16 hat16 (g := (mkF m 150 #[.val (.int p0), .val (.int p1), .val (.int p2), .val x1, .val x2, .val x3, .val x4, .val x5, .val x6, .val x7, .val x8, .val (.ref b9), .val (.ref r11), .unset, .unset] [(.int (3 : Int32)), (.ref r11)])) rfl rfl (hb hby at_150) _ ?_
    show Steps p.tables e below (T11.setTop (mkF m 151 #[.val (.int p0), .val (.int p1), .val (.int p2), .val x1, .val x2, .val x3, .val x4, .val x5, .val x6, .val x7, .val x8, .val (.ref b9), .val (.ref r11), .unset, .unset] [x4])) _
    refine XS.aload X11.here hx rfl (hb hby at_151) rfl r_x4 ?_
    show Steps p.tables e below (T11.setTop (mkF m 153 #[.val (.int p0), .val (.int p1), .val (.int p2), .val x1, .val x2, .val x3, .val x4, .val x5, .val x6, .val x7, .val x8, .val (.ref b9), .val (.ref r11), .unset, .unset] [x4, x4])) _
    refine Jvm.RoadKit.acmp (g := (mkF m 153 #[.val (.int p0), .val (.int p1), .val (.int p2), .val x1, .val x2, .val x3, .val x4, .val x5, .val x6, .val x7, .val x8, .val (.ref b9), .val (.ref r11), .unset, .unset] [x4, x4])) X11 hx rfl r_x4 r_x4 (pc0 := 153) (pc' := 156) (same := true) rfl (hb hby at_153) rfl (decide_eq_true rfl) (by decide) (by decide) ?_
    show Steps p.tables e below (T11.setTop (mkF m 156 #[.val (.int p0), .val (.int p1), .val (.int p2), .val x1, .val x2, .val x3, .val x4, .val x5, .val x6, .val x7, .val x8, .val (.ref b9), .val (.ref r11), .unset, .unset] [])) _
    refine XS.aload X11.here hx rfl (hb hby at_156) rfl rfl ?_
    show Steps p.tables e below (T11.setTop (mkF m 158 #[.val (.int p0), .val (.int p1), .val (.int p2), .val x1, .val x2, .val x3, .val x4, .val x5, .val x6, .val x7, .val x8, .val (.ref b9), .val (.ref r11), .unset, .unset] [(.ref r11)])) _
    refine XS.iconst X11.here hx rfl (hb hby at_158) ?_
    show Steps p.tables e below (T11.setTop (mkF m 159 #[.val (.int p0), .val (.int p1), .val (.int p2), .val x1, .val x2, .val x3, .val x4, .val x5, .val x6, .val x7, .val x8, .val (.ref b9), .val (.ref r11), .unset, .unset] [(.int (4 : Int32)), (.ref r11)])) _
    refine X11.aaload hx (j := (4 : Int32)) (v := x5) Ar17.1 (State.isArrayOf_alike hZ.alike Ar17.2.1) rfl Ar17.2.2 hin17 hat17 (g := (mkF m 159 #[.val (.int p0), .val (.int p1), .val (.int p2), .val x1, .val x2, .val x3, .val x4, .val x5, .val x6, .val x7, .val x8, .val (.ref b9), .val (.ref r11), .unset, .unset] [(.int (4 : Int32)), (.ref r11)])) rfl rfl (hb hby at_159) _ ?_
    show Steps p.tables e below (T11.setTop (mkF m 160 #[.val (.int p0), .val (.int p1), .val (.int p2), .val x1, .val x2, .val x3, .val x4, .val x5, .val x6, .val x7, .val x8, .val (.ref b9), .val (.ref r11), .unset, .unset] [x5])) _
    refine XS.aload X11.here hx rfl (hb hby at_160) rfl r_x5 ?_
    show Steps p.tables e below (T11.setTop (mkF m 162 #[.val (.int p0), .val (.int p1), .val (.int p2), .val x1, .val x2, .val x3, .val x4, .val x5, .val x6, .val x7, .val x8, .val (.ref b9), .val (.ref r11), .unset, .unset] [x5, x5])) _
    refine Jvm.RoadKit.acmp (g := (mkF m 162 #[.val (.int p0), .val (.int p1), .val (.int p2), .val x1, .val x2, .val x3, .val x4, .val x5, .val x6, .val x7, .val x8, .val (.ref b9), .val (.ref r11), .unset, .unset] [x5, x5])) X11 hx rfl r_x5 r_x5 (pc0 := 162) (pc' := 165) (same := true) rfl (hb hby at_162) rfl (decide_eq_true rfl) (by decide) (by decide) ?_
    show Steps p.tables e below (T11.setTop (mkF m 165 #[.val (.int p0), .val (.int p1), .val (.int p2), .val x1, .val x2, .val x3, .val x4, .val x5, .val x6, .val x7, .val x8, .val (.ref b9), .val (.ref r11), .unset, .unset] [])) _
    refine XS.aload X11.here hx rfl (hb hby at_165) rfl rfl ?_
    show Steps p.tables e below (T11.setTop (mkF m 167 #[.val (.int p0), .val (.int p1), .val (.int p2), .val x1, .val x2, .val x3, .val x4, .val x5, .val x6, .val x7, .val x8, .val (.ref b9), .val (.ref r11), .unset, .unset] [(.ref r11)])) _
    refine XS.iconst X11.here hx rfl (hb hby at_167) ?_
    show Steps p.tables e below (T11.setTop (mkF m 168 #[.val (.int p0), .val (.int p1), .val (.int p2), .val x1, .val x2, .val x3, .val x4, .val x5, .val x6, .val x7, .val x8, .val (.ref b9), .val (.ref r11), .unset, .unset] [(.int (5 : Int32)), (.ref r11)])) _
    refine X11.aaload hx (j := (5 : Int32)) (v := x6) Ar18.1 (State.isArrayOf_alike hZ.alike Ar18.2.1) rfl Ar18.2.2 hin18 hat18 (g := (mkF m 168 #[.val (.int p0), .val (.int p1), .val (.int p2), .val x1, .val x2, .val x3, .val x4, .val x5, .val x6, .val x7, .val x8, .val (.ref b9), .val (.ref r11), .unset, .unset] [(.int (5 : Int32)), (.ref r11)])) rfl rfl (hb hby at_168) _ ?_
    show Steps p.tables e below (T11.setTop (mkF m 169 #[.val (.int p0), .val (.int p1), .val (.int p2), .val x1, .val x2, .val x3, .val x4, .val x5, .val x6, .val x7, .val x8, .val (.ref b9), .val (.ref r11), .unset, .unset] [x6])) _
    refine XS.aload X11.here hx rfl (hb hby at_169) rfl r_x6 ?_
    show Steps p.tables e below (T11.setTop (mkF m 171 #[.val (.int p0), .val (.int p1), .val (.int p2), .val x1, .val x2, .val x3, .val x4, .val x5, .val x6, .val x7, .val x8, .val (.ref b9), .val (.ref r11), .unset, .unset] [x6, x6])) _
    refine Jvm.RoadKit.acmp (g := (mkF m 171 #[.val (.int p0), .val (.int p1), .val (.int p2), .val x1, .val x2, .val x3, .val x4, .val x5, .val x6, .val x7, .val x8, .val (.ref b9), .val (.ref r11), .unset, .unset] [x6, x6])) X11 hx rfl r_x6 r_x6 (pc0 := 171) (pc' := 174) (same := true) rfl (hb hby at_171) rfl (decide_eq_true rfl) (by decide) (by decide) ?_
    show Steps p.tables e below (T11.setTop (mkF m 174 #[.val (.int p0), .val (.int p1), .val (.int p2), .val x1, .val x2, .val x3, .val x4, .val x5, .val x6, .val x7, .val x8, .val (.ref b9), .val (.ref r11), .unset, .unset] [])) _
    refine XS.aload X11.here hx rfl (hb hby at_174) rfl rfl ?_
    show Steps p.tables e below (T11.setTop (mkF m 176 #[.val (.int p0), .val (.int p1), .val (.int p2), .val x1, .val x2, .val x3, .val x4, .val x5, .val x6, .val x7, .val x8, .val (.ref b9), .val (.ref r11), .unset, .unset] [(.ref r11)])) _
    refine XS.bipush X11.here hx rfl (hb hby at_176) ?_
    show Steps p.tables e below (T11.setTop (mkF m 178 #[.val (.int p0), .val (.int p1), .val (.int p2), .val x1, .val x2, .val x3, .val x4, .val x5, .val x6, .val x7, .val x8, .val (.ref b9), .val (.ref r11), .unset, .unset] [(.int (6 : Int32)), (.ref r11)])) _
    refine X11.aaload hx (j := (6 : Int32)) (v := x7) Ar19.1 (State.isArrayOf_alike hZ.alike Ar19.2.1) rfl Ar19.2.2 hin19 hat19 (g := (mkF m 178 #[.val (.int p0), .val (.int p1), .val (.int p2), .val x1, .val x2, .val x3, .val x4, .val x5, .val x6, .val x7, .val x8, .val (.ref b9), .val (.ref r11), .unset, .unset] [(.int (6 : Int32)), (.ref r11)])) rfl rfl (hb hby at_178) _ ?_
    show Steps p.tables e below (T11.setTop (mkF m 179 #[.val (.int p0), .val (.int p1), .val (.int p2), .val x1, .val x2, .val x3, .val x4, .val x5, .val x6, .val x7, .val x8, .val (.ref b9), .val (.ref r11), .unset, .unset] [x7])) _
    refine XS.aload X11.here hx rfl (hb hby at_179) rfl r_x7 ?_
    show Steps p.tables e below (T11.setTop (mkF m 181 #[.val (.int p0), .val (.int p1), .val (.int p2), .val x1, .val x2, .val x3, .val x4, .val x5, .val x6, .val x7, .val x8, .val (.ref b9), .val (.ref r11), .unset, .unset] [x7, x7])) _
    refine Jvm.RoadKit.acmp (g := (mkF m 181 #[.val (.int p0), .val (.int p1), .val (.int p2), .val x1, .val x2, .val x3, .val x4, .val x5, .val x6, .val x7, .val x8, .val (.ref b9), .val (.ref r11), .unset, .unset] [x7, x7])) X11 hx rfl r_x7 r_x7 (pc0 := 181) (pc' := 184) (same := true) rfl (hb hby at_181) rfl (decide_eq_true rfl) (by decide) (by decide) ?_
    show Steps p.tables e below (T11.setTop (mkF m 184 #[.val (.int p0), .val (.int p1), .val (.int p2), .val x1, .val x2, .val x3, .val x4, .val x5, .val x6, .val x7, .val x8, .val (.ref b9), .val (.ref r11), .unset, .unset] [])) _
    refine XS.aload X11.here hx rfl (hb hby at_184) rfl rfl ?_
    show Steps p.tables e below (T11.setTop (mkF m 186 #[.val (.int p0), .val (.int p1), .val (.int p2), .val x1, .val x2, .val x3, .val x4, .val x5, .val x6, .val x7, .val x8, .val (.ref b9), .val (.ref r11), .unset, .unset] [(.ref r11)])) _
    refine XS.bipush X11.here hx rfl (hb hby at_186) ?_
    show Steps p.tables e below (T11.setTop (mkF m 188 #[.val (.int p0), .val (.int p1), .val (.int p2), .val x1, .val x2, .val x3, .val x4, .val x5, .val x6, .val x7, .val x8, .val (.ref b9), .val (.ref r11), .unset, .unset] [(.int (7 : Int32)), (.ref r11)])) _
    refine X11.aaload hx (j := (7 : Int32)) (v := x8) Ar20.1 (State.isArrayOf_alike hZ.alike Ar20.2.1) rfl Ar20.2.2 hin20 hat20 (g := (mkF m 188 #[.val (.int p0), .val (.int p1), .val (.int p2), .val x1, .val x2, .val x3, .val x4, .val x5, .val x6, .val x7, .val x8, .val (.ref b9), .val (.ref r11), .unset, .unset] [(.int (7 : Int32)), (.ref r11)])) rfl rfl (hb hby at_188) _ ?_
    show Steps p.tables e below (T11.setTop (mkF m 189 #[.val (.int p0), .val (.int p1), .val (.int p2), .val x1, .val x2, .val x3, .val x4, .val x5, .val x6, .val x7, .val x8, .val (.ref b9), .val (.ref r11), .unset, .unset] [x8])) _
    refine XS.aload X11.here hx rfl (hb hby at_189) rfl r_x8 ?_
    show Steps p.tables e below (T11.setTop (mkF m 191 #[.val (.int p0), .val (.int p1), .val (.int p2), .val x1, .val x2, .val x3, .val x4, .val x5, .val x6, .val x7, .val x8, .val (.ref b9), .val (.ref r11), .unset, .unset] [x8, x8])) _
    refine Jvm.RoadKit.acmp (g := (mkF m 191 #[.val (.int p0), .val (.int p1), .val (.int p2), .val x1, .val x2, .val x3, .val x4, .val x5, .val x6, .val x7, .val x8, .val (.ref b9), .val (.ref r11), .unset, .unset] [x8, x8])) X11 hx rfl r_x8 r_x8 (pc0 := 191) (pc' := 194) (same := true) rfl (hb hby at_191) rfl (decide_eq_true rfl) (by decide) (by decide) ?_
    show Steps p.tables e below (T11.setTop (mkF m 194 #[.val (.int p0), .val (.int p1), .val (.int p2), .val x1, .val x2, .val x3, .val x4, .val x5, .val x6, .val x7, .val x8, .val (.ref b9), .val (.ref r11), .unset, .unset] [])) _
    refine XS.iconst X11.here hx rfl (hb hby at_194) ?_
    show Steps p.tables e below (T11.setTop (mkF m 195 #[.val (.int p0), .val (.int p1), .val (.int p2), .val x1, .val x2, .val x3, .val x4, .val x5, .val x6, .val x7, .val x8, .val (.ref b9), .val (.ref r11), .unset, .unset] [(.int (1 : Int32))])) _
    refine XS.goto X11.here hx rfl (pc0 := 195) (pc' := 199) rfl (hb hby at_195) (by decide) (by decide) ?_
    show Steps p.tables e below (T11.setTop (mkF m 199 #[.val (.int p0), .val (.int p1), .val (.int p2), .val x1, .val x2, .val x3, .val x4, .val x5, .val x6, .val x7, .val x8, .val (.ref b9), .val (.ref r11), .unset, .unset] [(.int (1 : Int32))])) _
    refine XS.istore X11.here hx rfl (hb hby at_199) rfl (l' := #[.val (.int p0), .val (.int p1), .val (.int p2), .val x1, .val x2, .val x3, .val x4, .val x5, .val x6, .val x7, .val x8, .val (.ref b9), .val (.ref r11), .val (.int (1 : Int32)), .unset]) rfl ?_
    show Steps p.tables e below (T11.setTop (mkF m 201 #[.val (.int p0), .val (.int p1), .val (.int p2), .val x1, .val x2, .val x3, .val x4, .val x5, .val x6, .val x7, .val x8, .val (.ref b9), .val (.ref r11), .val (.int (1 : Int32)), .unset] [])) _
    refine XS.iload X11.here hx rfl (hb hby at_201) rfl ?_
    show Steps p.tables e below (T11.setTop (mkF m 203 #[.val (.int p0), .val (.int p1), .val (.int p2), .val x1, .val x2, .val x3, .val x4, .val x5, .val x6, .val x7, .val x8, .val (.ref b9), .val (.ref r11), .val (.int (1 : Int32)), .unset] [(.int (1 : Int32))])) _
    refine XS.ifYes X11.here hx rfl (pc0 := 203) (pc' := 208) rfl (hb hby at_203) rfl ((if0 _ _).trans (feq (by decide : ¬ ((1 : Int32) = (0 : Int32)))).2) (by decide) (by decide) ?_
    show Steps p.tables e below (T11.setTop (mkF m 208 #[.val (.int p0), .val (.int p1), .val (.int p2), .val x1, .val x2, .val x3, .val x4, .val x5, .val x6, .val x7, .val x8, .val (.ref b9), .val (.ref r11), .val (.int (1 : Int32)), .unset] [])) _
    refine XS.aload X11.here hx rfl (hb hby at_208) rfl rfl ?_
    show Steps p.tables e below (T11.setTop (mkF m 210 #[.val (.int p0), .val (.int p1), .val (.int p2), .val x1, .val x2, .val x3, .val x4, .val x5, .val x6, .val x7, .val x8, .val (.ref b9), .val (.ref r11), .val (.int (1 : Int32)), .unset] [(.ref r11)])) _
    refine XS.iconst X11.here hx rfl (hb hby at_210) ?_
    show Steps p.tables e below (T11.setTop (mkF m 211 #[.val (.int p0), .val (.int p1), .val (.int p2), .val x1, .val x2, .val x3, .val x4, .val x5, .val x6, .val x7, .val x8, .val (.ref b9), .val (.ref r11), .val (.int (1 : Int32)), .unset] [(.int (0 : Int32)), (.ref r11)])) _
    refine XS.aload X11.here hx rfl (hb hby at_211) rfl rfl ?_
    show Steps p.tables e below (T11.setTop (mkF m 213 #[.val (.int p0), .val (.int p1), .val (.int p2), .val x1, .val x2, .val x3, .val x4, .val x5, .val x6, .val x7, .val x8, .val (.ref b9), .val (.ref r11), .val (.int (1 : Int32)), .unset] [(.ref b9), (.int (0 : Int32)), (.ref r11)])) _
    refine st21 _ ?_
    show Steps p.tables e below (T21.setTop (mkF m 214 #[.val (.int p0), .val (.int p1), .val (.int p2), .val x1, .val x2, .val x3, .val x4, .val x5, .val x6, .val x7, .val x8, .val (.ref b9), .val (.ref r11), .val (.int (1 : Int32)), .unset] [])) _
    refine XS.aload X21.here hx rfl (hb hby at_214) rfl rfl ?_
    show Steps p.tables e below (T21.setTop (mkF m 216 #[.val (.int p0), .val (.int p1), .val (.int p2), .val x1, .val x2, .val x3, .val x4, .val x5, .val x6, .val x7, .val x8, .val (.ref b9), .val (.ref r11), .val (.int (1 : Int32)), .unset] [(.ref b9)])) _
    refine st22.trans ?_
    show Steps p.tables e below (T22.setTop (mkF m 219 #[.val (.int p0), .val (.int p1), .val (.int p2), .val x1, .val x2, .val x3, .val x4, .val x5, .val x6, .val x7, .val x8, .val (.ref b9), .val (.ref r11), .val (.int (1 : Int32)), .unset] [(.ref r22)])) _
    refine XS.astore X22.here hx rfl (hb hby at_219) rfl rfl (l' := #[.val (.int p0), .val (.int p1), .val (.int p2), .val x1, .val x2, .val x3, .val x4, .val x5, .val x6, .val x7, .val x8, .val (.ref b9), .val (.ref r11), .val (.int (1 : Int32)), .val (.ref r22)]) rfl ?_
    show Steps p.tables e below (T22.setTop (mkF m 221 #[.val (.int p0), .val (.int p1), .val (.int p2), .val x1, .val x2, .val x3, .val x4, .val x5, .val x6, .val x7, .val x8, .val (.ref b9), .val (.ref r11), .val (.int (1 : Int32)), .val (.ref r22)] [])) _
    refine XS.aload X22.here hx rfl (hb hby at_221) rfl rfl ?_
    show Steps p.tables e below (T22.setTop (mkF m 223 #[.val (.int p0), .val (.int p1), .val (.int p2), .val x1, .val x2, .val x3, .val x4, .val x5, .val x6, .val x7, .val x8, .val (.ref b9), .val (.ref r11), .val (.int (1 : Int32)), .val (.ref r22)] [(.ref r22)])) _
    refine XS.ifnullNo X22.here hx rfl (hb hby at_223) rfl ?_
    show Steps p.tables e below (T22.setTop (mkF m 226 #[.val (.int p0), .val (.int p1), .val (.int p2), .val x1, .val x2, .val x3, .val x4, .val x5, .val x6, .val x7, .val x8, .val (.ref b9), .val (.ref r11), .val (.int (1 : Int32)), .val (.ref r22)] [])) _
    refine XS.aload X22.here hx rfl (hb hby at_226) rfl rfl ?_
    show Steps p.tables e below (T22.setTop (mkF m 228 #[.val (.int p0), .val (.int p1), .val (.int p2), .val x1, .val x2, .val x3, .val x4, .val x5, .val x6, .val x7, .val x8, .val (.ref b9), .val (.ref r11), .val (.int (1 : Int32)), .val (.ref r22)] [(.ref r22)])) _
    refine X22.arraylength hx Ar23.1 (State.isArrayOf_alike hZ.alike Ar23.2.1) (g := (mkF m 228 #[.val (.int p0), .val (.int p1), .val (.int p2), .val x1, .val x2, .val x3, .val x4, .val x5, .val x6, .val x7, .val x8, .val (.ref b9), .val (.ref r11), .val (.int (1 : Int32)), .val (.ref r22)] [(.ref r22)])) rfl rfl (hb hby at_228) _ ?_
    rw [len_of s23 m23]
    show Steps p.tables e below (T22.setTop (mkF m 229 #[.val (.int p0), .val (.int p1), .val (.int p2), .val x1, .val x2, .val x3, .val x4, .val x5, .val x6, .val x7, .val x8, .val (.ref b9), .val (.ref r11), .val (.int (1 : Int32)), .val (.ref r22)] [(.int (8 : Int32))])) _
    refine XS.bipush X22.here hx rfl (hb hby at_229) ?_
    show Steps p.tables e below (T22.setTop (mkF m 231 #[.val (.int p0), .val (.int p1), .val (.int p2), .val x1, .val x2, .val x3, .val x4, .val x5, .val x6, .val x7, .val x8, .val (.ref b9), .val (.ref r11), .val (.int (1 : Int32)), .val (.ref r22)] [(.int (8 : Int32)), (.int (8 : Int32))])) _
    refine XS.icmpNo X22.here hx rfl (hb hby at_231) rfl (teq (by decide : (8 : Int32) = (8 : Int32))).2 ?_
    show Steps p.tables e below (T22.setTop (mkF m 234 #[.val (.int p0), .val (.int p1), .val (.int p2), .val x1, .val x2, .val x3, .val x4, .val x5, .val x6, .val x7, .val x8, .val (.ref b9), .val (.ref r11), .val (.int (1 : Int32)), .val (.ref r22)] [])) _
    refine XS.aload X22.here hx rfl (hb hby at_234) rfl rfl ?_
    show Steps p.tables e below (T22.setTop (mkF m 236 #[.val (.int p0), .val (.int p1), .val (.int p2), .val x1, .val x2, .val x3, .val x4, .val x5, .val x6, .val x7, .val x8, .val (.ref b9), .val (.ref r11), .val (.int (1 : Int32)), .val (.ref r22)] [(.ref r22)])) _
    refine XS.aload X22.here hx rfl (hb hby at_236) rfl rfl ?_
    show Steps p.tables e below (T22.setTop (mkF m 238 #[.val (.int p0), .val (.int p1), .val (.int p2), .val x1, .val x2, .val x3, .val x4, .val x5, .val x6, .val x7, .val x8, .val (.ref b9), .val (.ref r11), .val (.int (1 : Int32)), .val (.ref r22)] [(.ref r11), (.ref r22)])) _
    refine Jvm.RoadKit.acmp (g := (mkF m 238 #[.val (.int p0), .val (.int p1), .val (.int p2), .val x1, .val x2, .val x3, .val x4, .val x5, .val x6, .val x7, .val x8, .val (.ref b9), .val (.ref r11), .val (.int (1 : Int32)), .val (.ref r22)] [(.ref r11), (.ref r22)])) X22 hx rfl rfl rfl (pc0 := 238) (pc' := 243) (same := false) rfl (hb hby at_238) rfl (decide_eq_false fun q => (Ne.symm (Nat.ne_of_lt (Nat.lt_of_lt_of_le (E11q.keep (Keep.of_wr W21)).lt sz_r22))) (Value.ref.inj q)) (by decide) (by decide) ?_
    show Steps p.tables e below (T22.setTop (mkF m 243 #[.val (.int p0), .val (.int p1), .val (.int p2), .val x1, .val x2, .val x3, .val x4, .val x5, .val x6, .val x7, .val x8, .val (.ref b9), .val (.ref r11), .val (.int (1 : Int32)), .val (.ref r22)] [])) _
    refine XS.aload X22.here hx rfl (hb hby at_243) rfl rfl ?_
    show Steps p.tables e below (T22.setTop (mkF m 245 #[.val (.int p0), .val (.int p1), .val (.int p2), .val x1, .val x2, .val x3, .val x4, .val x5, .val x6, .val x7, .val x8, .val (.ref b9), .val (.ref r11), .val (.int (1 : Int32)), .val (.ref r22)] [(.ref r22)])) _
    refine XS.iconst X22.here hx rfl (hb hby at_245) ?_
    show Steps p.tables e below (T22.setTop (mkF m 246 #[.val (.int p0), .val (.int p1), .val (.int p2), .val x1, .val x2, .val x3, .val x4, .val x5, .val x6, .val x7, .val x8, .val (.ref b9), .val (.ref r11), .val (.int (1 : Int32)), .val (.ref r22)] [(.int (0 : Int32)), (.ref r22)])) _
    refine X22.aaload hx (j := (0 : Int32)) (v := x1) Ar24.1 (State.isArrayOf_alike hZ.alike Ar24.2.1) rfl Ar24.2.2 hin24 hat24 (g := (mkF m 246 #[.val (.int p0), .val (.int p1), .val (.int p2), .val x1, .val x2, .val x3, .val x4, .val x5, .val x6, .val x7, .val x8, .val (.ref b9), .val (.ref r11), .val (.int (1 : Int32)), .val (.ref r22)] [(.int (0 : Int32)), (.ref r22)])) rfl rfl (hb hby at_246) _ ?_
    show Steps p.tables e below (T22.setTop (mkF m 247 #[.val (.int p0), .val (.int p1), .val (.int p2), .val x1, .val x2, .val x3, .val x4, .val x5, .val x6, .val x7, .val x8, .val (.ref b9), .val (.ref r11), .val (.int (1 : Int32)), .val (.ref r22)] [x1])) _
    refine XS.aloadN X22.here hx rfl (hb hby at_247) rfl r_x1 ?_
    show Steps p.tables e below (T22.setTop (mkF m 248 #[.val (.int p0), .val (.int p1), .val (.int p2), .val x1, .val x2, .val x3, .val x4, .val x5, .val x6, .val x7, .val x8, .val (.ref b9), .val (.ref r11), .val (.int (1 : Int32)), .val (.ref r22)] [x1, x1])) _
    refine Jvm.RoadKit.acmp (g := (mkF m 248 #[.val (.int p0), .val (.int p1), .val (.int p2), .val x1, .val x2, .val x3, .val x4, .val x5, .val x6, .val x7, .val x8, .val (.ref b9), .val (.ref r11), .val (.int (1 : Int32)), .val (.ref r22)] [x1, x1])) X22 hx rfl r_x1 r_x1 (pc0 := 248) (pc' := 251) (same := true) rfl (hb hby at_248) rfl (decide_eq_true rfl) (by decide) (by decide) ?_
    show Steps p.tables e below (T22.setTop (mkF m 251 #[.val (.int p0), .val (.int p1), .val (.int p2), .val x1, .val x2, .val x3, .val x4, .val x5, .val x6, .val x7, .val x8, .val (.ref b9), .val (.ref r11), .val (.int (1 : Int32)), .val (.ref r22)] [])) _
    refine XS.aload X22.here hx rfl (hb hby at_251) rfl rfl ?_
    show Steps p.tables e below (T22.setTop (mkF m 253 #[.val (.int p0), .val (.int p1), .val (.int p2), .val x1, .val x2, .val x3, .val x4, .val x5, .val x6, .val x7, .val x8, .val (.ref b9), .val (.ref r11), .val (.int (1 : Int32)), .val (.ref r22)] [(.ref b9)])) _
    refine st25.trans ?_
    show Steps p.tables e below (T25.setTop (mkF m 256 #[.val (.int p0), .val (.int p1), .val (.int p2), .val x1, .val x2, .val x3, .val x4, .val x5, .val x6, .val x7, .val x8, .val (.ref b9), .val (.ref r11), .val (.int (1 : Int32)), .val (.ref r22)] [x1])) _
    refine XS.aloadN X25.here hx rfl (hb hby at_256) rfl r_x1 ?_
    show Steps p.tables e below (T25.setTop (mkF m 257 #[.val (.int p0), .val (.int p1), .val (.int p2), .val x1, .val x2, .val x3, .val x4, .val x5, .val x6, .val x7, .val x8, .val (.ref b9), .val (.ref r11), .val (.int (1 : Int32)), .val (.ref r22)] [x1, x1])) _
    refine Jvm.RoadKit.acmp (g := (mkF m 257 #[.val (.int p0), .val (.int p1), .val (.int p2), .val x1, .val x2, .val x3, .val x4, .val x5, .val x6, .val x7, .val x8, .val (.ref b9), .val (.ref r11), .val (.int (1 : Int32)), .val (.ref r22)] [x1, x1])) X25 hx rfl r_x1 r_x1 (pc0 := 257) (pc' := 260) (same := true) rfl (hb hby at_257) rfl (decide_eq_true rfl) (by decide) (by decide) ?_
    show Steps p.tables e below (T25.setTop (mkF m 260 #[.val (.int p0), .val (.int p1), .val (.int p2), .val x1, .val x2, .val x3, .val x4, .val x5, .val x6, .val x7, .val x8, .val (.ref b9), .val (.ref r11), .val (.int (1 : Int32)), .val (.ref r22)] [])) _
    refine XS.aload X25.here hx rfl (hb hby at_260) rfl rfl ?_
    show Steps p.tables e below (T25.setTop (mkF m 262 #[.val (.int p0), .val (.int p1), .val (.int p2), .val x1, .val x2, .val x3, .val x4, .val x5, .val x6, .val x7, .val x8, .val (.ref b9), .val (.ref r11), .val (.int (1 : Int32)), .val (.ref r22)] [(.ref r22)])) _
    refine XS.bipush X25.here hx rfl (hb hby at_262) ?_
    show Steps p.tables e below (T25.setTop (mkF m 264 #[.val (.int p0), .val (.int p1), .val (.int p2), .val x1, .val x2, .val x3, .val x4, .val x5, .val x6, .val x7, .val x8, .val (.ref b9), .val (.ref r11), .val (.int (1 : Int32)), .val (.ref r22)] [(.int (7 : Int32)), (.ref r22)])) _
    refine X25.aaload hx (j := (7 : Int32)) (v := x8) (by rw [e25]; exact Ar26.1) (State.isArrayOf_alike hZ.alike Ar26.2.1) rfl Ar26.2.2 hin26 hat26 (g := (mkF m 264 #[.val (.int p0), .val (.int p1), .val (.int p2), .val x1, .val x2, .val x3, .val x4, .val x5, .val x6, .val x7, .val x8, .val (.ref b9), .val (.ref r11), .val (.int (1 : Int32)), .val (.ref r22)] [(.int (7 : Int32)), (.ref r22)])) rfl rfl (hb hby at_264) _ ?_
    show Steps p.tables e below (T25.setTop (mkF m 265 #[.val (.int p0), .val (.int p1), .val (.int p2), .val x1, .val x2, .val x3, .val x4, .val x5, .val x6, .val x7, .val x8, .val (.ref b9), .val (.ref r11), .val (.int (1 : Int32)), .val (.ref r22)] [x8])) _
    refine XS.aload X25.here hx rfl (hb hby at_265) rfl r_x8 ?_
    show Steps p.tables e below (T25.setTop (mkF m 267 #[.val (.int p0), .val (.int p1), .val (.int p2), .val x1, .val x2, .val x3, .val x4, .val x5, .val x6, .val x7, .val x8, .val (.ref b9), .val (.ref r11), .val (.int (1 : Int32)), .val (.ref r22)] [x8, x8])) _
    refine Jvm.RoadKit.acmp (g := (mkF m 267 #[.val (.int p0), .val (.int p1), .val (.int p2), .val x1, .val x2, .val x3, .val x4, .val x5, .val x6, .val x7, .val x8, .val (.ref b9), .val (.ref r11), .val (.int (1 : Int32)), .val (.ref r22)] [x8, x8])) X25 hx rfl r_x8 r_x8 (pc0 := 267) (pc' := 270) (same := true) rfl (hb hby at_267) rfl (decide_eq_true rfl) (by decide) (by decide) ?_
    show Steps p.tables e below (T25.setTop (mkF m 270 #[.val (.int p0), .val (.int p1), .val (.int p2), .val x1, .val x2, .val x3, .val x4, .val x5, .val x6, .val x7, .val x8, .val (.ref b9), .val (.ref r11), .val (.int (1 : Int32)), .val (.ref r22)] [])) _
    refine XS.iconst X25.here hx rfl (hb hby at_270) ?_
    show Steps p.tables e below (T25.setTop (mkF m 271 #[.val (.int p0), .val (.int p1), .val (.int p2), .val x1, .val x2, .val x3, .val x4, .val x5, .val x6, .val x7, .val x8, .val (.ref b9), .val (.ref r11), .val (.int (1 : Int32)), .val (.ref r22)] [(.int (1 : Int32))])) _
    refine XS.goto X25.here hx rfl (pc0 := 271) (pc' := 275) rfl (hb hby at_271) (by decide) (by decide) ?_
    show Steps p.tables e below (T25.setTop (mkF m 275 #[.val (.int p0), .val (.int p1), .val (.int p2), .val x1, .val x2, .val x3, .val x4, .val x5, .val x6, .val x7, .val x8, .val (.ref b9), .val (.ref r11), .val (.int (1 : Int32)), .val (.ref r22)] [(.int (1 : Int32))])) _
    exact retOut X25 hx Bd.returns rfl (Or.inl ⟨rfl, Or.inr (Or.inl rfl), _, rfl⟩) (hb hby at_275) hr
  · show QL (some (.int (1 : Int32))) h0 n0 _ T25.heap _
    rw [e25]
    exact ⟨rfl, N25⟩
set_option maxRecDepth 65536 in
set_option maxHeartbeats 40000000 in
theorem comes_1 {Post : Tables → Env → Array Value → State → Outcome → State → Prop} (hpost : ∀ tb e args s v u, (limb_1_1.after args s (.returned v) u = true ∧ limb_1_2.after args s (.returned v) u = true) → FrameEnd s (.returned v) u (Jvm.fieldLocs frame_1_writes args s ++ Jvm.arrayLocs frame_1_arrays args s ++ Jvm.staticLocs frame_1_statics s) 32 128 → Post tb e args s (.returned v) u) :
    ArmFor flags0 classFile x code maxLocals ret World_1 tables_1 room_1 Calls_1 rest_1 Pre_1 Post := by
  intro l hfl _ _ p e ha hc hk s m args below hf hA hF happ hP
  obtain ⟨hcalls, hrest, hpre⟩ := hP
  obtain ⟨-, -, -, hnamed, -, -, -, hat⟩ := (Spec.applies_iff hf).mp happ
  obtain ⟨hg, n⟩ := and_e (Cond.before_iff.mp (show (Jvm.Cond.and given_1 narrow_1).before args s = true from hpre))
  obtain ⟨gc, q0⟩ := and_e hg
  obtain ⟨g0, q1⟩ := and_e q0
  obtain ⟨g1, g2⟩ := and_e q1
  obtain ⟨w0, w1, w2, rfl⟩ : ∃ w0 w1 w2 : Value, args = #[w0, w1, w2] := by
    have hs : args.size = 3 := by simpa [Cond.value, given_1] using gc
    obtain ⟨L⟩ := args
    match L, hs with
    | [w0, w1, w2], _ => exact ⟨w0, w1, w2, rfl⟩
  have hw := fun d (hd : d ∈ tables_1) => atoms_spec (ws := Jvm.Cond.code x code maxLocals ret :: tables_1) hat d (List.mem_cons_of_mem _ hd)
  obtain ⟨i0, ei0⟩ := is_v g0
  obtain rfl : w0 = (.int i0) := Option.some.inj ei0
  obtain ⟨i1, ei1⟩ := is_v g1
  obtain rfl : w1 = (.int i1) := Option.some.inj ei1
  obtain ⟨i2, ei2⟩ := is_v g2
  obtain rfl : w2 = (.int i2) := Option.some.inj ei2
  obtain ⟨hsets, hown0⟩ := atoms_of _ (rest_1_c_eq ▸ (show rest_1_c.before _ s = true from hrest))
  obtain ⟨w_Long, ev_Long⟩ := arr_v (Cond.before_iff.mp (hsets _ (List.mem_of_getElem? (i := 2) rfl)))
  obtain ⟨c_Long, A_Long⟩ := Arr.start ev_Long (Cond.before_iff.mp (hsets _ (List.mem_of_getElem? (i := 2) rfl)))
  have C_Long : Cache s s.heap "java/lang/Long" "java/lang/Long$LongCache" "[Ljava/lang/Long;" w_Long c_Long := ⟨Sta.start ev_Long (Or.inr ⟨(hw _ (List.mem_of_getElem? (i := 11) rfl)), (hsets _ (List.mem_of_getElem? (i := 0) rfl))⟩), A_Long, own_len ev_Long A_Long (Cond.before_iff.mp (hsets _ (List.mem_of_getElem? (i := 4) rfl))) (n := 256) (by decide), own_cache (fun _ => ev_Long) A_Long (Cond.before_iff.mp (hsets _ (List.mem_of_getElem? (i := 5) rfl)))⟩
  obtain ⟨n, o, h1, h2, h3, _, L, rfl, ⟨rfl, N⟩, hq⟩ := law_0 l s _ hw tables_1 i0 i1 i2 w_Long c_Long s.heap s.heap.size (Nat.le_refl _) C_Long p e ha hc hk s m _ below hf ((Spec.applies_iff_loose hf).mp happ).1 ⟨rfl, State.Warmed39.refl s, rfl⟩ trivial
  exact ⟨n, _, h1, h2, h3, hpost _ _ _ _ _ _ ⟨Cond.after_iff.mpr rfl, Cond.after_iff.mpr (eq_i res_at (Term.int_eval (1)) rfl)⟩ ⟨hq.1, hq.2.1, (hq.2.2.sift fun y hy => Or.inr (N y hy)).mono (by decide) (by decide)⟩⟩
theorem main_1_1 : Claimed_1_1 := comes_1 fun _ _ _ _ _ _ h hF => ⟨h.1, hF⟩
theorem main_1_2 : Claimed_1_2 := comes_1 fun _ _ _ _ _ _ h hF => ⟨h.2, hF⟩
end Jvm.Pilot.@@N@@
namespace Jvm.Pilot.@@N@@
open Jvm Jvm.ClassFile Sem Op Lib Jvm.Free Jvm.Stand Jvm.Pilot.@@N@@.Jvm.D
/-! MADE BY PROGRAM (witnessworld.py) out of the Statement's table words and the real class files: 18 classes; the members and pool entries that the words name. The judged class is class 1, her method 2. -/
namespace start1
open Jvm.ClassFile
def u (s : String) : CpInfo := .utf8 (stringToUtf16 s)
/-- a pool by its gaps: so many unusable entries, then the entry; so many at the end -/
def gap : Nat → List CpInfo → List CpInfo
  | 0, r => r
  | n + 1, r => .unusable :: gap n r
def poolList (es : List (Nat × CpInfo)) (last : Nat) : List CpInfo := es.foldr (fun e r => gap e.1 (e.2 :: r)) (gap last [])
def pool (es : List (Nat × CpInfo)) (last : Nat) : Array CpInfo := ⟨poolList es last⟩
def fileOf (pool : Array CpInfo) (this : Nat) (attrs : Array Attribute := #[]) (ms : Array MethodInfo := #[]) (fl : Nat := 33) (sup : Nat := 0) (ifs : Array Nat := #[]) (fds : Array FieldInfo := #[]) : ClassFile where
  minorVersion := 0
  majorVersion := 65
  constantPool := pool
  accessFlags := fl
  thisClass := this
  superClass := sup
  interfaces := ifs
  fields := fds
  methods := ms
  attributes := attrs
def plain (name : String) (sup : Option ClassId) : Class where
  name := name
  kind := .ordinary
  loader := none
  accessFlags := 33
  super := sup
  interfaces := #[]
  cf := none
  fields := #[]
  methods := #[]
  instanceTypes := #[]
  staticTypes := #[]
  resolved := #[]
  callSites := []
  init := .initialized
  statics := none
  mirror := none

def pool0 : Array CpInfo := pool [(5, u "<init>"), (0, u "()V"), (1, .class_ 10), (1, u "java/lang/Object")] 113

def k0c0 : Code := { maxStack := 0, maxLocals := 1, code := object_method_1_code, exceptionTable := #[], attributes := #[] }
def k0m0 : Method := { name := "<init>", desc := "()V", sig := { parameters := [], returnType := none }, accessFlags := 1, code := some k0c0 }
/-- java/lang/Object -/
def k0 : Class := { plain "java/lang/Object" none with
  accessFlags := 33
  interfaces := #[]
  cf := some (fileOf pool0 8 #[] #[{ accessFlags := 1, nameIndex := 5, descriptorIndex := 6, attributes := #[] }] 33 0 #[] #[])
  fields := #[]
  methods := #[k0m0]
  instanceTypes := #[]
  staticTypes := #[]
  resolved := Array.replicate 124 none
  statics := none }

def pool1 : Array CpInfo := pool [(2, .class_ 4), (1, u "java/lang/Object"), (0, u "<init>"), (0, u "()V"), (0, .methodref 8 9), (0, .class_ 10), (0, .nameAndType 11 12), (0, u "java/lang/Long"), (0, u "valueOf"), (0, u "(J)Ljava/lang/Long;"), (0, .methodref 14 15), (0, .class_ 16), (0, .nameAndType 17 18), (0, u "com/example/tributary/tributary/Tuple8ToArrayPinLaw"), (0, u "v"), (0, u "(IIII)Ljava/lang/Object;"), (0, .class_ 20), (0, u "com/example/tributary/tributary/Tuple8"), (0, .methodref 19 22), (0, .nameAndType 5 23), (0, u "(Ljava/lang/Object;Ljava/lang/Object;Ljava/lang/Object;Ljava/lang/Object;Ljava/lang/Object;Ljava/lang/Object;Ljava/lang/Object;Ljava/lang/Object;)V"), (0, .methodref 19 25), (0, .nameAndType 26 27), (0, u "toArray"), (0, u "()[Ljava/lang/Object;"), (0, .methodref 19 29), (0, .nameAndType 30 31), (0, u "getT1"), (0, u "()Ljava/lang/Object;"), (3, u "law"), (0, u "(III)Z")] 4

def k1m0 : Method := { name := "<init>", desc := "()V", sig := { parameters := [], returnType := none }, accessFlags := 1, code := none }
def k1c1 : Code := { maxStack := 4, maxLocals := 4, code := method_2_code, exceptionTable := #[], attributes := #[] }
def k1m1 : Method := { name := "v", desc := "(IIII)Ljava/lang/Object;", sig := { parameters := [.int, .int, .int, .int], returnType := some (.object "java/lang/Object") }, accessFlags := 10, code := some k1c1 }
def k1c2 : Code := { maxStack := 10, maxLocals := 15, code := code, exceptionTable := #[], attributes := #[] }
def k1m2 : Method := { name := "law", desc := "(III)Z", sig := { parameters := [.int, .int, .int], returnType := some .boolean }, accessFlags := 9, code := some k1c2 }
/-- com/example/tributary/tributary/Tuple8ToArrayPinLaw -/
def k1 : Class := { plain "com/example/tributary/tributary/Tuple8ToArrayPinLaw" (some 0) with
  accessFlags := 49
  interfaces := #[]
  cf := some (fileOf pool1 14 #[] #[{ accessFlags := 1, nameIndex := 5, descriptorIndex := 6, attributes := #[] }, { accessFlags := 10, nameIndex := 17, descriptorIndex := 18, attributes := #[] }, { accessFlags := 9, nameIndex := 35, descriptorIndex := 36, attributes := #[] }] 49 2 #[] #[])
  fields := #[]
  methods := #[k1m0, k1m1, k1m2]
  instanceTypes := #[]
  staticTypes := #[]
  resolved := Array.replicate 41 none
  statics := none }

def pool2 : Array CpInfo := pool [(1, .class_ 2), (0, u "java/io/Serializable"), (0, .class_ 4), (0, u "java/lang/Object")] 2

/-- java/io/Serializable -/
def k2 : Class := { plain "java/io/Serializable" (some 0) with
  accessFlags := 1537
  interfaces := #[]
  cf := some (fileOf pool2 1 #[] #[] 1537 3 #[] #[])
  fields := #[]
  methods := #[]
  instanceTypes := #[]
  staticTypes := #[]
  resolved := Array.replicate 7 none
  statics := none }

def pool3 : Array CpInfo := pool [(1, .methodref 2 3), (0, .class_ 4), (0, .nameAndType 5 6), (0, u "java/lang/Object"), (0, u "<init>"), (0, u "()V"), (1, .class_ 10), (1, u "java/lang/Number"), (2, .class_ 14), (0, u "java/io/Serializable"), (0, u "serialVersionUID"), (0, u "J")] 20

def k3c0 : Code := { maxStack := 1, maxLocals := 1, code := jdk_18_method_1_code, exceptionTable := #[], attributes := #[] }
def k3m0 : Method := { name := "<init>", desc := "()V", sig := { parameters := [], returnType := none }, accessFlags := 1, code := some k3c0 }
/-- java/lang/Number -/
def k3 : Class := { plain "java/lang/Number" (some 0) with
  accessFlags := 1057
  interfaces := #[2]
  cf := some (fileOf pool3 8 #[] #[{ accessFlags := 1, nameIndex := 5, descriptorIndex := 6, attributes := #[] }] 1057 2 #[13] #[{ accessFlags := 26, nameIndex := 15, descriptorIndex := 16, attributes := #[] }])
  fields := #[{ name := "serialVersionUID", type := .long, accessFlags := 26, slot := 0, constantValue := 0 }]
  methods := #[k3m0]
  instanceTypes := #[]
  staticTypes := #[.long]
  resolved := Array.replicate 37 none
  statics := none }

def pool4 : Array CpInfo := pool [(1, .class_ 2), (0, u "java/lang/Comparable"), (0, .class_ 4), (0, u "java/lang/Object")] 7

/-- java/lang/Comparable -/
def k4 : Class := { plain "java/lang/Comparable" (some 0) with
  accessFlags := 1537
  interfaces := #[]
  cf := some (fileOf pool4 1 #[] #[] 1537 3 #[] #[])
  fields := #[]
  methods := #[]
  instanceTypes := #[]
  staticTypes := #[]
  resolved := Array.replicate 12 none
  statics := none }

def pool5 : Array CpInfo := pool [(1, .class_ 2), (0, u "java/lang/constant/Constable"), (0, .class_ 4), (0, u "java/lang/Object")] 6

/-- java/lang/constant/Constable -/
def k5 : Class := { plain "java/lang/constant/Constable" (some 0) with
  accessFlags := 1537
  interfaces := #[]
  cf := some (fileOf pool5 1 #[] #[] 1537 3 #[] #[])
  fields := #[]
  methods := #[]
  instanceTypes := #[]
  staticTypes := #[]
  resolved := Array.replicate 11 none
  statics := none }

def pool6 : Array CpInfo := pool [(1, .class_ 2), (0, u "java/lang/constant/ConstantDesc"), (0, .class_ 4), (0, u "java/lang/Object")] 32

/-- java/lang/constant/ConstantDesc -/
def k6 : Class := { plain "java/lang/constant/ConstantDesc" (some 0) with
  accessFlags := 1537
  interfaces := #[]
  cf := some (fileOf pool6 1 #[] #[] 1537 3 #[] #[])
  fields := #[]
  methods := #[]
  instanceTypes := #[]
  staticTypes := #[]
  resolved := Array.replicate 37 none
  statics := none }

def pool7 : Array CpInfo := pool [(1, .class_ 2), (0, u "java/lang/Long"), (55, .nameAndType 59 60), (0, u "<init>"), (0, u "()V"), (24, u "valueOf"), (143, u "(J)Ljava/lang/Long;"), (0, .long 18446744073709551488), (1, .long 127), (1, .fieldref 235 236), (0, .class_ 237), (0, .nameAndType 238 239), (0, u "java/lang/Long$LongCache"), (0, u "cache"), (0, u "[Ljava/lang/Long;"), (0, .methodref 1 241), (0, .nameAndType 59 242), (0, u "(J)V"), (27, .methodref 271 58), (0, .class_ 272), (0, u "java/lang/Number"), (0, .fieldref 1 274), (0, .nameAndType 275 276), (0, u "value"), (0, u "J"), (84, u "TYPE"), (0, u "Ljava/lang/Class;"), (0, .class_ 364), (0, u "java/lang/Comparable"), (0, .class_ 366), (0, u "java/lang/constant/Constable"), (0, .class_ 368), (0, u "java/lang/constant/ConstantDesc"), (0, u "MIN_VALUE"), (1, u "MAX_VALUE"), (4, u "SIZE"), (0, u "I"), (1, u "BYTES"), (1, u "serialVersionUID")] 142

def k7c0 : Code := { maxStack := 4, maxLocals := 3, code := jdk_35_method_24_code, exceptionTable := #[], attributes := #[] }
def k7m0 : Method := { name := "valueOf", desc := "(J)Ljava/lang/Long;", sig := { parameters := [.long], returnType := some (.object "java/lang/Long") }, accessFlags := 9, code := some k7c0 }
def k7c1 : Code := { maxStack := 3, maxLocals := 3, code := jdk_35_method_26_code, exceptionTable := #[], attributes := #[] }
def k7m1 : Method := { name := "<init>", desc := "(J)V", sig := { parameters := [.long], returnType := none }, accessFlags := 1, code := some k7c1 }
/-- java/lang/Long -/
def k7 : Class := { plain "java/lang/Long" (some 3) with
  accessFlags := 49
  interfaces := #[4, 5, 6]
  cf := some (fileOf pool7 1 #[.nestMembers #[235]] #[{ accessFlags := 9, nameIndex := 85, descriptorIndex := 229, attributes := #[] }, { accessFlags := 1, nameIndex := 59, descriptorIndex := 242, attributes := #[] }] 49 271 #[363, 365, 367] #[{ accessFlags := 25, nameIndex := 369, descriptorIndex := 276, attributes := #[] }, { accessFlags := 25, nameIndex := 371, descriptorIndex := 276, attributes := #[] }, { accessFlags := 25, nameIndex := 361, descriptorIndex := 362, attributes := #[] }, { accessFlags := 18, nameIndex := 275, descriptorIndex := 276, attributes := #[] }, { accessFlags := 25, nameIndex := 376, descriptorIndex := 377, attributes := #[] }, { accessFlags := 25, nameIndex := 379, descriptorIndex := 377, attributes := #[] }, { accessFlags := 26, nameIndex := 381, descriptorIndex := 276, attributes := #[] }])
  fields := #[{ name := "MIN_VALUE", type := .long, accessFlags := 25, slot := 0, constantValue := 0 }, { name := "MAX_VALUE", type := .long, accessFlags := 25, slot := 1, constantValue := 0 }, { name := "TYPE", type := (.object "java/lang/Class"), accessFlags := 25, slot := 2, constantValue := 0 }, { name := "value", type := .long, accessFlags := 18, slot := 0, constantValue := 0 }, { name := "SIZE", type := .int, accessFlags := 25, slot := 3, constantValue := 0 }, { name := "BYTES", type := .int, accessFlags := 25, slot := 4, constantValue := 0 }, { name := "serialVersionUID", type := .long, accessFlags := 26, slot := 5, constantValue := 0 }]
  methods := #[k7m0, k7m1]
  instanceTypes := #[.long]
  staticTypes := #[.long, .long, (.object "java/lang/Class"), .int, .int, .long]
  resolved := Array.replicate 524 none
  statics := none }

def pool8 : Array CpInfo := pool [(2, .class_ 4), (1, u "java/lang/Object"), (0, u "<init>"), (0, u "()V"), (0, .class_ 8), (0, u "java/lang/Long"), (7, .class_ 18), (1, u "java/lang/Long$LongCache"), (0, u "$assertionsDisabled"), (0, u "Z"), (8, u "archivedCache"), (0, u "[Ljava/lang/Long;"), (7, u "cache")] 24

def k8m0 : Method := { name := "<init>", desc := "()V", sig := { parameters := [], returnType := none }, accessFlags := 2, code := none }
/-- java/lang/Long$LongCache -/
def k8 : Class := { plain "java/lang/Long$LongCache" (some 0) with
  accessFlags := 48
  interfaces := #[]
  cf := some (fileOf pool8 16 #[.nestHost 7] #[{ accessFlags := 2, nameIndex := 5, descriptorIndex := 6, attributes := #[] }] 48 2 #[] #[{ accessFlags := 24, nameIndex := 38, descriptorIndex := 30, attributes := #[] }, { accessFlags := 8, nameIndex := 29, descriptorIndex := 30, attributes := #[] }, { accessFlags := 4120, nameIndex := 19, descriptorIndex := 20, attributes := #[] }])
  fields := #[{ name := "cache", type := (.array (.object "java/lang/Long")), accessFlags := 24, slot := 0, constantValue := 0 }, { name := "archivedCache", type := (.array (.object "java/lang/Long")), accessFlags := 8, slot := 1, constantValue := 0 }, { name := "$assertionsDisabled", type := .boolean, accessFlags := 4120, slot := 2, constantValue := 0 }]
  methods := #[k8m0]
  instanceTypes := #[]
  staticTypes := #[(.array (.object "java/lang/Long")), (.array (.object "java/lang/Long")), .boolean]
  resolved := Array.replicate 63 none
  statics := some 0 }

def pool9 : Array CpInfo := pool [(1, .methodref 2 3), (0, .class_ 4), (0, .nameAndType 5 6), (0, u "java/lang/Object"), (0, u "<init>"), (0, u "()V"), (0, .class_ 8), (0, u "com/example/tributary/tributary/Tuple")] 26

def k9c0 : Code := { maxStack := 1, maxLocals := 1, code := prog_43_method_1_code, exceptionTable := #[], attributes := #[] }
def k9m0 : Method := { name := "<init>", desc := "()V", sig := { parameters := [], returnType := none }, accessFlags := 0, code := some k9c0 }
/-- com/example/tributary/tributary/Tuple -/
def k9 : Class := { plain "com/example/tributary/tributary/Tuple" (some 0) with
  accessFlags := 1056
  interfaces := #[]
  cf := some (fileOf pool9 7 #[] #[{ accessFlags := 0, nameIndex := 5, descriptorIndex := 6, attributes := #[] }] 1056 2 #[] #[])
  fields := #[]
  methods := #[k9m0]
  instanceTypes := #[]
  staticTypes := #[]
  resolved := Array.replicate 35 none
  statics := none }

def pool10 : Array CpInfo := pool [(1, .methodref 2 3), (0, .class_ 4), (0, .nameAndType 5 6), (0, u "com/example/tributary/tributary/Tuple"), (0, u "<init>"), (0, u "()V"), (0, .fieldref 8 9), (0, .class_ 10), (0, .nameAndType 11 12), (0, u "com/example/tributary/tributary/Tuple8"), (0, u "t1"), (0, u "Ljava/lang/Object;"), (0, .fieldref 8 14), (0, .nameAndType 15 12), (0, u "t2"), (0, .fieldref 8 17), (0, .nameAndType 18 12), (0, u "t3"), (0, .fieldref 8 20), (0, .nameAndType 21 12), (0, u "t4"), (0, .fieldref 8 23), (0, .nameAndType 24 12), (0, u "t5"), (0, .fieldref 8 26), (0, .nameAndType 27 12), (0, u "t6"), (0, .fieldref 8 29), (0, .nameAndType 30 12), (0, u "t7"), (0, .fieldref 8 32), (0, .nameAndType 33 12), (0, u "t8"), (0, .class_ 35), (0, u "java/lang/Object"), (9, u "(Ljava/lang/Object;Ljava/lang/Object;Ljava/lang/Object;Ljava/lang/Object;Ljava/lang/Object;Ljava/lang/Object;Ljava/lang/Object;Ljava/lang/Object;)V"), (3, u "getT1"), (0, u "()Ljava/lang/Object;"), (15, u "toArray"), (0, u "()[Ljava/lang/Object;")] 3

def k10c0 : Code := { maxStack := 2, maxLocals := 9, code := prog_50_method_1_code, exceptionTable := #[], attributes := #[] }
def k10m0 : Method := { name := "<init>", desc := "(Ljava/lang/Object;Ljava/lang/Object;Ljava/lang/Object;Ljava/lang/Object;Ljava/lang/Object;Ljava/lang/Object;Ljava/lang/Object;Ljava/lang/Object;)V", sig := { parameters := [(.object "java/lang/Object"), (.object "java/lang/Object"), (.object "java/lang/Object"), (.object "java/lang/Object"), (.object "java/lang/Object"), (.object "java/lang/Object"), (.object "java/lang/Object"), (.object "java/lang/Object")], returnType := none }, accessFlags := 0, code := some k10c0 }
def k10c1 : Code := { maxStack := 1, maxLocals := 1, code := prog_50_method_2_code, exceptionTable := #[], attributes := #[] }
def k10m1 : Method := { name := "getT1", desc := "()Ljava/lang/Object;", sig := { parameters := [], returnType := some (.object "java/lang/Object") }, accessFlags := 1, code := some k10c1 }
def k10c2 : Code := { maxStack := 4, maxLocals := 1, code := prog_50_method_10_code, exceptionTable := #[], attributes := #[] }
def k10m2 : Method := { name := "toArray", desc := "()[Ljava/lang/Object;", sig := { parameters := [], returnType := some (.array (.object "java/lang/Object")) }, accessFlags := 0, code := some k10c2 }
/-- com/example/tributary/tributary/Tuple8 -/
def k10 : Class := { plain "com/example/tributary/tributary/Tuple8" (some 9) with
  accessFlags := 49
  interfaces := #[]
  cf := some (fileOf pool10 8 #[] #[{ accessFlags := 0, nameIndex := 5, descriptorIndex := 45, attributes := #[] }, { accessFlags := 1, nameIndex := 49, descriptorIndex := 50, attributes := #[] }, { accessFlags := 0, nameIndex := 66, descriptorIndex := 67, attributes := #[] }] 49 2 #[] #[{ accessFlags := 18, nameIndex := 11, descriptorIndex := 12, attributes := #[] }, { accessFlags := 18, nameIndex := 15, descriptorIndex := 12, attributes := #[] }, { accessFlags := 18, nameIndex := 18, descriptorIndex := 12, attributes := #[] }, { accessFlags := 18, nameIndex := 21, descriptorIndex := 12, attributes := #[] }, { accessFlags := 18, nameIndex := 24, descriptorIndex := 12, attributes := #[] }, { accessFlags := 18, nameIndex := 27, descriptorIndex := 12, attributes := #[] }, { accessFlags := 18, nameIndex := 30, descriptorIndex := 12, attributes := #[] }, { accessFlags := 18, nameIndex := 33, descriptorIndex := 12, attributes := #[] }])
  fields := #[{ name := "t1", type := (.object "java/lang/Object"), accessFlags := 18, slot := 0, constantValue := 0 }, { name := "t2", type := (.object "java/lang/Object"), accessFlags := 18, slot := 1, constantValue := 0 }, { name := "t3", type := (.object "java/lang/Object"), accessFlags := 18, slot := 2, constantValue := 0 }, { name := "t4", type := (.object "java/lang/Object"), accessFlags := 18, slot := 3, constantValue := 0 }, { name := "t5", type := (.object "java/lang/Object"), accessFlags := 18, slot := 4, constantValue := 0 }, { name := "t6", type := (.object "java/lang/Object"), accessFlags := 18, slot := 5, constantValue := 0 }, { name := "t7", type := (.object "java/lang/Object"), accessFlags := 18, slot := 6, constantValue := 0 }, { name := "t8", type := (.object "java/lang/Object"), accessFlags := 18, slot := 7, constantValue := 0 }]
  methods := #[k10m0, k10m1, k10m2]
  instanceTypes := #[(.object "java/lang/Object"), (.object "java/lang/Object"), (.object "java/lang/Object"), (.object "java/lang/Object"), (.object "java/lang/Object"), (.object "java/lang/Object"), (.object "java/lang/Object"), (.object "java/lang/Object")]
  staticTypes := #[]
  resolved := Array.replicate 71 none
  statics := none }

def pool11 : Array CpInfo := pool [(1, u "java/lang/Cloneable"), (0, .class_ 1), (0, u "java/lang/Object"), (0, .class_ 3)] 3

/-- java/lang/Cloneable -/
def k11 : Class := { plain "java/lang/Cloneable" (some 0) with
  accessFlags := 1537
  interfaces := #[]
  cf := some (fileOf pool11 2 #[] #[] 1537 4 #[] #[])
  fields := #[]
  methods := #[]
  instanceTypes := #[]
  staticTypes := #[]
  resolved := Array.replicate 8 none
  statics := none }

/-- the primitive byte -/
def k12 : Class := { plain "byte" none with kind := .primitive 'B', accessFlags := 0x411 }
/-- [B -/
def k13 : Class := { plain "[B" (some 0) with kind := .array 12 .byte, interfaces := #[11, 2], accessFlags := 1041 }

/-- the primitive int -/
def k14 : Class := { plain "int" none with kind := .primitive 'I', accessFlags := 0x411 }
/-- [I -/
def k15 : Class := { plain "[I" (some 0) with kind := .array 14 .int, interfaces := #[11, 2], accessFlags := 1041 }

/-- [Ljava/lang/Long; -/
def k16 : Class := { plain "[Ljava/lang/Long;" (some 0) with kind := .array 7 (.object "java/lang/Long"), interfaces := #[11, 2], accessFlags := 1041 }

/-- [Ljava/lang/Object; -/
def k17 : Class := { plain "[Ljava/lang/Object;" (some 0) with kind := .array 0 (.object "java/lang/Object"), interfaces := #[11, 2], accessFlags := 1041 }

def heap : Heap := #[{ cls := 8, slots := #[.ref 1, .null, .int 0], vm := .statics 8 },
  { cls := 16, slots := #[.ref 2, .ref 3, .ref 4, .ref 5, .ref 6, .ref 7, .ref 8, .ref 9, .ref 10, .ref 11, .ref 12, .ref 13, .ref 14, .ref 15, .ref 16, .ref 17, .ref 18, .ref 19, .ref 20, .ref 21, .ref 22, .ref 23, .ref 24, .ref 25, .ref 26, .ref 27, .ref 28, .ref 29, .ref 30, .ref 31, .ref 32, .ref 33, .ref 34, .ref 35, .ref 36, .ref 37, .ref 38, .ref 39, .ref 40, .ref 41, .ref 42, .ref 43, .ref 44, .ref 45, .ref 46, .ref 47, .ref 48, .ref 49, .ref 50, .ref 51, .ref 52, .ref 53, .ref 54, .ref 55, .ref 56, .ref 57, .ref 58, .ref 59, .ref 60, .ref 61, .ref 62, .ref 63, .ref 64, .ref 65, .ref 66, .ref 67, .ref 68, .ref 69, .ref 70, .ref 71, .ref 72, .ref 73, .ref 74, .ref 75, .ref 76, .ref 77, .ref 78, .ref 79, .ref 80, .ref 81, .ref 82, .ref 83, .ref 84, .ref 85, .ref 86, .ref 87, .ref 88, .ref 89, .ref 90, .ref 91, .ref 92, .ref 93, .ref 94, .ref 95, .ref 96, .ref 97, .ref 98, .ref 99, .ref 100, .ref 101, .ref 102, .ref 103, .ref 104, .ref 105, .ref 106, .ref 107, .ref 108, .ref 109, .ref 110, .ref 111, .ref 112, .ref 113, .ref 114, .ref 115, .ref 116, .ref 117, .ref 118, .ref 119, .ref 120, .ref 121, .ref 122, .ref 123, .ref 124, .ref 125, .ref 126, .ref 127, .ref 128, .ref 129, .ref 130, .ref 131, .ref 132, .ref 133, .ref 134, .ref 135, .ref 136, .ref 137, .ref 138, .ref 139, .ref 140, .ref 141, .ref 142, .ref 143, .ref 144, .ref 145, .ref 146, .ref 147, .ref 148, .ref 149, .ref 150, .ref 151, .ref 152, .ref 153, .ref 154, .ref 155, .ref 156, .ref 157, .ref 158, .ref 159, .ref 160, .ref 161, .ref 162, .ref 163, .ref 164, .ref 165, .ref 166, .ref 167, .ref 168, .ref 169, .ref 170, .ref 171, .ref 172, .ref 173, .ref 174, .ref 175, .ref 176, .ref 177, .ref 178, .ref 179, .ref 180, .ref 181, .ref 182, .ref 183, .ref 184, .ref 185, .ref 186, .ref 187, .ref 188, .ref 189, .ref 190, .ref 191, .ref 192, .ref 193, .ref 194, .ref 195, .ref 196, .ref 197, .ref 198, .ref 199, .ref 200, .ref 201, .ref 202, .ref 203, .ref 204, .ref 205, .ref 206, .ref 207, .ref 208, .ref 209, .ref 210, .ref 211, .ref 212, .ref 213, .ref 214, .ref 215, .ref 216, .ref 217, .ref 218, .ref 219, .ref 220, .ref 221, .ref 222, .ref 223, .ref 224, .ref 225, .ref 226, .ref 227, .ref 228, .ref 229, .ref 230, .ref 231, .ref 232, .ref 233, .ref 234, .ref 235, .ref 236, .ref 237, .ref 238, .ref 239, .ref 240, .ref 241, .ref 242, .ref 243, .ref 244, .ref 245, .ref 246, .ref 247, .ref 248, .ref 249, .ref 250, .ref 251, .ref 252, .ref 253, .ref 254, .ref 255, .ref 256, .ref 257], vm := .none },
  { cls := 7, slots := #[.long (-128)], vm := .none },
  { cls := 7, slots := #[.long (-127)], vm := .none },
  { cls := 7, slots := #[.long (-126)], vm := .none },
  { cls := 7, slots := #[.long (-125)], vm := .none },
  { cls := 7, slots := #[.long (-124)], vm := .none },
  { cls := 7, slots := #[.long (-123)], vm := .none },
  { cls := 7, slots := #[.long (-122)], vm := .none },
  { cls := 7, slots := #[.long (-121)], vm := .none },
  { cls := 7, slots := #[.long (-120)], vm := .none },
  { cls := 7, slots := #[.long (-119)], vm := .none },
  { cls := 7, slots := #[.long (-118)], vm := .none },
  { cls := 7, slots := #[.long (-117)], vm := .none },
  { cls := 7, slots := #[.long (-116)], vm := .none },
  { cls := 7, slots := #[.long (-115)], vm := .none },
  { cls := 7, slots := #[.long (-114)], vm := .none },
  { cls := 7, slots := #[.long (-113)], vm := .none },
  { cls := 7, slots := #[.long (-112)], vm := .none },
  { cls := 7, slots := #[.long (-111)], vm := .none },
  { cls := 7, slots := #[.long (-110)], vm := .none },
  { cls := 7, slots := #[.long (-109)], vm := .none },
  { cls := 7, slots := #[.long (-108)], vm := .none },
  { cls := 7, slots := #[.long (-107)], vm := .none },
  { cls := 7, slots := #[.long (-106)], vm := .none },
  { cls := 7, slots := #[.long (-105)], vm := .none },
  { cls := 7, slots := #[.long (-104)], vm := .none },
  { cls := 7, slots := #[.long (-103)], vm := .none },
  { cls := 7, slots := #[.long (-102)], vm := .none },
  { cls := 7, slots := #[.long (-101)], vm := .none },
  { cls := 7, slots := #[.long (-100)], vm := .none },
  { cls := 7, slots := #[.long (-99)], vm := .none },
  { cls := 7, slots := #[.long (-98)], vm := .none },
  { cls := 7, slots := #[.long (-97)], vm := .none },
  { cls := 7, slots := #[.long (-96)], vm := .none },
  { cls := 7, slots := #[.long (-95)], vm := .none },
  { cls := 7, slots := #[.long (-94)], vm := .none },
  { cls := 7, slots := #[.long (-93)], vm := .none },
  { cls := 7, slots := #[.long (-92)], vm := .none },
  { cls := 7, slots := #[.long (-91)], vm := .none },
  { cls := 7, slots := #[.long (-90)], vm := .none },
  { cls := 7, slots := #[.long (-89)], vm := .none },
  { cls := 7, slots := #[.long (-88)], vm := .none },
  { cls := 7, slots := #[.long (-87)], vm := .none },
  { cls := 7, slots := #[.long (-86)], vm := .none },
  { cls := 7, slots := #[.long (-85)], vm := .none },
  { cls := 7, slots := #[.long (-84)], vm := .none },
  { cls := 7, slots := #[.long (-83)], vm := .none },
  { cls := 7, slots := #[.long (-82)], vm := .none },
  { cls := 7, slots := #[.long (-81)], vm := .none },
  { cls := 7, slots := #[.long (-80)], vm := .none },
  { cls := 7, slots := #[.long (-79)], vm := .none },
  { cls := 7, slots := #[.long (-78)], vm := .none },
  { cls := 7, slots := #[.long (-77)], vm := .none },
  { cls := 7, slots := #[.long (-76)], vm := .none },
  { cls := 7, slots := #[.long (-75)], vm := .none },
  { cls := 7, slots := #[.long (-74)], vm := .none },
  { cls := 7, slots := #[.long (-73)], vm := .none },
  { cls := 7, slots := #[.long (-72)], vm := .none },
  { cls := 7, slots := #[.long (-71)], vm := .none },
  { cls := 7, slots := #[.long (-70)], vm := .none },
  { cls := 7, slots := #[.long (-69)], vm := .none },
  { cls := 7, slots := #[.long (-68)], vm := .none },
  { cls := 7, slots := #[.long (-67)], vm := .none },
  { cls := 7, slots := #[.long (-66)], vm := .none },
  { cls := 7, slots := #[.long (-65)], vm := .none },
  { cls := 7, slots := #[.long (-64)], vm := .none },
  { cls := 7, slots := #[.long (-63)], vm := .none },
  { cls := 7, slots := #[.long (-62)], vm := .none },
  { cls := 7, slots := #[.long (-61)], vm := .none },
  { cls := 7, slots := #[.long (-60)], vm := .none },
  { cls := 7, slots := #[.long (-59)], vm := .none },
  { cls := 7, slots := #[.long (-58)], vm := .none },
  { cls := 7, slots := #[.long (-57)], vm := .none },
  { cls := 7, slots := #[.long (-56)], vm := .none },
  { cls := 7, slots := #[.long (-55)], vm := .none },
  { cls := 7, slots := #[.long (-54)], vm := .none },
  { cls := 7, slots := #[.long (-53)], vm := .none },
  { cls := 7, slots := #[.long (-52)], vm := .none },
  { cls := 7, slots := #[.long (-51)], vm := .none },
  { cls := 7, slots := #[.long (-50)], vm := .none },
  { cls := 7, slots := #[.long (-49)], vm := .none },
  { cls := 7, slots := #[.long (-48)], vm := .none },
  { cls := 7, slots := #[.long (-47)], vm := .none },
  { cls := 7, slots := #[.long (-46)], vm := .none },
  { cls := 7, slots := #[.long (-45)], vm := .none },
  { cls := 7, slots := #[.long (-44)], vm := .none },
  { cls := 7, slots := #[.long (-43)], vm := .none },
  { cls := 7, slots := #[.long (-42)], vm := .none },
  { cls := 7, slots := #[.long (-41)], vm := .none },
  { cls := 7, slots := #[.long (-40)], vm := .none },
  { cls := 7, slots := #[.long (-39)], vm := .none },
  { cls := 7, slots := #[.long (-38)], vm := .none },
  { cls := 7, slots := #[.long (-37)], vm := .none },
  { cls := 7, slots := #[.long (-36)], vm := .none },
  { cls := 7, slots := #[.long (-35)], vm := .none },
  { cls := 7, slots := #[.long (-34)], vm := .none },
  { cls := 7, slots := #[.long (-33)], vm := .none },
  { cls := 7, slots := #[.long (-32)], vm := .none },
  { cls := 7, slots := #[.long (-31)], vm := .none },
  { cls := 7, slots := #[.long (-30)], vm := .none },
  { cls := 7, slots := #[.long (-29)], vm := .none },
  { cls := 7, slots := #[.long (-28)], vm := .none },
  { cls := 7, slots := #[.long (-27)], vm := .none },
  { cls := 7, slots := #[.long (-26)], vm := .none },
  { cls := 7, slots := #[.long (-25)], vm := .none },
  { cls := 7, slots := #[.long (-24)], vm := .none },
  { cls := 7, slots := #[.long (-23)], vm := .none },
  { cls := 7, slots := #[.long (-22)], vm := .none },
  { cls := 7, slots := #[.long (-21)], vm := .none },
  { cls := 7, slots := #[.long (-20)], vm := .none },
  { cls := 7, slots := #[.long (-19)], vm := .none },
  { cls := 7, slots := #[.long (-18)], vm := .none },
  { cls := 7, slots := #[.long (-17)], vm := .none },
  { cls := 7, slots := #[.long (-16)], vm := .none },
  { cls := 7, slots := #[.long (-15)], vm := .none },
  { cls := 7, slots := #[.long (-14)], vm := .none },
  { cls := 7, slots := #[.long (-13)], vm := .none },
  { cls := 7, slots := #[.long (-12)], vm := .none },
  { cls := 7, slots := #[.long (-11)], vm := .none },
  { cls := 7, slots := #[.long (-10)], vm := .none },
  { cls := 7, slots := #[.long (-9)], vm := .none },
  { cls := 7, slots := #[.long (-8)], vm := .none },
  { cls := 7, slots := #[.long (-7)], vm := .none },
  { cls := 7, slots := #[.long (-6)], vm := .none },
  { cls := 7, slots := #[.long (-5)], vm := .none },
  { cls := 7, slots := #[.long (-4)], vm := .none },
  { cls := 7, slots := #[.long (-3)], vm := .none },
  { cls := 7, slots := #[.long (-2)], vm := .none },
  { cls := 7, slots := #[.long (-1)], vm := .none },
  { cls := 7, slots := #[.long (0)], vm := .none },
  { cls := 7, slots := #[.long (1)], vm := .none },
  { cls := 7, slots := #[.long (2)], vm := .none },
  { cls := 7, slots := #[.long (3)], vm := .none },
  { cls := 7, slots := #[.long (4)], vm := .none },
  { cls := 7, slots := #[.long (5)], vm := .none },
  { cls := 7, slots := #[.long (6)], vm := .none },
  { cls := 7, slots := #[.long (7)], vm := .none },
  { cls := 7, slots := #[.long (8)], vm := .none },
  { cls := 7, slots := #[.long (9)], vm := .none },
  { cls := 7, slots := #[.long (10)], vm := .none },
  { cls := 7, slots := #[.long (11)], vm := .none },
  { cls := 7, slots := #[.long (12)], vm := .none },
  { cls := 7, slots := #[.long (13)], vm := .none },
  { cls := 7, slots := #[.long (14)], vm := .none },
  { cls := 7, slots := #[.long (15)], vm := .none },
  { cls := 7, slots := #[.long (16)], vm := .none },
  { cls := 7, slots := #[.long (17)], vm := .none },
  { cls := 7, slots := #[.long (18)], vm := .none },
  { cls := 7, slots := #[.long (19)], vm := .none },
  { cls := 7, slots := #[.long (20)], vm := .none },
  { cls := 7, slots := #[.long (21)], vm := .none },
  { cls := 7, slots := #[.long (22)], vm := .none },
  { cls := 7, slots := #[.long (23)], vm := .none },
  { cls := 7, slots := #[.long (24)], vm := .none },
  { cls := 7, slots := #[.long (25)], vm := .none },
  { cls := 7, slots := #[.long (26)], vm := .none },
  { cls := 7, slots := #[.long (27)], vm := .none },
  { cls := 7, slots := #[.long (28)], vm := .none },
  { cls := 7, slots := #[.long (29)], vm := .none },
  { cls := 7, slots := #[.long (30)], vm := .none },
  { cls := 7, slots := #[.long (31)], vm := .none },
  { cls := 7, slots := #[.long (32)], vm := .none },
  { cls := 7, slots := #[.long (33)], vm := .none },
  { cls := 7, slots := #[.long (34)], vm := .none },
  { cls := 7, slots := #[.long (35)], vm := .none },
  { cls := 7, slots := #[.long (36)], vm := .none },
  { cls := 7, slots := #[.long (37)], vm := .none },
  { cls := 7, slots := #[.long (38)], vm := .none },
  { cls := 7, slots := #[.long (39)], vm := .none },
  { cls := 7, slots := #[.long (40)], vm := .none },
  { cls := 7, slots := #[.long (41)], vm := .none },
  { cls := 7, slots := #[.long (42)], vm := .none },
  { cls := 7, slots := #[.long (43)], vm := .none },
  { cls := 7, slots := #[.long (44)], vm := .none },
  { cls := 7, slots := #[.long (45)], vm := .none },
  { cls := 7, slots := #[.long (46)], vm := .none },
  { cls := 7, slots := #[.long (47)], vm := .none },
  { cls := 7, slots := #[.long (48)], vm := .none },
  { cls := 7, slots := #[.long (49)], vm := .none },
  { cls := 7, slots := #[.long (50)], vm := .none },
  { cls := 7, slots := #[.long (51)], vm := .none },
  { cls := 7, slots := #[.long (52)], vm := .none },
  { cls := 7, slots := #[.long (53)], vm := .none },
  { cls := 7, slots := #[.long (54)], vm := .none },
  { cls := 7, slots := #[.long (55)], vm := .none },
  { cls := 7, slots := #[.long (56)], vm := .none },
  { cls := 7, slots := #[.long (57)], vm := .none },
  { cls := 7, slots := #[.long (58)], vm := .none },
  { cls := 7, slots := #[.long (59)], vm := .none },
  { cls := 7, slots := #[.long (60)], vm := .none },
  { cls := 7, slots := #[.long (61)], vm := .none },
  { cls := 7, slots := #[.long (62)], vm := .none },
  { cls := 7, slots := #[.long (63)], vm := .none },
  { cls := 7, slots := #[.long (64)], vm := .none },
  { cls := 7, slots := #[.long (65)], vm := .none },
  { cls := 7, slots := #[.long (66)], vm := .none },
  { cls := 7, slots := #[.long (67)], vm := .none },
  { cls := 7, slots := #[.long (68)], vm := .none },
  { cls := 7, slots := #[.long (69)], vm := .none },
  { cls := 7, slots := #[.long (70)], vm := .none },
  { cls := 7, slots := #[.long (71)], vm := .none },
  { cls := 7, slots := #[.long (72)], vm := .none },
  { cls := 7, slots := #[.long (73)], vm := .none },
  { cls := 7, slots := #[.long (74)], vm := .none },
  { cls := 7, slots := #[.long (75)], vm := .none },
  { cls := 7, slots := #[.long (76)], vm := .none },
  { cls := 7, slots := #[.long (77)], vm := .none },
  { cls := 7, slots := #[.long (78)], vm := .none },
  { cls := 7, slots := #[.long (79)], vm := .none },
  { cls := 7, slots := #[.long (80)], vm := .none },
  { cls := 7, slots := #[.long (81)], vm := .none },
  { cls := 7, slots := #[.long (82)], vm := .none },
  { cls := 7, slots := #[.long (83)], vm := .none },
  { cls := 7, slots := #[.long (84)], vm := .none },
  { cls := 7, slots := #[.long (85)], vm := .none },
  { cls := 7, slots := #[.long (86)], vm := .none },
  { cls := 7, slots := #[.long (87)], vm := .none },
  { cls := 7, slots := #[.long (88)], vm := .none },
  { cls := 7, slots := #[.long (89)], vm := .none },
  { cls := 7, slots := #[.long (90)], vm := .none },
  { cls := 7, slots := #[.long (91)], vm := .none },
  { cls := 7, slots := #[.long (92)], vm := .none },
  { cls := 7, slots := #[.long (93)], vm := .none },
  { cls := 7, slots := #[.long (94)], vm := .none },
  { cls := 7, slots := #[.long (95)], vm := .none },
  { cls := 7, slots := #[.long (96)], vm := .none },
  { cls := 7, slots := #[.long (97)], vm := .none },
  { cls := 7, slots := #[.long (98)], vm := .none },
  { cls := 7, slots := #[.long (99)], vm := .none },
  { cls := 7, slots := #[.long (100)], vm := .none },
  { cls := 7, slots := #[.long (101)], vm := .none },
  { cls := 7, slots := #[.long (102)], vm := .none },
  { cls := 7, slots := #[.long (103)], vm := .none },
  { cls := 7, slots := #[.long (104)], vm := .none },
  { cls := 7, slots := #[.long (105)], vm := .none },
  { cls := 7, slots := #[.long (106)], vm := .none },
  { cls := 7, slots := #[.long (107)], vm := .none },
  { cls := 7, slots := #[.long (108)], vm := .none },
  { cls := 7, slots := #[.long (109)], vm := .none },
  { cls := 7, slots := #[.long (110)], vm := .none },
  { cls := 7, slots := #[.long (111)], vm := .none },
  { cls := 7, slots := #[.long (112)], vm := .none },
  { cls := 7, slots := #[.long (113)], vm := .none },
  { cls := 7, slots := #[.long (114)], vm := .none },
  { cls := 7, slots := #[.long (115)], vm := .none },
  { cls := 7, slots := #[.long (116)], vm := .none },
  { cls := 7, slots := #[.long (117)], vm := .none },
  { cls := 7, slots := #[.long (118)], vm := .none },
  { cls := 7, slots := #[.long (119)], vm := .none },
  { cls := 7, slots := #[.long (120)], vm := .none },
  { cls := 7, slots := #[.long (121)], vm := .none },
  { cls := 7, slots := #[.long (122)], vm := .none },
  { cls := 7, slots := #[.long (123)], vm := .none },
  { cls := 7, slots := #[.long (124)], vm := .none },
  { cls := 7, slots := #[.long (125)], vm := .none },
  { cls := 7, slots := #[.long (126)], vm := .none },
  { cls := 7, slots := #[.long (127)], vm := .none }]
def classes : Array Class := #[k0, k1, k2, k3, k4, k5, k6, k7, k8, k9, k10, k11, k12, k13, k14, k15, k16, k17]
def interned : List (Array UInt16 × Addr) := []
def slotsUsed : Nat := 515
def theMethod : MethodId := ⟨1, 2⟩
def args0 : Array Value := #[.int 1, .int 2, .int 3]
def aboutOver (below : List Frame) : State where
  vm := { classes := classes, interned := interned.toArray }
  heap := heap
  slotsUsed := slotsUsed
  threads := #[{ frames := .invoking theMethod args0 :: below }]
def below0 : List Frame := [.native { method := ⟨0, 0⟩, args := #[] }]
def about1 : State := aboutOver below0
def p0 : Program := .bare "" "" ""
def e0 : Env := launch0.env 0 0 0
theorem w_frames : about1.frames = Frame.invoking theMethod args0 :: below0 := rfl
set_option maxRecDepth 65536 in
theorem w_args : argsFit about1.vm theMethod args0 = true := by decide +kernel
set_option maxRecDepth 65536 in
theorem w_heap : heapFits about1 = true := by decide +kernel
set_option maxRecDepth 65536 in
theorem w_runnable : about1.curStatus? = some .runnable := by decide +kernel
set_option maxRecDepth 65536 in
theorem w_alone : about1.alone = true := by decide +kernel
set_option maxRecDepth 65536 in
theorem w_named : about1.methodNamed? x = some theMethod := by decide +kernel
set_option maxRecDepth 65536 in
theorem w_hears : about1.hears theMethod below0 = true := by decide +kernel
set_option maxRecDepth 65536 in
theorem w_ripe : about1.ripe theMethod args0 below0 = true := by decide +kernel
theorem w_running : about1.status = .running := rfl
set_option maxRecDepth 65536 in
theorem w_room : about1.hasRoom e0.platform room_1 = true :=
  launch0.hasRoom_least _ room_1 (by decide +kernel) (by decide +kernel) (by decide +kernel) (by decide +kernel) (by decide +kernel) (by decide +kernel)
theorem allAtoms_all (ts : List Jvm.Cond) (a : Array Jvm.Value) (st : Jvm.State) : (allAtoms ts).before a st = ts.all (fun c => c.before a st) := by
  induction ts with
  | nil => rfl
  | cons c t ih =>
    show (Jvm.Cond.and c (allAtoms t)).before a st = _
    rw [Jvm.Cond.before_and, ih, List.all_cons]
def words1 : List Jvm.Cond := Jvm.Cond.code x code maxLocals ret :: tables_1
/-- a 'code' word, met by the world's own term for the bytes: nothing is compared byte by byte -/
theorem code_word {y : MethodName} {bytes : ByteArray} {mx : Nat} {rt : Option FieldType} {a : Array Value} {s : State} {m : MethodId} {meth : Method} {c : Code} (h1 : s.methodNamed? y = some m) (h2 : s.vm.method? m = some meth) (h3 : meth.code = some c) (h4 : c.code = bytes)
    (h5 : (c.maxLocals == mx && c.exceptionTable.isEmpty && decide (c.maxStack ≤ mostOperands) && decide (meth.sig.returnType = rt) && !meth.locks && decide (parseMethodDescriptor y.desc = some meth.sig)) = true) : (Jvm.Cond.code y bytes mx rt).before a s = true := by
  simp only [Bool.and_eq_true, beq_iff_eq, Bool.not_eq_true', decide_eq_true_eq] at h5
  obtain ⟨⟨⟨⟨⟨g1, g2⟩, g3⟩, g4⟩, g5⟩, g6⟩ := h5
  simp [Cond.before, Cond.holds, Cond.value, h1, h2, h3, h4, g1, g2, g3, g4, g5, g6]
def isCode : Jvm.Cond → Bool
  | .code _ _ _ _ => true
  | _ => false
theorem all_split {L : List Jvm.Cond} {P : Jvm.Cond → Bool} (h1 : L.all (fun c => isCode c || P c) = true) (h2 : ∀ c ∈ L.filter isCode, P c = true) : L.all P = true := by
  refine List.all_eq_true.mpr fun c hc => ?_
  have h := List.all_eq_true.mp h1 c hc
  rcases Bool.eq_false_or_eq_true (isCode c) with hi | hi
  · exact h2 c (List.mem_filter.mpr ⟨hc, hi⟩)
  · simpa [hi] using h
set_option maxRecDepth 65536 in
theorem w_c0 : (Jvm.Cond.code x code maxLocals ret).before args0 about1 = true := code_word (m := ⟨1, 2⟩) (meth := k1m2) (c := k1c2) (by decide +kernel) rfl rfl rfl (by decide +kernel)
set_option maxRecDepth 65536 in
theorem w_c1 : (Jvm.Cond.code ({ cls := "com/example/tributary/tributary/Tuple8ToArrayPinLaw", name := "v", desc := "(IIII)Ljava/lang/Object;" } : Jvm.MethodName) method_2_code (4 : Nat) (Option.some (Jvm.ClassFile.FieldType.object "java/lang/Object"))).before args0 about1 = true := code_word (m := ⟨1, 1⟩) (meth := k1m1) (c := k1c1) (by decide +kernel) rfl rfl rfl (by decide +kernel)
set_option maxRecDepth 65536 in
theorem w_c2 : (Jvm.Cond.code ({ cls := "java/lang/Long", name := "valueOf", desc := "(J)Ljava/lang/Long;" } : Jvm.MethodName) jdk_35_method_24_code (3 : Nat) (Option.some (Jvm.ClassFile.FieldType.object "java/lang/Long"))).before args0 about1 = true := code_word (m := ⟨7, 0⟩) (meth := k7m0) (c := k7c0) (by decide +kernel) rfl rfl rfl (by decide +kernel)
set_option maxRecDepth 65536 in
theorem w_c3 : (Jvm.Cond.code ({ cls := "com/example/tributary/tributary/Tuple8", name := "<init>", desc := "(Ljava/lang/Object;Ljava/lang/Object;Ljava/lang/Object;Ljava/lang/Object;Ljava/lang/Object;Ljava/lang/Object;Ljava/lang/Object;Ljava/lang/Object;)V" } : Jvm.MethodName) prog_50_method_1_code (9 : Nat) (Option.none : Option Jvm.ClassFile.FieldType)).before args0 about1 = true := code_word (m := ⟨10, 0⟩) (meth := k10m0) (c := k10c0) (by decide +kernel) rfl rfl rfl (by decide +kernel)
set_option maxRecDepth 65536 in
theorem w_c4 : (Jvm.Cond.code ({ cls := "com/example/tributary/tributary/Tuple", name := "<init>", desc := "()V" } : Jvm.MethodName) prog_43_method_1_code (1 : Nat) (Option.none : Option Jvm.ClassFile.FieldType)).before args0 about1 = true := code_word (m := ⟨9, 0⟩) (meth := k9m0) (c := k9c0) (by decide +kernel) rfl rfl rfl (by decide +kernel)
set_option maxRecDepth 65536 in
theorem w_c5 : (Jvm.Cond.code ({ cls := "java/lang/Object", name := "<init>", desc := "()V" } : Jvm.MethodName) object_method_1_code (1 : Nat) (Option.none : Option Jvm.ClassFile.FieldType)).before args0 about1 = true := code_word (m := ⟨0, 0⟩) (meth := k0m0) (c := k0c0) (by decide +kernel) rfl rfl rfl (by decide +kernel)
set_option maxRecDepth 65536 in
theorem w_c6 : (Jvm.Cond.code ({ cls := "com/example/tributary/tributary/Tuple8", name := "toArray", desc := "()[Ljava/lang/Object;" } : Jvm.MethodName) prog_50_method_10_code (1 : Nat) (Option.some (Jvm.ClassFile.FieldType.array (Jvm.ClassFile.FieldType.object "java/lang/Object")))).before args0 about1 = true := code_word (m := ⟨10, 2⟩) (meth := k10m2) (c := k10c2) (by decide +kernel) rfl rfl rfl (by decide +kernel)
set_option maxRecDepth 65536 in
theorem w_c7 : (Jvm.Cond.code ({ cls := "com/example/tributary/tributary/Tuple8", name := "getT1", desc := "()Ljava/lang/Object;" } : Jvm.MethodName) prog_50_method_2_code (1 : Nat) (Option.some (Jvm.ClassFile.FieldType.object "java/lang/Object"))).before args0 about1 = true := code_word (m := ⟨10, 1⟩) (meth := k10m1) (c := k10c1) (by decide +kernel) rfl rfl rfl (by decide +kernel)
set_option maxRecDepth 65536 in
theorem w_c8 : (Jvm.Cond.code ({ cls := "java/lang/Long", name := "<init>", desc := "(J)V" } : Jvm.MethodName) jdk_35_method_26_code (3 : Nat) (Option.none : Option Jvm.ClassFile.FieldType)).before args0 about1 = true := code_word (m := ⟨7, 1⟩) (meth := k7m1) (c := k7c1) (by decide +kernel) rfl rfl rfl (by decide +kernel)
set_option maxRecDepth 65536 in
theorem w_c9 : (Jvm.Cond.code ({ cls := "java/lang/Number", name := "<init>", desc := "()V" } : Jvm.MethodName) jdk_18_method_1_code (1 : Nat) (Option.none : Option Jvm.ClassFile.FieldType)).before args0 about1 = true := code_word (m := ⟨3, 0⟩) (meth := k3m0) (c := k3c0) (by decide +kernel) rfl rfl rfl (by decide +kernel)
def codes1 : List Jvm.Cond := [Jvm.Cond.code x code maxLocals ret, Jvm.Cond.code ({ cls := "com/example/tributary/tributary/Tuple8ToArrayPinLaw", name := "v", desc := "(IIII)Ljava/lang/Object;" } : Jvm.MethodName) method_2_code (4 : Nat) (Option.some (Jvm.ClassFile.FieldType.object "java/lang/Object")), Jvm.Cond.code ({ cls := "java/lang/Long", name := "valueOf", desc := "(J)Ljava/lang/Long;" } : Jvm.MethodName) jdk_35_method_24_code (3 : Nat) (Option.some (Jvm.ClassFile.FieldType.object "java/lang/Long")), Jvm.Cond.code ({ cls := "com/example/tributary/tributary/Tuple8", name := "<init>", desc := "(Ljava/lang/Object;Ljava/lang/Object;Ljava/lang/Object;Ljava/lang/Object;Ljava/lang/Object;Ljava/lang/Object;Ljava/lang/Object;Ljava/lang/Object;)V" } : Jvm.MethodName) prog_50_method_1_code (9 : Nat) (Option.none : Option Jvm.ClassFile.FieldType), Jvm.Cond.code ({ cls := "com/example/tributary/tributary/Tuple", name := "<init>", desc := "()V" } : Jvm.MethodName) prog_43_method_1_code (1 : Nat) (Option.none : Option Jvm.ClassFile.FieldType), Jvm.Cond.code ({ cls := "java/lang/Object", name := "<init>", desc := "()V" } : Jvm.MethodName) object_method_1_code (1 : Nat) (Option.none : Option Jvm.ClassFile.FieldType), Jvm.Cond.code ({ cls := "com/example/tributary/tributary/Tuple8", name := "toArray", desc := "()[Ljava/lang/Object;" } : Jvm.MethodName) prog_50_method_10_code (1 : Nat) (Option.some (Jvm.ClassFile.FieldType.array (Jvm.ClassFile.FieldType.object "java/lang/Object"))), Jvm.Cond.code ({ cls := "com/example/tributary/tributary/Tuple8", name := "getT1", desc := "()Ljava/lang/Object;" } : Jvm.MethodName) prog_50_method_2_code (1 : Nat) (Option.some (Jvm.ClassFile.FieldType.object "java/lang/Object")), Jvm.Cond.code ({ cls := "java/lang/Long", name := "<init>", desc := "(J)V" } : Jvm.MethodName) jdk_35_method_26_code (3 : Nat) (Option.none : Option Jvm.ClassFile.FieldType), Jvm.Cond.code ({ cls := "java/lang/Number", name := "<init>", desc := "()V" } : Jvm.MethodName) jdk_18_method_1_code (1 : Nat) (Option.none : Option Jvm.ClassFile.FieldType)]
set_option maxRecDepth 65536 in
theorem codes_eq : words1.filter isCode = codes1 := rfl
theorem w_codes : ∀ c ∈ words1.filter isCode, c.before args0 about1 = true := by
  rw [codes_eq]
  intro c hc
  simp only [codes1, List.mem_cons, List.not_mem_nil, or_false] at hc
  rcases hc with rfl | rfl | rfl | rfl | rfl | rfl | rfl | rfl | rfl | rfl
  · exact w_c0
  · exact w_c1
  · exact w_c2
  · exact w_c3
  · exact w_c4
  · exact w_c5
  · exact w_c6
  · exact w_c7
  · exact w_c8
  · exact w_c9
set_option maxRecDepth 65536 in
theorem w_t1 : (words1.take 24).all (fun c => isCode c || c.before args0 about1) = true := by decide +kernel
set_option maxRecDepth 65536 in
theorem w_t2 : ((words1.drop 24).take 24).all (fun c => isCode c || c.before args0 about1) = true := by decide +kernel
set_option maxRecDepth 65536 in
theorem w_t3 : ((words1.drop 24).drop 24).all (fun c => isCode c || c.before args0 about1) = true := by decide +kernel
theorem w_tables : (allAtoms (Jvm.Cond.code x code maxLocals ret :: tables_1)).before args0 about1 = true := by
  rw [allAtoms_all]
  show words1.all (fun c => c.before args0 about1) = true
  refine all_split ?_ w_codes
  rw [← List.take_append_drop 24 words1, List.all_append, w_t1, ← List.take_append_drop 24 (words1.drop 24), List.all_append, w_t2, w_t3]
  rfl
set_option maxRecDepth 65536 in
theorem w_rest : rest_1_c.before args0 about1 = true := by decide +kernel
set_option maxRecDepth 65536 in
theorem w_case : (Jvm.Cond.and given_1 narrow_1).before args0 about1 = true := by decide +kernel
theorem w_applies : (headSpec (Jvm.Cond.code x code maxLocals ret :: tables_1) room_1).applies x e0.platform about1 = true :=
  (Spec.applies_iff w_frames).mpr ⟨w_running, w_runnable, w_alone, w_named, w_hears, w_ripe, w_room, w_tables⟩
theorem atStart : AtStart classFile x code maxLocals ret World_1 tables_1 room_1 Calls_1 rest_1 Pre_1 launch0 p0 e0 about1 theMethod args0 below0 :=
  ⟨lists_1, trivial, launch0.admits_env _ _ _, launch0.least_env, fairChoices_fair.cas, fairChoices_fair.clock, w_frames, w_args, w_heap, w_applies, trivial, w_rest, w_case⟩
end start1
theorem witness_1 : WitnessClaimed_1 := ⟨start1.p0, start1.e0, start1.about1, start1.theMethod, start1.args0, start1.below0, start1.atStart⟩
end Jvm.Pilot.@@N@@
