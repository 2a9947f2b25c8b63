import JvmDerived
import JvmDerived.Pilot.@@N@@Statement
import JvmDerived.Pilot.@@N@@Code
set_option linter.unusedVariables false
set_option linter.unusedSimpArgs false
namespace Jvm.Pilot.@@N@@
open Jvm Jvm.ClassFile Sem Op Lib Jvm.Free Jvm.Stand Jvm.LawKit Jvm.RoadKit Bundle Jvm.Pilot.@@N@@.Jvm.D
theorem own_sta_keep {Z : State} {h h' : Heap} {C n d : String} {v : Value} (F : Sta Z h C n d v) (K : Keep h h' []) : Sta Z h' C n d v := by
  obtain ⟨cf, i, k, f, st, cell, h1, h2, h3, h4, h5, r⟩ := F
  exact ⟨cf, i, k, f, st, cell, h1, h2, h3, h4, K.2.1 _ _ h5 nin0, r⟩
theorem own_cat {v : Value} (r : v.isRef = true) : v.category = 1 := by
  rcases ref_cases r with rfl | ⟨y, rfl⟩ <;> rfl
theorem own_cr (a : Addr) : Value.category (.ref a) = 1 := rfl
theorem own_ci (a : Int32) : Value.category (.int a) = 1 := rfl
theorem own_cj (a : Int64) : Value.category (.long a) = 2 := rfl
theorem own_fits {v : Value} {C : String} (r : v.isRef = true) : fits (.object C) v = true := by
  rcases ref_cases r with rfl | ⟨y, rfl⟩ <;> rfl
theorem own_and255 (x : Int32) : ¬ (x &&& 255) < 0 ∧ ¬ (255 : Int32) < (x &&& 255) := by
  have h := c_mask x 255 8 (by decide) (by decide)
  simp only [Int32.lt_iff_toInt_lt]
  have a1 : (255 : Int32).toInt = 255 := by decide
  have a0 : (0 : Int32).toInt = 0 := by decide
  rw [a1, a0, h]
  omega
theorem own_cases_and4 (p : Int32) : (p &&& (3 : Int32)) = (0 : Int32) ∨ (p &&& (3 : Int32)) = (1 : Int32) ∨ (p &&& (3 : Int32)) = (2 : Int32) ∨ (p &&& (3 : Int32)) = (3 : Int32) := by
  have h := c_mask p 3 2 (by decide) (by decide)
  generalize p &&& (3 : Int32) = z at h ⊢
  simp only [← Int32.toInt_inj]
  have h0 : ((0 : Int32)).toInt = 0 := by decide
  have h1 : ((1 : Int32)).toInt = 1 := by decide
  have h2 : ((2 : Int32)).toInt = 2 := by decide
  have h3 : ((3 : Int32)).toInt = 3 := by decide
  omega
def QN (h0 : Heap) (n0 : Nat) (v : Option Value) (h : Heap) (L : List Loc) : Prop := v = none ∧ Fr n0 L ∧ h = h0
def QG (r : Value) (h0 : Heap) (n0 : Nat) (v : Option Value) (h : Heap) (L : List Loc) : Prop := v = some r ∧ Fr n0 L ∧ h = h0
def QL (r : Option Value) (h0 : Heap) (n0 : Nat) (v : Option Value) (h : Heap) (L : List Loc) : Prop := v = r ∧ Fr n0 L
theorem own_sta_keep1 {Z : State} {h h' : Heap} {C n d K : String} {v : Value} {a : Addr} (F : Sta Z h C n d v) (E : Exa Z h a K) (K' : Keep h h' [a]) : Sta Z h' C n d v := by
  obtain ⟨cf, i, k, f, st, cell, h1, h2, h3, h4, h5, h6, h7⟩ := F
  obtain ⟨c2, k2, e1, -, -, e4, -⟩ := E
  refine ⟨cf, i, k, f, st, cell, h1, h2, h3, h4, K'.2.1 _ _ h5 (ninS (fun q => ?_) nin0), h6, h7⟩
  subst q
  cases h5.symm.trans e1
  rw [h6] at e4; cases e4
theorem own_ins_keep {Z : State} {h h' : Heap} {a : Addr} {C : String} {b : Bool} {ws : List Addr} (F : Ins Z h a C b) (K : Keep h h' ws) : Ins Z h' a C b := by
  obtain ⟨cell, cT, h1, h2, h3⟩ := F
  obtain ⟨c', q, e1, e2, -⟩ := K.2.2 _ _ h1
  exact ⟨c', cT, q, h2, by rw [e1, e2]; exact h3⟩
def Obj (Z : State) (h : Heap) (v : Value) : Prop := v = .null ∨ ∃ y, v = .ref y ∧ Ins Z h y "java/lang/Object" true
theorem own_obj_keep {Z : State} {h h' : Heap} {v : Value} {ws : List Addr} (F : Obj Z h v) (K : Keep h h' ws) : Obj Z h' v := F.imp id fun ⟨y, e, q⟩ => ⟨y, e, own_ins_keep q K⟩
theorem own_obj {Z : State} {h : Heap} {a : Addr} {C : String} {a0 : Array Value} (E : Exa Z h a C) (w : (Jvm.Cond.castable C "java/lang/Object").before a0 Z = true) : Obj Z h (.ref a) := Or.inr ⟨a, rfl, Ins.of_exa E w⟩
theorem own_sto {Z : State} {h : Heap} {a : Addr} {c : Cell} {ty : FieldType} {k : ClassId} {v : Value} (A : Arr Z h a c ty) (q : c.cls = k) (O : Ovr Z k "java/lang/Object") (F : Obj Z h v) : Sto Z h a v := by
  rcases F with rfl | ⟨y, rfl, I⟩
  · exact Or.inl rfl
  · exact Sto.ofV A q O I
theorem own_mirror {Z s : State} {args : Array Value} {C : String} {a : Addr} (hZ : Z.Warmed39 s.vm) (M : Mir Z C a) : (Term.mirror C).eval args s none [] s = some (.ref a) := by
  obtain ⟨c, k, f1, f2, f3, -⟩ := M
  obtain ⟨k', q, ek⟩ := hZ.alike.2.2 _ _ f2
  have f1' : s.vm.findClass C = some c := by rw [hZ.alike.findClass]; exact f1
  have f3' : k'.mirror = some a := by rw [ek]; exact f3
  simp [Term.eval, f1', q, f3']
theorem own_arv0 {Z : State} {h : Heap} {a : Addr} {c : Cell} {ty : FieldType} (A : Arr Z h a c ty) (L : c.slots.size = 0) : Arv Z h a c.cls ty (0 : Int32) [] .null :=
  ⟨c, A, rfl, by rw [L]; rfl, by decide, fun k hk => absurd hk (by omega), fun i hi => absurd hi (by omega)⟩
theorem own_len {Z : State} {args : Array Value} {a : Addr} {t : Term} {cl : Cell} {ty : FieldType} {k : Int32} {n : Nat} (ev : t.eval args Z none [] Z = some (.ref a)) (A : Arr Z Z.heap a cl ty) (h : (Jvm.Cond.eq (Term.length t) (Term.int k)).value args Z none Z [] = some true) (hn : k.toInt = n) : cl.slots.size = n := by
  obtain ⟨x, y, h1, h2, hk, hk'⟩ := cmp_v (Or.inl h)
  have hy : y = .int k := Option.some.inj (h2.symm.trans (Term.int_eval k))
  subst hy
  obtain ⟨z, rfl⟩ := hk'
  have q : z = k := by simpa [Cond.value, h1, h2] using h
  subst q
  have hA := Arr.fin (Vm.Alike.refl _) A
  simp only [Term.eval, ev, hA, Option.bind_eq_bind, Option.bind_some] at h1
  split at h1
  · rename_i hl
    have hz : cl.slots.size.toInt32 = z := by simpa using h1
    rw [← hz, len_toInt hl] at hn
    omega
  · cases h1
theorem own_root {Z : State} {a0 : Array Value} {O K : String} {t : ClassId} (w : (Jvm.Cond.noSuperclass O).before a0 Z = true) (g : Z.vm.findClass K = some t) (hn : O ≠ K) : NS Z O K := by
  obtain ⟨c, k, h1, h2, h3, -⟩ := Cond.noSuperclass_spec w
  refine ⟨c, t, h1, g, fun fuel => ?_⟩
  rcases fuel with _ | f
  · rfl
  · simp [Vm.isSubclassAux, ids_ne h1 g hn, h2, h3]
theorem own_apart {Z : State} {C K : String} {c t : ClassId} {kc k : Class} (n : NS Z C K) (hne : C ≠ K) (f1 : Z.vm.findClass C = some c) (f2 : Z.vm.classes[c]? = some kc) (f3 : kc.kind = .ordinary) (g1 : Z.vm.findClass K = some t) (g2 : Z.vm.classes[t]? = some k) (g3 : k.isInterface = false) :
    ∃ c t, Z.vm.findClass C = some c ∧ Z.vm.findClass K = some t ∧ Z.vm.assignable c t = false := by
  obtain ⟨c', t', h1, h2, h3⟩ := n
  cases h1.symm.trans f1
  cases h2.symm.trans g1
  refine ⟨_, _, h1, h2, ?_⟩
  have ne := ids_ne h1 h2 hne
  show Z.vm.assignableAux (255 + 1) _ _ = false
  cases hkk : k.kind <;> simp [Vm.assignableAux, ne, f2, g2, f3, g3, hkk, Vm.isSubclass, h3]
theorem own_not12 {Z : State} {a0 : Array Value} (hw : ∀ d ∈ tables_1, d.before a0 Z = true) : ∃ c t, Z.vm.findClass "java/util/ArrayList" = some c ∧ Z.vm.findClass "java/util/ImmutableCollections$List12" = some t ∧ Z.vm.assignable c t = false := by
  obtain ⟨cA, f1⟩ := found_sup (hw _ (List.mem_of_getElem? (i := 78) rfl))
  obtain ⟨pA, kA, kpA, s1, f2, s3, s4, f3, -⟩ := Cond.superclass_spec f1 (hw _ (List.mem_of_getElem? (i := 78) rfl))
  have wi := (hw _ (List.mem_of_getElem? (i := 199) rfl))
  obtain ⟨t, k, g1, g2, -⟩ := Cond.instantiable_spec wi
  have g3 : k.isInterface = false := by
    simp only [Cond.before, Cond.holds, Cond.value, g1, g2, Option.bind_some, Option.map_some, beq_iff_eq, Option.some.injEq, Bool.and_eq_true, Bool.not_eq_true', Bool.or_eq_false_iff] at wi
    exact wi.1.1.2.1
  exact own_apart (NS.step (hw _ (List.mem_of_getElem? (i := 78) rfl)) (NS.step (hw _ (List.mem_of_getElem? (i := 79) rfl)) (NS.step (hw _ (List.mem_of_getElem? (i := 80) rfl)) (own_root (hw _ (List.mem_of_getElem? (i := 81) rfl)) g1 (by decide)) (by decide)) (by decide)) (by decide)) (by decide) f1 f2 f3 g1 g2 g3
theorem own_notN {Z : State} {a0 : Array Value} (hw : ∀ d ∈ tables_1, d.before a0 Z = true) : ∃ c t, Z.vm.findClass "java/util/ArrayList" = some c ∧ Z.vm.findClass "java/util/ImmutableCollections$ListN" = some t ∧ Z.vm.assignable c t = false := by
  obtain ⟨cA, f1⟩ := found_sup (hw _ (List.mem_of_getElem? (i := 78) rfl))
  obtain ⟨pA, kA, kpA, s1, f2, s3, s4, f3, -⟩ := Cond.superclass_spec f1 (hw _ (List.mem_of_getElem? (i := 78) rfl))
  obtain ⟨c2, r2, m2, q1, q2, q3, q4, k, g2, g3⟩ := Cond.selects_spec (hw _ (List.mem_of_getElem? (i := 239) rfl))
  have g1 := findClass_of_methodNamed q3
  exact own_apart (NS.step (hw _ (List.mem_of_getElem? (i := 78) rfl)) (NS.step (hw _ (List.mem_of_getElem? (i := 79) rfl)) (NS.step (hw _ (List.mem_of_getElem? (i := 80) rfl)) (own_root (hw _ (List.mem_of_getElem? (i := 81) rfl)) g1 (by decide)) (by decide)) (by decide)) (by decide)) (by decide) f1 f2 f3 g1 g2 g3
def AlF (Z : State) (h : Heap) (a : Addr) (mc : Int32) (ed : Value) (n : Int32) : Prop := Exa Z h a "java/util/ArrayList" ∧ Fld Z h a "java/util/AbstractList" "modCount" "I" (.int mc) ∧ Fld Z h a "java/util/ArrayList" "elementData" "[Ljava/lang/Object;" ed ∧ Fld Z h a "java/util/ArrayList" "size" "I" (.int n)
def QAL (Z : State) (a1 : Addr) (mc : Int32) (ed : Value) (n : Int32) (h0 : Heap) (n0 : Nat) (v : Option Value) (h : Heap) (L : List Loc) : Prop := v = none ∧ Fr n0 L ∧ Keep h0 h [a1] ∧ AlF Z h a1 mc ed n
def QK (a1 : Addr) (h0 : Heap) (n0 : Nat) (v : Option Value) (h : Heap) (L : List Loc) : Prop := v = none ∧ Fr n0 L ∧ Keep h0 h [a1]
def QE (Z : State) (a1 : Addr) (C : String) (h0 : Heap) (n0 : Nat) (v : Option Value) (h : Heap) (L : List Loc) : Prop := v = none ∧ Fr n0 L ∧ Keep h0 h [a1] ∧ Exa Z h a1 C
def QTr (Z : State) (a1 w_el : Addr) (h0 : Heap) (n0 : Nat) (v : Option Value) (h : Heap) (L : List Loc) : Prop := v = none ∧ Fr n0 L ∧ Keep h0 h [a1] ∧ Exa Z h a1 "com/example/refleash/refleash/heap/Trace" ∧ Fld Z h a1 "com/example/refleash/refleash/heap/Trace" "hops" "Ljava/util/List;" (.ref w_el)
def QGr (Z : State) (a1 : Addr) (mc : Int32) (h0 : Heap) (n0 : Nat) (v : Option Value) (h : Heap) (L : List Loc) : Prop := ∃ (r : Addr) (k : ClassId), v = some (.ref r) ∧ Fr n0 L ∧ Keep h0 h [a1] ∧ h0.size ≤ r ∧ Ovr Z k "java/lang/Object" ∧ Exa Z h r "[Ljava/lang/Object;" ∧ Arv Z h r k (.object "java/lang/Object") (10 : Int32) [.null, .null, .null, .null, .null, .null, .null, .null, .null, .null] .null ∧ AlF Z h a1 mc (.ref r) 0
def QAd (Z : State) (a1 x2 : Addr) (mc : Int32) (vr : Option Value) (h0 : Heap) (n0 : Nat) (v : Option Value) (h : Heap) (L : List Loc) : Prop := ∃ (r : Addr) (k : ClassId), v = vr ∧ Fr n0 L ∧ Keep h0 h [a1] ∧ h0.size ≤ r ∧ Exa Z h r "[Ljava/lang/Object;" ∧ Arv Z h r k (.object "java/lang/Object") (10 : Int32) [.ref x2, .null, .null, .null, .null, .null, .null, .null, .null, .null] .null ∧ AlF Z h a1 mc (.ref r) 1
def QC3 (Z : State) (x2 : Addr) (h0 : Heap) (n0 : Nat) (v : Option Value) (h : Heap) (L : List Loc) : Prop := ∃ (r : Addr) (k : ClassId), v = some (.ref r) ∧ Fr n0 L ∧ Keep h0 h [] ∧ h0.size ≤ r ∧ Arv Z h r k (.object "java/lang/Object") (1 : Int32) [.ref x2] .null
def QTw (Z : State) (a1 w_em : Addr) (h0 : Heap) (n0 : Nat) (v : Option Value) (h : Heap) (L : List Loc) : Prop := v = none ∧ Fr n0 L ∧ Keep h0 h [a1] ∧ Exa Z h a1 "java/util/ImmutableCollections$List12" ∧ Fld Z h a1 "java/util/ImmutableCollections$List12" "e1" "Ljava/lang/Object;" (.ref w_em)
def QLo (Z : State) (w_em : Addr) (h0 : Heap) (n0 : Nat) (v : Option Value) (h : Heap) (L : List Loc) : Prop := ∃ (r : Addr), v = some (.ref r) ∧ Fr n0 L ∧ Keep h0 h [] ∧ h0.size ≤ r ∧ Exa Z h r "java/util/ImmutableCollections$List12" ∧ Fld Z h r "java/util/ImmutableCollections$List12" "e1" "Ljava/lang/Object;" (.ref w_em)
def QLk (Z : State) (a1 : Addr) (p6 p7 : Int32) (h0 : Heap) (n0 : Nat) (v : Option Value) (h : Heap) (L : List Loc) : Prop := v = none ∧ Fr n0 L ∧ Keep h0 h [a1] ∧ Exa Z h a1 "com/example/refleash/refleash/heap/Leak" ∧ Fld Z h a1 "com/example/refleash/refleash/heap/Leak" "firstSuspect" "I" (.int p6) ∧ Fld Z h a1 "com/example/refleash/refleash/heap/Leak" "endSuspect" "I" (.int p7)
theorem d2_0 : decode jdk_30_method_1_code 0 = .ok (.aload_n 0, 1) := by decide +kernel
theorem d2_1 : decode jdk_30_method_1_code 1 = .ok (.invokespecial 1, 3) := by decide +kernel
theorem d2_4 : decode jdk_30_method_1_code 4 = .ok (.return_, 1) := by decide +kernel
theorem ef_2_R (m : MethodId) (x0 : Addr) : entryFrame m #[(.ref x0)] 1 = mkF m 0 #[.val (.ref x0)] [] := by first | (simp [entryFrame, mkF, argsToLocals, Value.category]; done) | (simp [entryFrame, mkF, argsToLocals, own_cr, own_ci, own_cj]; done) | rfl
theorem pn_java_lang_Record : plainName "java/lang/Record" = true := by first | (simp [plainName, overriddenIn]; done) | decide +kernel
set_option maxRecDepth 65536 in
set_option maxHeartbeats 40000000 in
theorem sup_2 (l : Launch) (Z : State) (a0 : Array Value) (hw : ∀ d ∈ tables_1, d.before a0 Z = true) (ws : List Jvm.Cond) (a1 : Addr) (h0 : Heap) (n0 : Nat) (Z0 : n0 ≤ h0.size) :
    MetFree l (⟨"java/lang/Record", "<init>", "()V"⟩ : MethodName) (head1 (Jvm.Cond.code (⟨"java/lang/Record", "<init>", "()V"⟩ : MethodName) jdk_30_method_1_code 1 none :: ws) ({ frames := 1, cells := 0, slots := 0, locals := 12 } : Room)) (fun a U => a = #[(.ref a1)] ∧ Z.Warmed39 U.vm ∧ U.heap = h0) (fun _ _ _ _ _ => True) (fun _ U o U' => ∃ v L, o = .returned v ∧ QN h0 n0 v U'.heap L ∧ FrameEnd U o U' L ({ frames := 1, cells := 0, slots := 0, locals := 12 } : Room).cells ({ frames := 1, cells := 0, slots := 0, locals := 12 } : Room).slots) := by
  refine MetFree.of_bodySF (plainFor_of_name pn_java_lang_Record) hisR ?_
  intro p e s m args below meth c s₁ Bd hml0 hP hK
  obtain ⟨rfl, hZ, hh⟩ := hP
  have hx := Bd.exec
  have hby := Bd.bytes
  have hml : c.maxLocals = 1 := hml0
  have hown : s.vm.findClass "java/lang/Record" = some m.cls := findClass_of_methodNamed Bd.named
  have hnm := (name_of_methodNamed Bd.named Bd.method).1
  have X0 : Stand p l e ({ frames := 1, cells := 0, slots := 0, locals := 12 } : Room) s m #[(.ref a1)] below meth c s₁ [] 0 0 := Stand.of_body Bd
  have e0 : s₁.heap = h0 := by rw [← hh, Bd.state]; rfl
  have N0 := Fr.nil n0
  have pre0 : ∀ t, Steps p.tables e below (s₁.setTop (mkF m 0 #[.val (.ref a1)] [])) t → Steps p.tables e below (s₁.setTop (entryFrame m #[(.ref a1)] 1)) t := fun t k => castTop (ef_2_R m a1) k
  obtain ⟨T1, X1, e1, st1⟩ := initO X0 hx hZ hown (hw _ (List.mem_of_getElem? (i := 25) rfl)) (hw _ (List.mem_of_getElem? (i := 26) rfl)) (hw _ (List.mem_of_getElem? (i := 27) rfl)) e0 (g := (mkF m 1 #[.val (.ref a1)] [(.ref a1)])) rfl (by rw [hml]; rfl) rfl (hb hby d2_1) (by decide) (W := 0) (by show 2 * 0 + _ ≤ _; exact Nat.le_of_eq rfl) (by decide)
  obtain ⟨fs, hr, hrun, hended, hW, hsame⟩ := X1.leave (v := none) (fun _ => rfl)
  refine ⟨_, _, pre0 _ ?_, hrun, hended, _, _, rfl, ?_, ⟨_, rfl⟩, hW, hsame.mono (by decide) (by decide)⟩
  · show Steps p.tables e below (s₁.setTop (mkF m 0 #[.val (.ref a1)] [])) _
    refine XS.aloadN X0.here hx rfl (hb hby d2_0) rfl rfl ?_
    show Steps p.tables e below (s₁.setTop (mkF m 1 #[.val (.ref a1)] [(.ref a1)])) _
    refine st1 _ ?_
    show Steps p.tables e below (T1.setTop (mkF m 4 #[.val (.ref a1)] [])) _
    exact X1.returnOut hx Bd.returns (hb hby d2_4) hr
  · show QN h0 n0 _ T1.heap _
    rw [e1]
    exact ⟨rfl, N0, rfl⟩
theorem d7_0 : decode jdk_22_method_1_code 0 = .ok (.aload_n 0, 1) := by decide +kernel
theorem d7_1 : decode jdk_22_method_1_code 1 = .ok (.invokespecial 1, 3) := by decide +kernel
theorem d7_4 : decode jdk_22_method_1_code 4 = .ok (.return_, 1) := by decide +kernel
theorem ef_7_R (m : MethodId) (x0 : Addr) : entryFrame m #[(.ref x0)] 1 = mkF m 0 #[.val (.ref x0)] [] := by first | (simp [entryFrame, mkF, argsToLocals, Value.category]; done) | (simp [entryFrame, mkF, argsToLocals, own_cr, own_ci, own_cj]; done) | rfl
theorem pn_java_util_AbstractCollection : plainName "java/util/AbstractCollection" = true := by first | (simp [plainName, overriddenIn]; done) | decide +kernel
set_option maxRecDepth 65536 in
set_option maxHeartbeats 40000000 in
theorem sup_7 (l : Launch) (Z : State) (a0 : Array Value) (hw : ∀ d ∈ tables_1, d.before a0 Z = true) (ws : List Jvm.Cond) (a1 : Addr) (h0 : Heap) (n0 : Nat) (Z0 : n0 ≤ h0.size) :
    MetFree l (⟨"java/util/AbstractCollection", "<init>", "()V"⟩ : MethodName) (head1 (Jvm.Cond.code (⟨"java/util/AbstractCollection", "<init>", "()V"⟩ : MethodName) jdk_22_method_1_code 1 none :: ws) ({ frames := 1, cells := 0, slots := 0, locals := 12 } : Room)) (fun a U => a = #[(.ref a1)] ∧ Z.Warmed39 U.vm ∧ U.heap = h0) (fun _ _ _ _ _ => True) (fun _ U o U' => ∃ v L, o = .returned v ∧ QN h0 n0 v U'.heap L ∧ FrameEnd U o U' L ({ frames := 1, cells := 0, slots := 0, locals := 12 } : Room).cells ({ frames := 1, cells := 0, slots := 0, locals := 12 } : Room).slots) := by
  refine MetFree.of_bodySF (plainFor_of_name pn_java_util_AbstractCollection) hisR ?_
  intro p e s m args below meth c s₁ Bd hml0 hP hK
  obtain ⟨rfl, hZ, hh⟩ := hP
  have hx := Bd.exec
  have hby := Bd.bytes
  have hml : c.maxLocals = 1 := hml0
  have hown : s.vm.findClass "java/util/AbstractCollection" = some m.cls := findClass_of_methodNamed Bd.named
  have hnm := (name_of_methodNamed Bd.named Bd.method).1
  have X0 : Stand p l e ({ frames := 1, cells := 0, slots := 0, locals := 12 } : Room) s m #[(.ref a1)] below meth c s₁ [] 0 0 := Stand.of_body Bd
  have e0 : s₁.heap = h0 := by rw [← hh, Bd.state]; rfl
  have N0 := Fr.nil n0
  have pre0 : ∀ t, Steps p.tables e below (s₁.setTop (mkF m 0 #[.val (.ref a1)] [])) t → Steps p.tables e below (s₁.setTop (entryFrame m #[(.ref a1)] 1)) t := fun t k => castTop (ef_7_R m a1) k
  obtain ⟨T1, X1, e1, st1⟩ := initO X0 hx hZ hown (hw _ (List.mem_of_getElem? (i := 58) rfl)) (hw _ (List.mem_of_getElem? (i := 26) rfl)) (hw _ (List.mem_of_getElem? (i := 27) rfl)) e0 (g := (mkF m 1 #[.val (.ref a1)] [(.ref a1)])) rfl (by rw [hml]; rfl) rfl (hb hby d7_1) (by decide) (W := 0) (by show 2 * 0 + _ ≤ _; exact Nat.le_of_eq rfl) (by decide)
  obtain ⟨fs, hr, hrun, hended, hW, hsame⟩ := X1.leave (v := none) (fun _ => rfl)
  refine ⟨_, _, pre0 _ ?_, hrun, hended, _, _, rfl, ?_, ⟨_, rfl⟩, hW, hsame.mono (by decide) (by decide)⟩
  · show Steps p.tables e below (s₁.setTop (mkF m 0 #[.val (.ref a1)] [])) _
    refine XS.aloadN X0.here hx rfl (hb hby d7_0) rfl rfl ?_
    show Steps p.tables e below (s₁.setTop (mkF m 1 #[.val (.ref a1)] [(.ref a1)])) _
    refine st1 _ ?_
    show Steps p.tables e below (T1.setTop (mkF m 4 #[.val (.ref a1)] [])) _
    exact X1.returnOut hx Bd.returns (hb hby d7_4) hr
  · show QN h0 n0 _ T1.heap _
    rw [e1]
    exact ⟨rfl, N0, rfl⟩
theorem d27_0 : decode jdk_47_method_1_code 0 = .ok (.aload_n 0, 1) := by decide +kernel
theorem d27_1 : decode jdk_47_method_1_code 1 = .ok (.invokespecial 1, 3) := by decide +kernel
theorem pd___V : parseMethodDescriptor "()V" = some ⟨[], none⟩ := by decide +kernel
theorem d27_4 : decode jdk_47_method_1_code 4 = .ok (.return_, 1) := by decide +kernel
theorem ef_27_R (m : MethodId) (x0 : Addr) : entryFrame m #[(.ref x0)] 1 = mkF m 0 #[.val (.ref x0)] [] := by first | (simp [entryFrame, mkF, argsToLocals, Value.category]; done) | (simp [entryFrame, mkF, argsToLocals, own_cr, own_ci, own_cj]; done) | rfl
theorem pn_java_util_ImmutableCollections_AbstractImmutableCollection : plainName "java/util/ImmutableCollections$AbstractImmutableCollection" = true := by first | (simp [plainName, overriddenIn]; done) | decide +kernel
set_option maxRecDepth 65536 in
set_option maxHeartbeats 40000000 in
theorem sup_27 (l : Launch) (Z : State) (a0 : Array Value) (hw : ∀ d ∈ tables_1, d.before a0 Z = true) (ws : List Jvm.Cond) (a1 : Addr) (h0 : Heap) (n0 : Nat) (Z0 : n0 ≤ h0.size) :
    MetFree l (⟨"java/util/ImmutableCollections$AbstractImmutableCollection", "<init>", "()V"⟩ : MethodName) (head1 (Jvm.Cond.code (⟨"java/util/ImmutableCollections$AbstractImmutableCollection", "<init>", "()V"⟩ : MethodName) jdk_47_method_1_code 1 none :: ws) ({ frames := 2, cells := 0, slots := 0, locals := 24 } : Room)) (fun a U => a = #[(.ref a1)] ∧ Z.Warmed39 U.vm ∧ U.heap = h0) (fun _ _ _ _ _ => True) (fun _ U o U' => ∃ v L, o = .returned v ∧ QN h0 n0 v U'.heap L ∧ FrameEnd U o U' L ({ frames := 2, cells := 0, slots := 0, locals := 24 } : Room).cells ({ frames := 2, cells := 0, slots := 0, locals := 24 } : Room).slots) := by
  refine MetFree.of_bodySF (plainFor_of_name pn_java_util_ImmutableCollections_AbstractImmutableCollection) hisR ?_
  intro p e s m args below meth c s₁ Bd hml0 hP hK
  obtain ⟨rfl, hZ, hh⟩ := hP
  have hx := Bd.exec
  have hby := Bd.bytes
  have hml : c.maxLocals = 1 := hml0
  have hown : s.vm.findClass "java/util/ImmutableCollections$AbstractImmutableCollection" = some m.cls := findClass_of_methodNamed Bd.named
  have hnm := (name_of_methodNamed Bd.named Bd.method).1
  have X0 : Stand p l e ({ frames := 2, cells := 0, slots := 0, locals := 24 } : Room) s m #[(.ref a1)] below meth c s₁ [] 0 0 := Stand.of_body Bd
  have e0 : s₁.heap = h0 := by rw [← hh, Bd.state]; rfl
  have N0 := Fr.nil n0
  have pre0 : ∀ t, Steps p.tables e below (s₁.setTop (mkF m 0 #[.val (.ref a1)] [])) t → Steps p.tables e below (s₁.setTop (entryFrame m #[(.ref a1)] 1)) t := fun t k => castTop (ef_27_R m a1) k
  obtain ⟨_, _, ⟨T1, L1, k1, n1⟩, -, X1, ⟨Lc1, hQ1, l1, y1, z1⟩, st1⟩ := X0.specialBack hx (y := (⟨"java/util/AbstractCollection", "<init>", "()V"⟩ : MethodName)) rfl hown (mvT hZ (hw _ (List.mem_of_getElem? (i := 217) rfl))) (mvT hZ (hw _ (List.mem_of_getElem? (i := 53) rfl))) (mvT hZ (hw _ (List.mem_of_getElem? (i := 57) rfl))) (by decide) (backOf (W := 0) (sup_7 l Z a0 hw [] a1 h0 n0 Z0 ) hZ (hw _ (List.mem_of_getElem? (i := 57) rfl)) (hw _ (List.mem_of_getElem? (i := 56) rfl)) (by decide) (by decide)) (g := (mkF m 1 #[.val (.ref a1)] [(.ref a1)])) rfl (by rw [hml]; rfl) (Steps.refl _) (a := a1) (argsL := []) (rest := []) (lenOf pd___V rfl) rfl (by show 2 * 0 + _ ≤ _; exact Nat.le_of_eq rfl) (hb hby d27_1) (fun _ _ => ⟨rfl, e0, (by decide : 0 + 0 ≤ _), (by decide : 0 + 0 ≤ _)⟩)
  dsimp only [Pt.U, Pt.locs, Pt.cells, Pt.slots] at X1 l1 y1 z1 st1 hQ1
  subst l1 y1 z1
  obtain ⟨rfl, N1q, e1⟩ := hQ1
  have N1 := Fr.app N0 N1q
  obtain ⟨fs, hr, hrun, hended, hW, hsame⟩ := X1.leave (v := none) (fun _ => rfl)
  refine ⟨_, _, pre0 _ ?_, hrun, hended, _, _, rfl, ?_, ⟨_, rfl⟩, hW, hsame.mono (by decide) (by decide)⟩
  · show Steps p.tables e below (s₁.setTop (mkF m 0 #[.val (.ref a1)] [])) _
    refine XS.aloadN X0.here hx rfl (hb hby d27_0) rfl rfl ?_
    show Steps p.tables e below (s₁.setTop (mkF m 1 #[.val (.ref a1)] [(.ref a1)])) _
    refine st1.trans ?_
    show Steps p.tables e below (T1.setTop (mkF m 4 #[.val (.ref a1)] [])) _
    exact X1.returnOut hx Bd.returns (hb hby d27_4) hr
  · show QN h0 n0 _ T1.heap _
    rw [e1]
    exact ⟨rfl, N1, rfl⟩
theorem d26_0 : decode jdk_46_method_1_code 0 = .ok (.aload_n 0, 1) := by decide +kernel
theorem d26_1 : decode jdk_46_method_1_code 1 = .ok (.invokespecial 1, 3) := by decide +kernel
theorem d26_4 : decode jdk_46_method_1_code 4 = .ok (.return_, 1) := by decide +kernel
theorem ef_26_R (m : MethodId) (x0 : Addr) : entryFrame m #[(.ref x0)] 1 = mkF m 0 #[.val (.ref x0)] [] := by first | (simp [entryFrame, mkF, argsToLocals, Value.category]; done) | (simp [entryFrame, mkF, argsToLocals, own_cr, own_ci, own_cj]; done) | rfl
theorem pn_java_util_ImmutableCollections_AbstractImmutableList : plainName "java/util/ImmutableCollections$AbstractImmutableList" = true := by first | (simp [plainName, overriddenIn]; done) | decide +kernel
set_option maxRecDepth 65536 in
set_option maxHeartbeats 40000000 in
theorem sup_26 (l : Launch) (Z : State) (a0 : Array Value) (hw : ∀ d ∈ tables_1, d.before a0 Z = true) (ws : List Jvm.Cond) (a1 : Addr) (h0 : Heap) (n0 : Nat) (Z0 : n0 ≤ h0.size) :
    MetFree l (⟨"java/util/ImmutableCollections$AbstractImmutableList", "<init>", "()V"⟩ : MethodName) (head1 (Jvm.Cond.code (⟨"java/util/ImmutableCollections$AbstractImmutableList", "<init>", "()V"⟩ : MethodName) jdk_46_method_1_code 1 none :: ws) ({ frames := 3, cells := 0, slots := 0, locals := 36 } : Room)) (fun a U => a = #[(.ref a1)] ∧ Z.Warmed39 U.vm ∧ U.heap = h0) (fun _ _ _ _ _ => True) (fun _ U o U' => ∃ v L, o = .returned v ∧ QN h0 n0 v U'.heap L ∧ FrameEnd U o U' L ({ frames := 3, cells := 0, slots := 0, locals := 36 } : Room).cells ({ frames := 3, cells := 0, slots := 0, locals := 36 } : Room).slots) := by
  refine MetFree.of_bodySF (plainFor_of_name pn_java_util_ImmutableCollections_AbstractImmutableList) hisR ?_
  intro p e s m args below meth c s₁ Bd hml0 hP hK
  obtain ⟨rfl, hZ, hh⟩ := hP
  have hx := Bd.exec
  have hby := Bd.bytes
  have hml : c.maxLocals = 1 := hml0
  have hown : s.vm.findClass "java/util/ImmutableCollections$AbstractImmutableList" = some m.cls := findClass_of_methodNamed Bd.named
  have hnm := (name_of_methodNamed Bd.named Bd.method).1
  have X0 : Stand p l e ({ frames := 3, cells := 0, slots := 0, locals := 36 } : Room) s m #[(.ref a1)] below meth c s₁ [] 0 0 := Stand.of_body Bd
  have e0 : s₁.heap = h0 := by rw [← hh, Bd.state]; rfl
  have N0 := Fr.nil n0
  have pre0 : ∀ t, Steps p.tables e below (s₁.setTop (mkF m 0 #[.val (.ref a1)] [])) t → Steps p.tables e below (s₁.setTop (entryFrame m #[(.ref a1)] 1)) t := fun t k => castTop (ef_26_R m a1) k
  obtain ⟨_, _, ⟨T1, L1, k1, n1⟩, -, X1, ⟨Lc1, hQ1, l1, y1, z1⟩, st1⟩ := X0.specialBack hx (y := (⟨"java/util/ImmutableCollections$AbstractImmutableCollection", "<init>", "()V"⟩ : MethodName)) rfl hown (mvT hZ (hw _ (List.mem_of_getElem? (i := 211) rfl))) (mvT hZ (hw _ (List.mem_of_getElem? (i := 212) rfl))) (mvT hZ (hw _ (List.mem_of_getElem? (i := 216) rfl))) (by decide) (backOf (W := 0) (sup_27 l Z a0 hw [] a1 h0 n0 Z0 ) hZ (hw _ (List.mem_of_getElem? (i := 216) rfl)) (hw _ (List.mem_of_getElem? (i := 215) rfl)) (by decide) (by decide)) (g := (mkF m 1 #[.val (.ref a1)] [(.ref a1)])) rfl (by rw [hml]; rfl) (Steps.refl _) (a := a1) (argsL := []) (rest := []) (lenOf pd___V rfl) rfl (by show 2 * 0 + _ ≤ _; exact Nat.le_of_eq rfl) (hb hby d26_1) (fun _ _ => ⟨rfl, e0, (by decide : 0 + 0 ≤ _), (by decide : 0 + 0 ≤ _)⟩)
  dsimp only [Pt.U, Pt.locs, Pt.cells, Pt.slots] at X1 l1 y1 z1 st1 hQ1
  subst l1 y1 z1
  obtain ⟨rfl, N1q, e1⟩ := hQ1
  have N1 := Fr.app N0 N1q
  obtain ⟨fs, hr, hrun, hended, hW, hsame⟩ := X1.leave (v := none) (fun _ => rfl)
  refine ⟨_, _, pre0 _ ?_, hrun, hended, _, _, rfl, ?_, ⟨_, rfl⟩, hW, hsame.mono (by decide) (by decide)⟩
  · show Steps p.tables e below (s₁.setTop (mkF m 0 #[.val (.ref a1)] [])) _
    refine XS.aloadN X0.here hx rfl (hb hby d26_0) rfl rfl ?_
    show Steps p.tables e below (s₁.setTop (mkF m 1 #[.val (.ref a1)] [(.ref a1)])) _
    refine st1.trans ?_
    show Steps p.tables e below (T1.setTop (mkF m 4 #[.val (.ref a1)] [])) _
    exact X1.returnOut hx Bd.returns (hb hby d26_4) hr
  · show QN h0 n0 _ T1.heap _
    rw [e1]
    exact ⟨rfl, N1, rfl⟩
theorem d6_0 : decode jdk_39_method_1_code 0 = .ok (.aload_n 0, 1) := by decide +kernel
theorem d6_1 : decode jdk_39_method_1_code 1 = .ok (.invokespecial 1, 3) := by decide +kernel
theorem d6_4 : decode jdk_39_method_1_code 4 = .ok (.aload_n 0, 1) := by decide +kernel
theorem d6_5 : decode jdk_39_method_1_code 5 = .ok (.iconst 0, 1) := by decide +kernel
theorem d6_6 : decode jdk_39_method_1_code 6 = .ok (.putfield 7, 3) := by decide +kernel
theorem d6_9 : decode jdk_39_method_1_code 9 = .ok (.return_, 1) := by decide +kernel
theorem ef_6_R (m : MethodId) (x0 : Addr) : entryFrame m #[(.ref x0)] 1 = mkF m 0 #[.val (.ref x0)] [] := by first | (simp [entryFrame, mkF, argsToLocals, Value.category]; done) | (simp [entryFrame, mkF, argsToLocals, own_cr, own_ci, own_cj]; done) | rfl
theorem pn_java_util_AbstractList : plainName "java/util/AbstractList" = true := by first | (simp [plainName, overriddenIn]; done) | decide +kernel
set_option maxRecDepth 65536 in
set_option maxHeartbeats 40000000 in
theorem al0 (l : Launch) (Z : State) (a0 : Array Value) (hw : ∀ d ∈ tables_1, d.before a0 Z = true) (ws : List Jvm.Cond) (a1 : Addr) (h0 : Heap) (n0 : Nat) (Z0 : n0 ≤ h0.size) (F_modCount : Fld Z h0 a1 "java/util/AbstractList" "modCount" "I" (.int (0 : Int32))) (F_elementData : Fld Z h0 a1 "java/util/ArrayList" "elementData" "[Ljava/lang/Object;" .null) (F_size : Fld Z h0 a1 "java/util/ArrayList" "size" "I" (.int (0 : Int32))) (E_a1 : Exa Z h0 a1 "java/util/ArrayList") (g_a1 : n0 ≤ a1) :
    MetFree l (⟨"java/util/AbstractList", "<init>", "()V"⟩ : MethodName) (head1 (Jvm.Cond.code (⟨"java/util/AbstractList", "<init>", "()V"⟩ : MethodName) jdk_39_method_1_code 1 none :: ws) ({ frames := 2, cells := 0, slots := 0, locals := 24 } : Room)) (fun a U => a = #[(.ref a1)] ∧ Z.Warmed39 U.vm ∧ U.heap = h0) (fun _ _ _ _ _ => True) (fun _ U o U' => ∃ v L, o = .returned v ∧ QAL Z a1 0 .null 0 h0 n0 v U'.heap L ∧ FrameEnd U o U' L ({ frames := 2, cells := 0, slots := 0, locals := 24 } : Room).cells ({ frames := 2, cells := 0, slots := 0, locals := 24 } : Room).slots) := by
  refine MetFree.of_bodySF (plainFor_of_name pn_java_util_AbstractList) hisR ?_
  intro p e s m args below meth c s₁ Bd hml0 hP hK
  obtain ⟨rfl, hZ, hh⟩ := hP
  have hx := Bd.exec
  have hby := Bd.bytes
  have hml : c.maxLocals = 1 := hml0
  have hown : s.vm.findClass "java/util/AbstractList" = some m.cls := findClass_of_methodNamed Bd.named
  have hnm := (name_of_methodNamed Bd.named Bd.method).1
  have X0 : Stand p l e ({ frames := 2, cells := 0, slots := 0, locals := 24 } : Room) s m #[(.ref a1)] below meth c s₁ [] 0 0 := Stand.of_body Bd
  have e0 : s₁.heap = h0 := by rw [← hh, Bd.state]; rfl
  have N0 := Fr.nil n0
  have pre0 : ∀ t, Steps p.tables e below (s₁.setTop (mkF m 0 #[.val (.ref a1)] [])) t → Steps p.tables e below (s₁.setTop (entryFrame m #[(.ref a1)] 1)) t := fun t k => castTop (ef_6_R m a1) k
  obtain ⟨_, _, ⟨T1, L1, k1, n1⟩, -, X1, ⟨Lc1, hQ1, l1, y1, z1⟩, st1⟩ := X0.specialBack hx (y := (⟨"java/util/AbstractCollection", "<init>", "()V"⟩ : MethodName)) rfl hown (mvT hZ (hw _ (List.mem_of_getElem? (i := 52) rfl))) (mvT hZ (hw _ (List.mem_of_getElem? (i := 53) rfl))) (mvT hZ (hw _ (List.mem_of_getElem? (i := 57) rfl))) (by decide) (backOf (W := 0) (sup_7 l Z a0 hw [] a1 h0 n0 Z0 ) hZ (hw _ (List.mem_of_getElem? (i := 57) rfl)) (hw _ (List.mem_of_getElem? (i := 56) rfl)) (by decide) (by decide)) (g := (mkF m 1 #[.val (.ref a1)] [(.ref a1)])) rfl (by rw [hml]; rfl) (Steps.refl _) (a := a1) (argsL := []) (rest := []) (lenOf pd___V rfl) rfl (by show 2 * 0 + _ ≤ _; exact Nat.le_of_eq rfl) (hb hby d6_1) (fun _ _ => ⟨rfl, e0, (by decide : 0 + 0 ≤ _), (by decide : 0 + 0 ≤ _)⟩)
  dsimp only [Pt.U, Pt.locs, Pt.cells, Pt.slots] at X1 l1 y1 z1 st1 hQ1
  subst l1 y1 z1
  obtain ⟨rfl, N1q, e1⟩ := hQ1
  have N1 := Fr.app N0 N1q
  obtain ⟨T2, h2, X2, e2, W2, st2⟩ := putF X1 hx hZ hown (host := "") (Or.inl (hw _ (List.mem_of_getElem? (i := 59) rfl))) Via.refl e1 F_modCount E_a1 (Or.inl (hw _ (List.mem_of_getElem? (i := 60) rfl))) (hw _ (List.mem_of_getElem? (i := 41) rfl)) (ty := .int) (by decide) rfl rfl (g := (mkF m 6 #[.val (.ref a1)] [(.int (0 : Int32)), (.ref a1)])) rfl rfl (hb hby d6_6)
  have F2_modCount := F_modCount.same W2
  have F2_elementData := F_elementData.other W2 (Or.inr (slot_ne (Or.inl (hw _ (List.mem_of_getElem? (i := 63) rfl))) (Or.inl (hw _ (List.mem_of_getElem? (i := 60) rfl))) (by decide) (t := (.array (.object "java/lang/Object"))) (t' := .int) (by decide) (by decide)))
  have F2_size := F_size.other W2 (Or.inr (slot_ne (Or.inl (hw _ (List.mem_of_getElem? (i := 93) rfl))) (Or.inl (hw _ (List.mem_of_getElem? (i := 60) rfl))) (by decide) (t := .int) (t' := .int) (by decide) (by decide)))
  have E2_a1 := E_a1.wr W2
  have K2 : Keep h0 h2 [a1] := (Keep.refl h0 [a1]).wr W2 (Or.inl (List.mem_of_getElem? (i := 0) rfl))
  have N2 := Fr.snoc X2 N1 g_a1
  obtain ⟨fs, hr, hrun, hended, hW, hsame⟩ := X2.leave (v := none) (fun _ => rfl)
  refine ⟨_, _, pre0 _ ?_, hrun, hended, _, _, rfl, ?_, ⟨_, rfl⟩, hW, hsame.mono (by decide) (by decide)⟩
  · show Steps p.tables e below (s₁.setTop (mkF m 0 #[.val (.ref a1)] [])) _
    refine XS.aloadN X0.here hx rfl (hb hby d6_0) rfl rfl ?_
    show Steps p.tables e below (s₁.setTop (mkF m 1 #[.val (.ref a1)] [(.ref a1)])) _
    refine st1.trans ?_
    show Steps p.tables e below (T1.setTop (mkF m 4 #[.val (.ref a1)] [])) _
    refine XS.aloadN X1.here hx rfl (hb hby d6_4) rfl rfl ?_
    show Steps p.tables e below (T1.setTop (mkF m 5 #[.val (.ref a1)] [(.ref a1)])) _
    refine XS.iconst X1.here hx rfl (hb hby d6_5) ?_
    show Steps p.tables e below (T1.setTop (mkF m 6 #[.val (.ref a1)] [(.int (0 : Int32)), (.ref a1)])) _
    refine st2 _ ?_
    show Steps p.tables e below (T2.setTop (mkF m 9 #[.val (.ref a1)] [])) _
    exact X2.returnOut hx Bd.returns (hb hby d6_9) hr
  · show QAL Z a1 0 .null 0 h0 n0 _ T2.heap _
    rw [e2]
    exact ⟨rfl, N2, K2, ⟨E2_a1, F2_modCount, F2_elementData, F2_size⟩⟩
theorem d5_0 : decode jdk_38_method_2_code 0 = .ok (.aload_n 0, 1) := by decide +kernel
theorem d5_1 : decode jdk_38_method_2_code 1 = .ok (.invokespecial 1, 3) := by decide +kernel
theorem d5_4 : decode jdk_38_method_2_code 4 = .ok (.aload_n 0, 1) := by decide +kernel
theorem d5_5 : decode jdk_38_method_2_code 5 = .ok (.getstatic 39, 3) := by decide +kernel
theorem d5_8 : decode jdk_38_method_2_code 8 = .ok (.putfield 9, 3) := by decide +kernel
theorem d5_11 : decode jdk_38_method_2_code 11 = .ok (.return_, 1) := by decide +kernel
theorem ef_5_R (m : MethodId) (x0 : Addr) : entryFrame m #[(.ref x0)] 1 = mkF m 0 #[.val (.ref x0)] [] := by first | (simp [entryFrame, mkF, argsToLocals, Value.category]; done) | (simp [entryFrame, mkF, argsToLocals, own_cr, own_ci, own_cj]; done) | rfl
theorem pn_java_util_ArrayList : plainName "java/util/ArrayList" = true := by first | (simp [plainName, overriddenIn]; done) | decide +kernel
set_option maxRecDepth 65536 in
set_option maxHeartbeats 40000000 in
theorem al_init (l : Launch) (Z : State) (a0 : Array Value) (hw : ∀ d ∈ tables_1, d.before a0 Z = true) (ws : List Jvm.Cond) (a1 w_dc : Addr) (h0 : Heap) (n0 : Nat) (Z0 : n0 ≤ h0.size) (F_modCount : Fld Z h0 a1 "java/util/AbstractList" "modCount" "I" (.int (0 : Int32))) (F_elementData : Fld Z h0 a1 "java/util/ArrayList" "elementData" "[Ljava/lang/Object;" .null) (F_size : Fld Z h0 a1 "java/util/ArrayList" "size" "I" (.int (0 : Int32))) (E_a1 : Exa Z h0 a1 "java/util/ArrayList") (g_a1 : n0 ≤ a1) (S_dc : Sta Z h0 "java/util/ArrayList" "DEFAULTCAPACITY_EMPTY_ELEMENTDATA" "[Ljava/lang/Object;" (.ref w_dc)) :
    MetFree l (⟨"java/util/ArrayList", "<init>", "()V"⟩ : MethodName) (head1 (Jvm.Cond.code (⟨"java/util/ArrayList", "<init>", "()V"⟩ : MethodName) jdk_38_method_2_code 1 none :: ws) ({ frames := 3, cells := 0, slots := 0, locals := 36 } : Room)) (fun a U => a = #[(.ref a1)] ∧ Z.Warmed39 U.vm ∧ U.heap = h0) (fun _ _ _ _ _ => True) (fun _ U o U' => ∃ v L, o = .returned v ∧ QAL Z a1 0 (.ref w_dc) 0 h0 n0 v U'.heap L ∧ FrameEnd U o U' L ({ frames := 3, cells := 0, slots := 0, locals := 36 } : Room).cells ({ frames := 3, cells := 0, slots := 0, locals := 36 } : Room).slots) := by
  refine MetFree.of_bodySF (plainFor_of_name pn_java_util_ArrayList) hisR ?_
  intro p e s m args below meth c s₁ Bd hml0 hP hK
  obtain ⟨rfl, hZ, hh⟩ := hP
  have hx := Bd.exec
  have hby := Bd.bytes
  have hml : c.maxLocals = 1 := hml0
  have hown : s.vm.findClass "java/util/ArrayList" = some m.cls := findClass_of_methodNamed Bd.named
  have hnm := (name_of_methodNamed Bd.named Bd.method).1
  have X0 : Stand p l e ({ frames := 3, cells := 0, slots := 0, locals := 36 } : Room) s m #[(.ref a1)] below meth c s₁ [] 0 0 := Stand.of_body Bd
  have e0 : s₁.heap = h0 := by rw [← hh, Bd.state]; rfl
  have N0 := Fr.nil n0
  have pre0 : ∀ t, Steps p.tables e below (s₁.setTop (mkF m 0 #[.val (.ref a1)] [])) t → Steps p.tables e below (s₁.setTop (entryFrame m #[(.ref a1)] 1)) t := fun t k => castTop (ef_5_R m a1) k
  obtain ⟨_, _, ⟨T1, L1, k1, n1⟩, -, X1, ⟨Lc1, hQ1, l1, y1, z1⟩, st1⟩ := X0.specialBack hx (y := (⟨"java/util/AbstractList", "<init>", "()V"⟩ : MethodName)) rfl hown (mvT hZ (hw _ (List.mem_of_getElem? (i := 46) rfl))) (mvT hZ (hw _ (List.mem_of_getElem? (i := 47) rfl))) (mvT hZ (hw _ (List.mem_of_getElem? (i := 51) rfl))) (by decide) (backOf (W := 0) (al0 l Z a0 hw [] a1 h0 n0 Z0 F_modCount F_elementData F_size E_a1 g_a1) hZ (hw _ (List.mem_of_getElem? (i := 51) rfl)) (hw _ (List.mem_of_getElem? (i := 50) rfl)) (by decide) (by decide)) (g := (mkF m 1 #[.val (.ref a1)] [(.ref a1)])) rfl (by rw [hml]; rfl) (Steps.refl _) (a := a1) (argsL := []) (rest := []) (lenOf pd___V rfl) rfl (by show 2 * 0 + _ ≤ _; exact Nat.le_of_eq rfl) (hb hby d5_1) (fun _ _ => ⟨rfl, e0, (by decide : 0 + 0 ≤ _), (by decide : 0 + 0 ≤ _)⟩)
  dsimp only [Pt.U, Pt.locs, Pt.cells, Pt.slots] at X1 l1 y1 z1 st1 hQ1
  subst l1 y1 z1
  obtain ⟨rfl, N1q, K1q, E1q, F1q_modCount, F1q_elementData, F1q_size⟩ := hQ1
  have N1 := Fr.app N0 N1q
  have K1 : Keep h0 T1.heap [a1] := (Keep.refl h0 [a1]).trans K1q (allS (Or.inl (List.mem_of_getElem? (i := 0) rfl)) all0)
  obtain ⟨T2, X2, e2, st2⟩ := getS2 X1 hx hZ hown (host := "") (Or.inl (hw _ (List.mem_of_getElem? (i := 61) rfl))) Via.refl rfl (own_sta_keep1 S_dc E_a1 K1) (g := (mkF m 5 #[.val (.ref a1)] [(.ref a1)])) rfl (hb hby d5_5)
  obtain ⟨T3, h3, X3, e3, W3, st3⟩ := putF X2 hx hZ hown (host := "") (Or.inl (hw _ (List.mem_of_getElem? (i := 62) rfl))) Via.refl e2 F1q_elementData E1q (Or.inl (hw _ (List.mem_of_getElem? (i := 63) rfl))) (hw _ (List.mem_of_getElem? (i := 41) rfl)) (ty := (.array (.object "java/lang/Object"))) (by decide) rfl rfl (g := (mkF m 8 #[.val (.ref a1)] [(.ref w_dc), (.ref a1)])) rfl rfl (hb hby d5_8)
  have F3_modCount := F1q_modCount.other W3 (Or.inr (slot_ne (Or.inl (hw _ (List.mem_of_getElem? (i := 60) rfl))) (Or.inl (hw _ (List.mem_of_getElem? (i := 63) rfl))) (by decide) (t := .int) (t' := (.array (.object "java/lang/Object"))) (by decide) (by decide)))
  have F3_elementData := F1q_elementData.same W3
  have F3_size := F1q_size.other W3 (Or.inr (slot_ne (Or.inl (hw _ (List.mem_of_getElem? (i := 93) rfl))) (Or.inl (hw _ (List.mem_of_getElem? (i := 63) rfl))) (by decide) (t := .int) (t' := (.array (.object "java/lang/Object"))) (by decide) (by decide)))
  have E3_a1 := E1q.wr W3
  have K3 : Keep h0 h3 [a1] := K1.wr W3 (Or.inl (List.mem_of_getElem? (i := 0) rfl))
  have N3 := Fr.snoc X3 N1 g_a1
  obtain ⟨fs, hr, hrun, hended, hW, hsame⟩ := X3.leave (v := none) (fun _ => rfl)
  refine ⟨_, _, pre0 _ ?_, hrun, hended, _, _, rfl, ?_, ⟨_, rfl⟩, hW, hsame.mono (by decide) (by decide)⟩
  · show Steps p.tables e below (s₁.setTop (mkF m 0 #[.val (.ref a1)] [])) _
    refine XS.aloadN X0.here hx rfl (hb hby d5_0) rfl rfl ?_
    show Steps p.tables e below (s₁.setTop (mkF m 1 #[.val (.ref a1)] [(.ref a1)])) _
    refine st1.trans ?_
    show Steps p.tables e below (T1.setTop (mkF m 4 #[.val (.ref a1)] [])) _
    refine XS.aloadN X1.here hx rfl (hb hby d5_4) rfl rfl ?_
    show Steps p.tables e below (T1.setTop (mkF m 5 #[.val (.ref a1)] [(.ref a1)])) _
    refine st2 _ ?_
    show Steps p.tables e below (T2.setTop (mkF m 8 #[.val (.ref a1)] [(.ref w_dc), (.ref a1)])) _
    refine st3 _ ?_
    show Steps p.tables e below (T3.setTop (mkF m 11 #[.val (.ref a1)] [])) _
    exact X3.returnOut hx Bd.returns (hb hby d5_11) hr
  · show QAL Z a1 0 (.ref w_dc) 0 h0 n0 _ T3.heap _
    rw [e3]
    exact ⟨rfl, N3, K3, ⟨E3_a1, F3_modCount, F3_elementData, F3_size⟩⟩
theorem d4_0 : decode jdk_31_method_10_code 0 = .ok (.aload_n 0, 1) := by decide +kernel
theorem d4_1 : decode jdk_31_method_10_code 1 = .ok (.ifnonnull 11, 3) := by decide +kernel
theorem d4_12 : decode jdk_31_method_10_code 12 = .ok (.aload_n 0, 1) := by decide +kernel
theorem d4_13 : decode jdk_31_method_10_code 13 = .ok (.areturn, 1) := by decide +kernel
theorem ef_4_R (m : MethodId) (x0 : Addr) : entryFrame m #[(.ref x0)] 1 = mkF m 0 #[.val (.ref x0)] [] := by first | (simp [entryFrame, mkF, argsToLocals, Value.category]; done) | (simp [entryFrame, mkF, argsToLocals, own_cr, own_ci, own_cj]; done) | rfl
theorem pn_java_util_Objects : plainName "java/util/Objects" = true := by first | (simp [plainName, overriddenIn]; done) | decide +kernel
set_option maxRecDepth 65536 in
set_option maxHeartbeats 40000000 in
theorem rnn (l : Launch) (Z : State) (a0 : Array Value) (hw : ∀ d ∈ tables_1, d.before a0 Z = true) (ws : List Jvm.Cond) (x1 : Addr) (h0 : Heap) (n0 : Nat) (Z0 : n0 ≤ h0.size) :
    MetFree l (⟨"java/util/Objects", "requireNonNull", "(Ljava/lang/Object;)Ljava/lang/Object;"⟩ : MethodName) (head1 (Jvm.Cond.code (⟨"java/util/Objects", "requireNonNull", "(Ljava/lang/Object;)Ljava/lang/Object;"⟩ : MethodName) jdk_31_method_10_code 1 (some (.object "java/lang/Object")) :: ws) ({ frames := 0, cells := 0, slots := 0, locals := 0 } : Room)) (fun a U => a = #[(.ref x1)] ∧ Z.Warmed39 U.vm ∧ U.heap = h0) (fun _ _ _ _ _ => True) (fun _ U o U' => ∃ v L, o = .returned v ∧ QG (.ref x1) h0 n0 v U'.heap L ∧ FrameEnd U o U' L ({ frames := 0, cells := 0, slots := 0, locals := 0 } : Room).cells ({ frames := 0, cells := 0, slots := 0, locals := 0 } : Room).slots) := by
  refine MetFree.of_bodySF (plainFor_of_name pn_java_util_Objects) hisR ?_
  intro p e s m args below meth c s₁ Bd hml0 hP hK
  obtain ⟨rfl, hZ, hh⟩ := hP
  have hx := Bd.exec
  have hby := Bd.bytes
  have hml : c.maxLocals = 1 := hml0
  have hown : s.vm.findClass "java/util/Objects" = some m.cls := findClass_of_methodNamed Bd.named
  have hnm := (name_of_methodNamed Bd.named Bd.method).1
  have X0 : Stand p l e ({ frames := 0, cells := 0, slots := 0, locals := 0 } : Room) s m #[(.ref x1)] below meth c s₁ [] 0 0 := Stand.of_body Bd
  have e0 : s₁.heap = h0 := by rw [← hh, Bd.state]; rfl
  have N0 := Fr.nil n0
  have pre0 : ∀ t, Steps p.tables e below (s₁.setTop (mkF m 0 #[.val (.ref x1)] [])) t → Steps p.tables e below (s₁.setTop (entryFrame m #[(.ref x1)] 1)) t := fun t k => castTop (ef_4_R m x1) k
  obtain ⟨fs, hr, hrun, hended, hW, hsame⟩ := X0.leave (v := some (.ref x1)) (fun h => by rw [Bd.returns] at h; cases h)
  refine ⟨_, _, pre0 _ ?_, hrun, hended, _, _, rfl, ?_, ⟨_, rfl⟩, hW, hsame.mono (by decide) (by decide)⟩
  · show Steps p.tables e below (s₁.setTop (mkF m 0 #[.val (.ref x1)] [])) _
    refine XS.aloadN X0.here hx rfl (hb hby d4_0) rfl rfl ?_
    show Steps p.tables e below (s₁.setTop (mkF m 1 #[.val (.ref x1)] [(.ref x1)])) _
    refine XS.ifnonnullYes X0.here hx rfl (pc0 := 1) (pc' := 12) rfl (hb hby d4_1) rfl (by decide) (by decide) ?_
    show Steps p.tables e below (s₁.setTop (mkF m 12 #[.val (.ref x1)] [])) _
    refine XS.aloadN X0.here hx rfl (hb hby d4_12) rfl rfl ?_
    show Steps p.tables e below (s₁.setTop (mkF m 13 #[.val (.ref x1)] [(.ref x1)])) _
    exact retOut X0 hx Bd.returns rfl (Or.inr (Or.inr (Or.inr (Or.inr ⟨rfl, rfl, rfl⟩)))) (hb hby d4_13) hr
  · show QG (.ref x1) h0 n0 _ s₁.heap _
    rw [e0]
    exact ⟨rfl, N0, rfl⟩
theorem d1_0 : decode prog_52_method_1_code 0 = .ok (.aload_n 0, 1) := by decide +kernel
theorem d1_1 : decode prog_52_method_1_code 1 = .ok (.invokespecial 1, 3) := by decide +kernel
theorem d1_4 : decode prog_52_method_1_code 4 = .ok (.aload_n 1, 1) := by decide +kernel
theorem d1_5 : decode prog_52_method_1_code 5 = .ok (.invokestatic 7, 3) := by decide +kernel
theorem pd__Ljava_lang_Object__Ljava_lang_Object_ : parseMethodDescriptor "(Ljava/lang/Object;)Ljava/lang/Object;" = some ⟨[(.object "java/lang/Object")], some (.object "java/lang/Object")⟩ := by decide +kernel
theorem d1_8 : decode prog_52_method_1_code 8 = .ok (.pop, 1) := by decide +kernel
theorem d1_9 : decode prog_52_method_1_code 9 = .ok (.aload_n 2, 1) := by decide +kernel
theorem d1_10 : decode prog_52_method_1_code 10 = .ok (.invokestatic 7, 3) := by decide +kernel
theorem d1_13 : decode prog_52_method_1_code 13 = .ok (.pop, 1) := by decide +kernel
theorem d1_14 : decode prog_52_method_1_code 14 = .ok (.aload_n 0, 1) := by decide +kernel
theorem d1_15 : decode prog_52_method_1_code 15 = .ok (.aload_n 1, 1) := by decide +kernel
theorem d1_16 : decode prog_52_method_1_code 16 = .ok (.putfield 13, 3) := by decide +kernel
theorem d1_19 : decode prog_52_method_1_code 19 = .ok (.aload_n 0, 1) := by decide +kernel
theorem d1_20 : decode prog_52_method_1_code 20 = .ok (.aload_n 2, 1) := by decide +kernel
theorem d1_21 : decode prog_52_method_1_code 21 = .ok (.putfield 19, 3) := by decide +kernel
theorem d1_24 : decode prog_52_method_1_code 24 = .ok (.aload_n 0, 1) := by decide +kernel
theorem d1_25 : decode prog_52_method_1_code 25 = .ok (.aload_n 3, 1) := by decide +kernel
theorem d1_26 : decode prog_52_method_1_code 26 = .ok (.putfield 23, 3) := by decide +kernel
theorem d1_29 : decode prog_52_method_1_code 29 = .ok (.aload_n 0, 1) := by decide +kernel
theorem d1_30 : decode prog_52_method_1_code 30 = .ok (.aload 4, 2) := by decide +kernel
theorem d1_32 : decode prog_52_method_1_code 32 = .ok (.putfield 26, 3) := by decide +kernel
theorem d1_35 : decode prog_52_method_1_code 35 = .ok (.return_, 1) := by decide +kernel
theorem ef_1_RRRNN (m : MethodId) (x0 : Addr) (x1 : Addr) (x2 : Addr) : entryFrame m #[(.ref x0), (.ref x1), (.ref x2), .null, .null] 5 = mkF m 0 #[.val (.ref x0), .val (.ref x1), .val (.ref x2), .val .null, .val .null] [] := by first | (simp [entryFrame, mkF, argsToLocals, Value.category]; done) | (simp [entryFrame, mkF, argsToLocals, own_cr, own_ci, own_cj]; done) | rfl
theorem pn_com_example_refleash_refleash_heap_Trace_Root : plainName "com/example/refleash/refleash/heap/Trace$Root" = true := by first | (simp [plainName, overriddenIn]; done) | decide +kernel
set_option maxRecDepth 65536 in
set_option maxHeartbeats 40000000 in
theorem root_init (l : Launch) (Z : State) (a0 : Array Value) (hw : ∀ d ∈ tables_1, d.before a0 Z = true) (ws : List Jvm.Cond) (a1 x2 x3 : Addr) (h0 : Heap) (n0 : Nat) (Z0 : n0 ≤ h0.size) (F_kind : Fld Z h0 a1 "com/example/refleash/refleash/heap/Trace$Root" "kind" "Lcom/example/refleash/refleash/heap/Trace$Root$Kind;" .null) (F_className : Fld Z h0 a1 "com/example/refleash/refleash/heap/Trace$Root" "className" "Ljava/lang/String;" .null) (F_thread : Fld Z h0 a1 "com/example/refleash/refleash/heap/Trace$Root" "thread" "Ljava/lang/String;" .null) (F_method : Fld Z h0 a1 "com/example/refleash/refleash/heap/Trace$Root" "method" "Ljava/lang/String;" .null) (E_a1 : Exa Z h0 a1 "com/example/refleash/refleash/heap/Trace$Root") (g_a1 : n0 ≤ a1) :
    MetFree l (⟨"com/example/refleash/refleash/heap/Trace$Root", "<init>", "(Lcom/example/refleash/refleash/heap/Trace$Root$Kind;Ljava/lang/String;Ljava/lang/String;Ljava/lang/String;)V"⟩ : MethodName) (head1 (Jvm.Cond.code (⟨"com/example/refleash/refleash/heap/Trace$Root", "<init>", "(Lcom/example/refleash/refleash/heap/Trace$Root$Kind;Ljava/lang/String;Ljava/lang/String;Ljava/lang/String;)V"⟩ : MethodName) prog_52_method_1_code 5 none :: ws) ({ frames := 2, cells := 0, slots := 0, locals := 24 } : Room)) (fun a U => a = #[(.ref a1), (.ref x2), (.ref x3), .null, .null] ∧ Z.Warmed39 U.vm ∧ U.heap = h0) (fun _ _ _ _ _ => True) (fun _ U o U' => ∃ v L, o = .returned v ∧ QK a1 h0 n0 v U'.heap L ∧ FrameEnd U o U' L ({ frames := 2, cells := 0, slots := 0, locals := 24 } : Room).cells ({ frames := 2, cells := 0, slots := 0, locals := 24 } : Room).slots) := by
  refine MetFree.of_bodySF (plainFor_of_name pn_com_example_refleash_refleash_heap_Trace_Root) hisR ?_
  intro p e s m args below meth c s₁ Bd hml0 hP hK
  obtain ⟨rfl, hZ, hh⟩ := hP
  have hx := Bd.exec
  have hby := Bd.bytes
  have hml : c.maxLocals = 5 := hml0
  have hown : s.vm.findClass "com/example/refleash/refleash/heap/Trace$Root" = some m.cls := findClass_of_methodNamed Bd.named
  have hnm := (name_of_methodNamed Bd.named Bd.method).1
  have X0 : Stand p l e ({ frames := 2, cells := 0, slots := 0, locals := 24 } : Room) s m #[(.ref a1), (.ref x2), (.ref x3), .null, .null] below meth c s₁ [] 0 0 := Stand.of_body Bd
  have e0 : s₁.heap = h0 := by rw [← hh, Bd.state]; rfl
  have N0 := Fr.nil n0
  have pre0 : ∀ t, Steps p.tables e below (s₁.setTop (mkF m 0 #[.val (.ref a1), .val (.ref x2), .val (.ref x3), .val .null, .val .null] [])) t → Steps p.tables e below (s₁.setTop (entryFrame m #[(.ref a1), (.ref x2), (.ref x3), .null, .null] 5)) t := fun t k => castTop (ef_1_RRRNN m a1 x2 x3) k
  obtain ⟨_, _, ⟨T1, L1, k1, n1⟩, -, X1, ⟨Lc1, hQ1, l1, y1, z1⟩, st1⟩ := X0.specialBack hx (y := (⟨"java/lang/Record", "<init>", "()V"⟩ : MethodName)) rfl hown (mvT hZ (hw _ (List.mem_of_getElem? (i := 20) rfl))) (mvT hZ (hw _ (List.mem_of_getElem? (i := 21) rfl))) (mvT hZ (hw _ (List.mem_of_getElem? (i := 24) rfl))) (by decide) (backOf (W := 0) (sup_2 l Z a0 hw [] a1 h0 n0 Z0 ) hZ (hw _ (List.mem_of_getElem? (i := 24) rfl)) (hw _ (List.mem_of_getElem? (i := 23) rfl)) (by decide) (by decide)) (g := (mkF m 1 #[.val (.ref a1), .val (.ref x2), .val (.ref x3), .val .null, .val .null] [(.ref a1)])) rfl (by rw [hml]; rfl) (Steps.refl _) (a := a1) (argsL := []) (rest := []) (lenOf pd___V rfl) rfl (by show 2 * 0 + _ ≤ _; exact Nat.le_of_eq rfl) (hb hby d1_1) (fun _ _ => ⟨rfl, e0, (by decide : 0 + 0 ≤ _), (by decide : 0 + 0 ≤ _)⟩)
  dsimp only [Pt.U, Pt.locs, Pt.cells, Pt.slots] at X1 l1 y1 z1 st1 hQ1
  subst l1 y1 z1
  obtain ⟨rfl, N1q, e1⟩ := hQ1
  have N1 := Fr.app N0 N1q
  obtain ⟨_, _, ⟨T2, L2, k2, n2⟩, -, X2, ⟨Lc2, hQ2, l2, y2, z2⟩, st2⟩ := Jvm.LawKit.callS X1 hx (y := (⟨"java/util/Objects", "requireNonNull", "(Ljava/lang/Object;)Ljava/lang/Object;"⟩ : MethodName)) hown (mvT hZ (hw _ (List.mem_of_getElem? (i := 28) rfl))) (mvT hZ (hw _ (List.mem_of_getElem? (i := 29) rfl))) (mvT hZ (hw _ (List.mem_of_getElem? (i := 30) rfl))) (mvT hZ (hw _ (List.mem_of_getElem? (i := 31) rfl))) (by decide) (backOf (W := 0) (rnn l Z a0 hw [] x2 h0 n0 Z0 ) hZ (hw _ (List.mem_of_getElem? (i := 31) rfl)) (hw _ (List.mem_of_getElem? (i := 30) rfl)) (by decide) (by decide)) (g := (mkF m 5 #[.val (.ref a1), .val (.ref x2), .val (.ref x3), .val .null, .val .null] [(.ref x2)])) rfl (by rw [hml]; rfl) (argsL := [(.ref x2)]) (rest := []) (lenOf pd__Ljava_lang_Object__Ljava_lang_Object_ rfl) rfl (by show 2 * 0 + _ ≤ _; exact Nat.le_of_eq rfl) (hb hby d1_5) (fun _ _ => ⟨rfl, e1, (by decide : 0 + 0 ≤ _), (by decide : 0 + 0 ≤ _)⟩)
  dsimp only [Pt.U, Pt.locs, Pt.cells, Pt.slots] at X2 l2 y2 z2 st2 hQ2
  subst l2 y2 z2
  obtain ⟨rfl, N2q, e2⟩ := hQ2
  have N2 := Fr.app N1 N2q
  obtain ⟨_, _, ⟨T3, L3, k3, n3⟩, -, X3, ⟨Lc3, hQ3, l3, y3, z3⟩, st3⟩ := Jvm.LawKit.callS X2 hx (y := (⟨"java/util/Objects", "requireNonNull", "(Ljava/lang/Object;)Ljava/lang/Object;"⟩ : MethodName)) hown (mvT hZ (hw _ (List.mem_of_getElem? (i := 28) rfl))) (mvT hZ (hw _ (List.mem_of_getElem? (i := 29) rfl))) (mvT hZ (hw _ (List.mem_of_getElem? (i := 30) rfl))) (mvT hZ (hw _ (List.mem_of_getElem? (i := 31) rfl))) (by decide) (backOf (W := 0) (rnn l Z a0 hw [] x3 h0 n0 Z0 ) hZ (hw _ (List.mem_of_getElem? (i := 31) rfl)) (hw _ (List.mem_of_getElem? (i := 30) rfl)) (by decide) (by decide)) (g := (mkF m 10 #[.val (.ref a1), .val (.ref x2), .val (.ref x3), .val .null, .val .null] [(.ref x3)])) rfl (by rw [hml]; rfl) (argsL := [(.ref x3)]) (rest := []) (lenOf pd__Ljava_lang_Object__Ljava_lang_Object_ rfl) rfl (by show 2 * 0 + _ ≤ _; exact Nat.le_of_eq rfl) (hb hby d1_10) (fun _ _ => ⟨rfl, e2, (by decide : 0 + 0 ≤ _), (by decide : 0 + 0 ≤ _)⟩)
  dsimp only [Pt.U, Pt.locs, Pt.cells, Pt.slots] at X3 l3 y3 z3 st3 hQ3
  subst l3 y3 z3
  obtain ⟨rfl, N3q, e3⟩ := hQ3
  have N3 := Fr.app N2 N3q
  obtain ⟨T4, h4, X4, e4, W4, st4⟩ := putF X3 hx hZ hown (host := "") (Or.inl (hw _ (List.mem_of_getElem? (i := 32) rfl))) Via.refl e3 F_kind E_a1 (Or.inr ⟨(hw _ (List.mem_of_getElem? (i := 33) rfl)), rfl, hnm⟩) (hw _ (List.mem_of_getElem? (i := 4) rfl)) (ty := (.object "com/example/refleash/refleash/heap/Trace$Root$Kind")) (by decide) rfl rfl (g := (mkF m 16 #[.val (.ref a1), .val (.ref x2), .val (.ref x3), .val .null, .val .null] [(.ref x2), (.ref a1)])) rfl rfl (hb hby d1_16)
  have F4_kind := F_kind.same W4
  have F4_className := F_className.other W4 (Or.inr (slot_ne (Or.inr (hw _ (List.mem_of_getElem? (i := 35) rfl))) (Or.inr (hw _ (List.mem_of_getElem? (i := 33) rfl))) (by decide) (t := (.object "java/lang/String")) (t' := (.object "com/example/refleash/refleash/heap/Trace$Root$Kind")) (by decide) (by decide)))
  have F4_thread := F_thread.other W4 (Or.inr (slot_ne (Or.inr (hw _ (List.mem_of_getElem? (i := 37) rfl))) (Or.inr (hw _ (List.mem_of_getElem? (i := 33) rfl))) (by decide) (t := (.object "java/lang/String")) (t' := (.object "com/example/refleash/refleash/heap/Trace$Root$Kind")) (by decide) (by decide)))
  have F4_method := F_method.other W4 (Or.inr (slot_ne (Or.inr (hw _ (List.mem_of_getElem? (i := 39) rfl))) (Or.inr (hw _ (List.mem_of_getElem? (i := 33) rfl))) (by decide) (t := (.object "java/lang/String")) (t' := (.object "com/example/refleash/refleash/heap/Trace$Root$Kind")) (by decide) (by decide)))
  have E4_a1 := E_a1.wr W4
  have K4 : Keep h0 h4 [a1] := (Keep.refl h0 [a1]).wr W4 (Or.inl (List.mem_of_getElem? (i := 0) rfl))
  have N4 := Fr.snoc X4 N3 g_a1
  obtain ⟨T5, h5, X5, e5, W5, st5⟩ := putF X4 hx hZ hown (host := "") (Or.inl (hw _ (List.mem_of_getElem? (i := 34) rfl))) Via.refl e4 F4_className E4_a1 (Or.inr ⟨(hw _ (List.mem_of_getElem? (i := 35) rfl)), rfl, hnm⟩) (hw _ (List.mem_of_getElem? (i := 4) rfl)) (ty := (.object "java/lang/String")) (by decide) rfl rfl (g := (mkF m 21 #[.val (.ref a1), .val (.ref x2), .val (.ref x3), .val .null, .val .null] [(.ref x3), (.ref a1)])) rfl rfl (hb hby d1_21)
  have F5_kind := F4_kind.other W5 (Or.inr (slot_ne (Or.inr (hw _ (List.mem_of_getElem? (i := 33) rfl))) (Or.inr (hw _ (List.mem_of_getElem? (i := 35) rfl))) (by decide) (t := (.object "com/example/refleash/refleash/heap/Trace$Root$Kind")) (t' := (.object "java/lang/String")) (by decide) (by decide)))
  have F5_className := F4_className.same W5
  have F5_thread := F4_thread.other W5 (Or.inr (slot_ne (Or.inr (hw _ (List.mem_of_getElem? (i := 37) rfl))) (Or.inr (hw _ (List.mem_of_getElem? (i := 35) rfl))) (by decide) (t := (.object "java/lang/String")) (t' := (.object "java/lang/String")) (by decide) (by decide)))
  have F5_method := F4_method.other W5 (Or.inr (slot_ne (Or.inr (hw _ (List.mem_of_getElem? (i := 39) rfl))) (Or.inr (hw _ (List.mem_of_getElem? (i := 35) rfl))) (by decide) (t := (.object "java/lang/String")) (t' := (.object "java/lang/String")) (by decide) (by decide)))
  have E5_a1 := E4_a1.wr W5
  have K5 : Keep h0 h5 [a1] := K4.wr W5 (Or.inl (List.mem_of_getElem? (i := 0) rfl))
  have N5 := Fr.snoc X5 N4 g_a1
  obtain ⟨T6, h6, X6, e6, W6, st6⟩ := putF X5 hx hZ hown (host := "") (Or.inl (hw _ (List.mem_of_getElem? (i := 36) rfl))) Via.refl e5 F5_thread E5_a1 (Or.inr ⟨(hw _ (List.mem_of_getElem? (i := 37) rfl)), rfl, hnm⟩) (hw _ (List.mem_of_getElem? (i := 4) rfl)) (ty := (.object "java/lang/String")) (by decide) rfl rfl (g := (mkF m 26 #[.val (.ref a1), .val (.ref x2), .val (.ref x3), .val .null, .val .null] [.null, (.ref a1)])) rfl rfl (hb hby d1_26)
  have F6_kind := F5_kind.other W6 (Or.inr (slot_ne (Or.inr (hw _ (List.mem_of_getElem? (i := 33) rfl))) (Or.inr (hw _ (List.mem_of_getElem? (i := 37) rfl))) (by decide) (t := (.object "com/example/refleash/refleash/heap/Trace$Root$Kind")) (t' := (.object "java/lang/String")) (by decide) (by decide)))
  have F6_className := F5_className.other W6 (Or.inr (slot_ne (Or.inr (hw _ (List.mem_of_getElem? (i := 35) rfl))) (Or.inr (hw _ (List.mem_of_getElem? (i := 37) rfl))) (by decide) (t := (.object "java/lang/String")) (t' := (.object "java/lang/String")) (by decide) (by decide)))
  have F6_thread := F5_thread.same W6
  have F6_method := F5_method.other W6 (Or.inr (slot_ne (Or.inr (hw _ (List.mem_of_getElem? (i := 39) rfl))) (Or.inr (hw _ (List.mem_of_getElem? (i := 37) rfl))) (by decide) (t := (.object "java/lang/String")) (t' := (.object "java/lang/String")) (by decide) (by decide)))
  have E6_a1 := E5_a1.wr W6
  have K6 : Keep h0 h6 [a1] := K5.wr W6 (Or.inl (List.mem_of_getElem? (i := 0) rfl))
  have N6 := Fr.snoc X6 N5 g_a1
  obtain ⟨T7, h7, X7, e7, W7, st7⟩ := putF X6 hx hZ hown (host := "") (Or.inl (hw _ (List.mem_of_getElem? (i := 38) rfl))) Via.refl e6 F6_method E6_a1 (Or.inr ⟨(hw _ (List.mem_of_getElem? (i := 39) rfl)), rfl, hnm⟩) (hw _ (List.mem_of_getElem? (i := 4) rfl)) (ty := (.object "java/lang/String")) (by decide) rfl rfl (g := (mkF m 32 #[.val (.ref a1), .val (.ref x2), .val (.ref x3), .val .null, .val .null] [.null, (.ref a1)])) rfl rfl (hb hby d1_32)
  have F7_kind := F6_kind.other W7 (Or.inr (slot_ne (Or.inr (hw _ (List.mem_of_getElem? (i := 33) rfl))) (Or.inr (hw _ (List.mem_of_getElem? (i := 39) rfl))) (by decide) (t := (.object "com/example/refleash/refleash/heap/Trace$Root$Kind")) (t' := (.object "java/lang/String")) (by decide) (by decide)))
  have F7_className := F6_className.other W7 (Or.inr (slot_ne (Or.inr (hw _ (List.mem_of_getElem? (i := 35) rfl))) (Or.inr (hw _ (List.mem_of_getElem? (i := 39) rfl))) (by decide) (t := (.object "java/lang/String")) (t' := (.object "java/lang/String")) (by decide) (by decide)))
  have F7_thread := F6_thread.other W7 (Or.inr (slot_ne (Or.inr (hw _ (List.mem_of_getElem? (i := 37) rfl))) (Or.inr (hw _ (List.mem_of_getElem? (i := 39) rfl))) (by decide) (t := (.object "java/lang/String")) (t' := (.object "java/lang/String")) (by decide) (by decide)))
  have F7_method := F6_method.same W7
  have E7_a1 := E6_a1.wr W7
  have K7 : Keep h0 h7 [a1] := K6.wr W7 (Or.inl (List.mem_of_getElem? (i := 0) rfl))
  have N7 := Fr.snoc X7 N6 g_a1
  obtain ⟨fs, hr, hrun, hended, hW, hsame⟩ := X7.leave (v := none) (fun _ => rfl)
  refine ⟨_, _, pre0 _ ?_, hrun, hended, _, _, rfl, ?_, ⟨_, rfl⟩, hW, hsame.mono (by decide) (by decide)⟩
  · show Steps p.tables e below (s₁.setTop (mkF m 0 #[.val (.ref a1), .val (.ref x2), .val (.ref x3), .val .null, .val .null] [])) _
    refine XS.aloadN X0.here hx rfl (hb hby d1_0) rfl rfl ?_
    show Steps p.tables e below (s₁.setTop (mkF m 1 #[.val (.ref a1), .val (.ref x2), .val (.ref x3), .val .null, .val .null] [(.ref a1)])) _
    refine st1.trans ?_
    show Steps p.tables e below (T1.setTop (mkF m 4 #[.val (.ref a1), .val (.ref x2), .val (.ref x3), .val .null, .val .null] [])) _
    refine XS.aloadN X1.here hx rfl (hb hby d1_4) rfl rfl ?_
    show Steps p.tables e below (T1.setTop (mkF m 5 #[.val (.ref a1), .val (.ref x2), .val (.ref x3), .val .null, .val .null] [(.ref x2)])) _
    refine st2 _ ?_
    show Steps p.tables e below (T2.setTop (mkF m 8 #[.val (.ref a1), .val (.ref x2), .val (.ref x3), .val .null, .val .null] [(.ref x2)])) _
    refine XS.pop X2.here hx rfl (hb hby d1_8) rfl rfl ?_
    show Steps p.tables e below (T2.setTop (mkF m 9 #[.val (.ref a1), .val (.ref x2), .val (.ref x3), .val .null, .val .null] [])) _
    refine XS.aloadN X2.here hx rfl (hb hby d1_9) rfl rfl ?_
    show Steps p.tables e below (T2.setTop (mkF m 10 #[.val (.ref a1), .val (.ref x2), .val (.ref x3), .val .null, .val .null] [(.ref x3)])) _
    refine st3 _ ?_
    show Steps p.tables e below (T3.setTop (mkF m 13 #[.val (.ref a1), .val (.ref x2), .val (.ref x3), .val .null, .val .null] [(.ref x3)])) _
    refine XS.pop X3.here hx rfl (hb hby d1_13) rfl rfl ?_
    show Steps p.tables e below (T3.setTop (mkF m 14 #[.val (.ref a1), .val (.ref x2), .val (.ref x3), .val .null, .val .null] [])) _
    refine XS.aloadN X3.here hx rfl (hb hby d1_14) rfl rfl ?_
    show Steps p.tables e below (T3.setTop (mkF m 15 #[.val (.ref a1), .val (.ref x2), .val (.ref x3), .val .null, .val .null] [(.ref a1)])) _
    refine XS.aloadN X3.here hx rfl (hb hby d1_15) rfl rfl ?_
    show Steps p.tables e below (T3.setTop (mkF m 16 #[.val (.ref a1), .val (.ref x2), .val (.ref x3), .val .null, .val .null] [(.ref x2), (.ref a1)])) _
    refine st4 _ ?_
    show Steps p.tables e below (T4.setTop (mkF m 19 #[.val (.ref a1), .val (.ref x2), .val (.ref x3), .val .null, .val .null] [])) _
    refine XS.aloadN X4.here hx rfl (hb hby d1_19) rfl rfl ?_
    show Steps p.tables e below (T4.setTop (mkF m 20 #[.val (.ref a1), .val (.ref x2), .val (.ref x3), .val .null, .val .null] [(.ref a1)])) _
    refine XS.aloadN X4.here hx rfl (hb hby d1_20) rfl rfl ?_
    show Steps p.tables e below (T4.setTop (mkF m 21 #[.val (.ref a1), .val (.ref x2), .val (.ref x3), .val .null, .val .null] [(.ref x3), (.ref a1)])) _
    refine st5 _ ?_
    show Steps p.tables e below (T5.setTop (mkF m 24 #[.val (.ref a1), .val (.ref x2), .val (.ref x3), .val .null, .val .null] [])) _
    refine XS.aloadN X5.here hx rfl (hb hby d1_24) rfl rfl ?_
    show Steps p.tables e below (T5.setTop (mkF m 25 #[.val (.ref a1), .val (.ref x2), .val (.ref x3), .val .null, .val .null] [(.ref a1)])) _
    refine XS.aloadN X5.here hx rfl (hb hby d1_25) rfl rfl ?_
    show Steps p.tables e below (T5.setTop (mkF m 26 #[.val (.ref a1), .val (.ref x2), .val (.ref x3), .val .null, .val .null] [.null, (.ref a1)])) _
    refine st6 _ ?_
    show Steps p.tables e below (T6.setTop (mkF m 29 #[.val (.ref a1), .val (.ref x2), .val (.ref x3), .val .null, .val .null] [])) _
    refine XS.aloadN X6.here hx rfl (hb hby d1_29) rfl rfl ?_
    show Steps p.tables e below (T6.setTop (mkF m 30 #[.val (.ref a1), .val (.ref x2), .val (.ref x3), .val .null, .val .null] [(.ref a1)])) _
    refine XS.aload X6.here hx rfl (hb hby d1_30) rfl rfl ?_
    show Steps p.tables e below (T6.setTop (mkF m 32 #[.val (.ref a1), .val (.ref x2), .val (.ref x3), .val .null, .val .null] [.null, (.ref a1)])) _
    refine st7 _ ?_
    show Steps p.tables e below (T7.setTop (mkF m 35 #[.val (.ref a1), .val (.ref x2), .val (.ref x3), .val .null, .val .null] [])) _
    exact X7.returnOut hx Bd.returns (hb hby d1_35) hr
  · show QK a1 h0 n0 _ T7.heap _
    rw [e7]
    exact ⟨rfl, N7, K7⟩
theorem d13_0 : decode prog_34_method_1_code 0 = .ok (.aload_n 0, 1) := by decide +kernel
theorem d13_1 : decode prog_34_method_1_code 1 = .ok (.invokespecial 1, 3) := by decide +kernel
theorem d13_4 : decode prog_34_method_1_code 4 = .ok (.aload_n 1, 1) := by decide +kernel
theorem d13_5 : decode prog_34_method_1_code 5 = .ok (.invokestatic 7, 3) := by decide +kernel
theorem d13_8 : decode prog_34_method_1_code 8 = .ok (.pop, 1) := by decide +kernel
theorem d13_9 : decode prog_34_method_1_code 9 = .ok (.aload_n 2, 1) := by decide +kernel
theorem d13_10 : decode prog_34_method_1_code 10 = .ok (.invokestatic 7, 3) := by decide +kernel
theorem d13_13 : decode prog_34_method_1_code 13 = .ok (.pop, 1) := by decide +kernel
theorem d13_14 : decode prog_34_method_1_code 14 = .ok (.aload_n 3, 1) := by decide +kernel
theorem d13_15 : decode prog_34_method_1_code 15 = .ok (.invokestatic 7, 3) := by decide +kernel
theorem d13_18 : decode prog_34_method_1_code 18 = .ok (.pop, 1) := by decide +kernel
theorem d13_19 : decode prog_34_method_1_code 19 = .ok (.aload_n 0, 1) := by decide +kernel
theorem d13_20 : decode prog_34_method_1_code 20 = .ok (.aload_n 1, 1) := by decide +kernel
theorem d13_21 : decode prog_34_method_1_code 21 = .ok (.putfield 13, 3) := by decide +kernel
theorem d13_24 : decode prog_34_method_1_code 24 = .ok (.aload_n 0, 1) := by decide +kernel
theorem d13_25 : decode prog_34_method_1_code 25 = .ok (.aload_n 2, 1) := by decide +kernel
theorem d13_26 : decode prog_34_method_1_code 26 = .ok (.putfield 19, 3) := by decide +kernel
theorem d13_29 : decode prog_34_method_1_code 29 = .ok (.aload_n 0, 1) := by decide +kernel
theorem d13_30 : decode prog_34_method_1_code 30 = .ok (.aload_n 3, 1) := by decide +kernel
theorem d13_31 : decode prog_34_method_1_code 31 = .ok (.putfield 23, 3) := by decide +kernel
theorem d13_34 : decode prog_34_method_1_code 34 = .ok (.return_, 1) := by decide +kernel
theorem ef_13_RRRR (m : MethodId) (x0 : Addr) (x1 : Addr) (x2 : Addr) (x3 : Addr) : entryFrame m #[(.ref x0), (.ref x1), (.ref x2), (.ref x3)] 4 = mkF m 0 #[.val (.ref x0), .val (.ref x1), .val (.ref x2), .val (.ref x3)] [] := by first | (simp [entryFrame, mkF, argsToLocals, Value.category]; done) | (simp [entryFrame, mkF, argsToLocals, own_cr, own_ci, own_cj]; done) | rfl
theorem pn_com_example_refleash_refleash_heap_Leak_Node : plainName "com/example/refleash/refleash/heap/Leak$Node" = true := by first | (simp [plainName, overriddenIn]; done) | decide +kernel
set_option maxRecDepth 65536 in
set_option maxHeartbeats 40000000 in
theorem node_init (l : Launch) (Z : State) (a0 : Array Value) (hw : ∀ d ∈ tables_1, d.before a0 Z = true) (ws : List Jvm.Cond) (a1 x2 x3 x4 : Addr) (h0 : Heap) (n0 : Nat) (Z0 : n0 ≤ h0.size) (F_className : Fld Z h0 a1 "com/example/refleash/refleash/heap/Leak$Node" "className" "Ljava/lang/String;" .null) (F_status : Fld Z h0 a1 "com/example/refleash/refleash/heap/Leak$Node" "status" "Lcom/example/refleash/refleash/heap/Leak$Status;" .null) (F_reason : Fld Z h0 a1 "com/example/refleash/refleash/heap/Leak$Node" "reason" "Ljava/lang/String;" .null) (E_a1 : Exa Z h0 a1 "com/example/refleash/refleash/heap/Leak$Node") (g_a1 : n0 ≤ a1) :
    MetFree l (⟨"com/example/refleash/refleash/heap/Leak$Node", "<init>", "(Ljava/lang/String;Lcom/example/refleash/refleash/heap/Leak$Status;Ljava/lang/String;)V"⟩ : MethodName) (head1 (Jvm.Cond.code (⟨"com/example/refleash/refleash/heap/Leak$Node", "<init>", "(Ljava/lang/String;Lcom/example/refleash/refleash/heap/Leak$Status;Ljava/lang/String;)V"⟩ : MethodName) prog_34_method_1_code 4 none :: ws) ({ frames := 2, cells := 0, slots := 0, locals := 24 } : Room)) (fun a U => a = #[(.ref a1), (.ref x2), (.ref x3), (.ref x4)] ∧ Z.Warmed39 U.vm ∧ U.heap = h0) (fun _ _ _ _ _ => True) (fun _ U o U' => ∃ v L, o = .returned v ∧ QE Z a1 "com/example/refleash/refleash/heap/Leak$Node" h0 n0 v U'.heap L ∧ FrameEnd U o U' L ({ frames := 2, cells := 0, slots := 0, locals := 24 } : Room).cells ({ frames := 2, cells := 0, slots := 0, locals := 24 } : Room).slots) := by
  refine MetFree.of_bodySF (plainFor_of_name pn_com_example_refleash_refleash_heap_Leak_Node) hisR ?_
  intro p e s m args below meth c s₁ Bd hml0 hP hK
  obtain ⟨rfl, hZ, hh⟩ := hP
  have hx := Bd.exec
  have hby := Bd.bytes
  have hml : c.maxLocals = 4 := hml0
  have hown : s.vm.findClass "com/example/refleash/refleash/heap/Leak$Node" = some m.cls := findClass_of_methodNamed Bd.named
  have hnm := (name_of_methodNamed Bd.named Bd.method).1
  have X0 : Stand p l e ({ frames := 2, cells := 0, slots := 0, locals := 24 } : Room) s m #[(.ref a1), (.ref x2), (.ref x3), (.ref x4)] below meth c s₁ [] 0 0 := Stand.of_body Bd
  have e0 : s₁.heap = h0 := by rw [← hh, Bd.state]; rfl
  have N0 := Fr.nil n0
  have pre0 : ∀ t, Steps p.tables e below (s₁.setTop (mkF m 0 #[.val (.ref a1), .val (.ref x2), .val (.ref x3), .val (.ref x4)] [])) t → Steps p.tables e below (s₁.setTop (entryFrame m #[(.ref a1), (.ref x2), (.ref x3), (.ref x4)] 4)) t := fun t k => castTop (ef_13_RRRR m a1 x2 x3 x4) k
  obtain ⟨_, _, ⟨T1, L1, k1, n1⟩, -, X1, ⟨Lc1, hQ1, l1, y1, z1⟩, st1⟩ := X0.specialBack hx (y := (⟨"java/lang/Record", "<init>", "()V"⟩ : MethodName)) rfl hown (mvT hZ (hw _ (List.mem_of_getElem? (i := 118) rfl))) (mvT hZ (hw _ (List.mem_of_getElem? (i := 21) rfl))) (mvT hZ (hw _ (List.mem_of_getElem? (i := 24) rfl))) (by decide) (backOf (W := 0) (sup_2 l Z a0 hw [] a1 h0 n0 Z0 ) hZ (hw _ (List.mem_of_getElem? (i := 24) rfl)) (hw _ (List.mem_of_getElem? (i := 23) rfl)) (by decide) (by decide)) (g := (mkF m 1 #[.val (.ref a1), .val (.ref x2), .val (.ref x3), .val (.ref x4)] [(.ref a1)])) rfl (by rw [hml]; rfl) (Steps.refl _) (a := a1) (argsL := []) (rest := []) (lenOf pd___V rfl) rfl (by show 2 * 0 + _ ≤ _; exact Nat.le_of_eq rfl) (hb hby d13_1) (fun _ _ => ⟨rfl, e0, (by decide : 0 + 0 ≤ _), (by decide : 0 + 0 ≤ _)⟩)
  dsimp only [Pt.U, Pt.locs, Pt.cells, Pt.slots] at X1 l1 y1 z1 st1 hQ1
  subst l1 y1 z1
  obtain ⟨rfl, N1q, e1⟩ := hQ1
  have N1 := Fr.app N0 N1q
  obtain ⟨_, _, ⟨T2, L2, k2, n2⟩, -, X2, ⟨Lc2, hQ2, l2, y2, z2⟩, st2⟩ := Jvm.LawKit.callS X1 hx (y := (⟨"java/util/Objects", "requireNonNull", "(Ljava/lang/Object;)Ljava/lang/Object;"⟩ : MethodName)) hown (mvT hZ (hw _ (List.mem_of_getElem? (i := 119) rfl))) (mvT hZ (hw _ (List.mem_of_getElem? (i := 29) rfl))) (mvT hZ (hw _ (List.mem_of_getElem? (i := 30) rfl))) (mvT hZ (hw _ (List.mem_of_getElem? (i := 31) rfl))) (by decide) (backOf (W := 0) (rnn l Z a0 hw [] x2 h0 n0 Z0 ) hZ (hw _ (List.mem_of_getElem? (i := 31) rfl)) (hw _ (List.mem_of_getElem? (i := 30) rfl)) (by decide) (by decide)) (g := (mkF m 5 #[.val (.ref a1), .val (.ref x2), .val (.ref x3), .val (.ref x4)] [(.ref x2)])) rfl (by rw [hml]; rfl) (argsL := [(.ref x2)]) (rest := []) (lenOf pd__Ljava_lang_Object__Ljava_lang_Object_ rfl) rfl (by show 2 * 0 + _ ≤ _; exact Nat.le_of_eq rfl) (hb hby d13_5) (fun _ _ => ⟨rfl, e1, (by decide : 0 + 0 ≤ _), (by decide : 0 + 0 ≤ _)⟩)
  dsimp only [Pt.U, Pt.locs, Pt.cells, Pt.slots] at X2 l2 y2 z2 st2 hQ2
  subst l2 y2 z2
  obtain ⟨rfl, N2q, e2⟩ := hQ2
  have N2 := Fr.app N1 N2q
  obtain ⟨_, _, ⟨T3, L3, k3, n3⟩, -, X3, ⟨Lc3, hQ3, l3, y3, z3⟩, st3⟩ := Jvm.LawKit.callS X2 hx (y := (⟨"java/util/Objects", "requireNonNull", "(Ljava/lang/Object;)Ljava/lang/Object;"⟩ : MethodName)) hown (mvT hZ (hw _ (List.mem_of_getElem? (i := 119) rfl))) (mvT hZ (hw _ (List.mem_of_getElem? (i := 29) rfl))) (mvT hZ (hw _ (List.mem_of_getElem? (i := 30) rfl))) (mvT hZ (hw _ (List.mem_of_getElem? (i := 31) rfl))) (by decide) (backOf (W := 0) (rnn l Z a0 hw [] x3 h0 n0 Z0 ) hZ (hw _ (List.mem_of_getElem? (i := 31) rfl)) (hw _ (List.mem_of_getElem? (i := 30) rfl)) (by decide) (by decide)) (g := (mkF m 10 #[.val (.ref a1), .val (.ref x2), .val (.ref x3), .val (.ref x4)] [(.ref x3)])) rfl (by rw [hml]; rfl) (argsL := [(.ref x3)]) (rest := []) (lenOf pd__Ljava_lang_Object__Ljava_lang_Object_ rfl) rfl (by show 2 * 0 + _ ≤ _; exact Nat.le_of_eq rfl) (hb hby d13_10) (fun _ _ => ⟨rfl, e2, (by decide : 0 + 0 ≤ _), (by decide : 0 + 0 ≤ _)⟩)
  dsimp only [Pt.U, Pt.locs, Pt.cells, Pt.slots] at X3 l3 y3 z3 st3 hQ3
  subst l3 y3 z3
  obtain ⟨rfl, N3q, e3⟩ := hQ3
  have N3 := Fr.app N2 N3q
  obtain ⟨_, _, ⟨T4, L4, k4, n4⟩, -, X4, ⟨Lc4, hQ4, l4, y4, z4⟩, st4⟩ := Jvm.LawKit.callS X3 hx (y := (⟨"java/util/Objects", "requireNonNull", "(Ljava/lang/Object;)Ljava/lang/Object;"⟩ : MethodName)) hown (mvT hZ (hw _ (List.mem_of_getElem? (i := 119) rfl))) (mvT hZ (hw _ (List.mem_of_getElem? (i := 29) rfl))) (mvT hZ (hw _ (List.mem_of_getElem? (i := 30) rfl))) (mvT hZ (hw _ (List.mem_of_getElem? (i := 31) rfl))) (by decide) (backOf (W := 0) (rnn l Z a0 hw [] x4 h0 n0 Z0 ) hZ (hw _ (List.mem_of_getElem? (i := 31) rfl)) (hw _ (List.mem_of_getElem? (i := 30) rfl)) (by decide) (by decide)) (g := (mkF m 15 #[.val (.ref a1), .val (.ref x2), .val (.ref x3), .val (.ref x4)] [(.ref x4)])) rfl (by rw [hml]; rfl) (argsL := [(.ref x4)]) (rest := []) (lenOf pd__Ljava_lang_Object__Ljava_lang_Object_ rfl) rfl (by show 2 * 0 + _ ≤ _; exact Nat.le_of_eq rfl) (hb hby d13_15) (fun _ _ => ⟨rfl, e3, (by decide : 0 + 0 ≤ _), (by decide : 0 + 0 ≤ _)⟩)
  dsimp only [Pt.U, Pt.locs, Pt.cells, Pt.slots] at X4 l4 y4 z4 st4 hQ4
  subst l4 y4 z4
  obtain ⟨rfl, N4q, e4⟩ := hQ4
  have N4 := Fr.app N3 N4q
  obtain ⟨T5, h5, X5, e5, W5, st5⟩ := putF X4 hx hZ hown (host := "") (Or.inl (hw _ (List.mem_of_getElem? (i := 120) rfl))) Via.refl e4 F_className E_a1 (Or.inr ⟨(hw _ (List.mem_of_getElem? (i := 121) rfl)), rfl, hnm⟩) (hw _ (List.mem_of_getElem? (i := 109) rfl)) (ty := (.object "java/lang/String")) (by decide) rfl rfl (g := (mkF m 21 #[.val (.ref a1), .val (.ref x2), .val (.ref x3), .val (.ref x4)] [(.ref x2), (.ref a1)])) rfl rfl (hb hby d13_21)
  have F5_className := F_className.same W5
  have F5_status := F_status.other W5 (Or.inr (slot_ne (Or.inr (hw _ (List.mem_of_getElem? (i := 123) rfl))) (Or.inr (hw _ (List.mem_of_getElem? (i := 121) rfl))) (by decide) (t := (.object "com/example/refleash/refleash/heap/Leak$Status")) (t' := (.object "java/lang/String")) (by decide) (by decide)))
  have F5_reason := F_reason.other W5 (Or.inr (slot_ne (Or.inr (hw _ (List.mem_of_getElem? (i := 125) rfl))) (Or.inr (hw _ (List.mem_of_getElem? (i := 121) rfl))) (by decide) (t := (.object "java/lang/String")) (t' := (.object "java/lang/String")) (by decide) (by decide)))
  have E5_a1 := E_a1.wr W5
  have K5 : Keep h0 h5 [a1] := (Keep.refl h0 [a1]).wr W5 (Or.inl (List.mem_of_getElem? (i := 0) rfl))
  have N5 := Fr.snoc X5 N4 g_a1
  obtain ⟨T6, h6, X6, e6, W6, st6⟩ := putF X5 hx hZ hown (host := "") (Or.inl (hw _ (List.mem_of_getElem? (i := 122) rfl))) Via.refl e5 F5_status E5_a1 (Or.inr ⟨(hw _ (List.mem_of_getElem? (i := 123) rfl)), rfl, hnm⟩) (hw _ (List.mem_of_getElem? (i := 109) rfl)) (ty := (.object "com/example/refleash/refleash/heap/Leak$Status")) (by decide) rfl rfl (g := (mkF m 26 #[.val (.ref a1), .val (.ref x2), .val (.ref x3), .val (.ref x4)] [(.ref x3), (.ref a1)])) rfl rfl (hb hby d13_26)
  have F6_className := F5_className.other W6 (Or.inr (slot_ne (Or.inr (hw _ (List.mem_of_getElem? (i := 121) rfl))) (Or.inr (hw _ (List.mem_of_getElem? (i := 123) rfl))) (by decide) (t := (.object "java/lang/String")) (t' := (.object "com/example/refleash/refleash/heap/Leak$Status")) (by decide) (by decide)))
  have F6_status := F5_status.same W6
  have F6_reason := F5_reason.other W6 (Or.inr (slot_ne (Or.inr (hw _ (List.mem_of_getElem? (i := 125) rfl))) (Or.inr (hw _ (List.mem_of_getElem? (i := 123) rfl))) (by decide) (t := (.object "java/lang/String")) (t' := (.object "com/example/refleash/refleash/heap/Leak$Status")) (by decide) (by decide)))
  have E6_a1 := E5_a1.wr W6
  have K6 : Keep h0 h6 [a1] := K5.wr W6 (Or.inl (List.mem_of_getElem? (i := 0) rfl))
  have N6 := Fr.snoc X6 N5 g_a1
  obtain ⟨T7, h7, X7, e7, W7, st7⟩ := putF X6 hx hZ hown (host := "") (Or.inl (hw _ (List.mem_of_getElem? (i := 124) rfl))) Via.refl e6 F6_reason E6_a1 (Or.inr ⟨(hw _ (List.mem_of_getElem? (i := 125) rfl)), rfl, hnm⟩) (hw _ (List.mem_of_getElem? (i := 109) rfl)) (ty := (.object "java/lang/String")) (by decide) rfl rfl (g := (mkF m 31 #[.val (.ref a1), .val (.ref x2), .val (.ref x3), .val (.ref x4)] [(.ref x4), (.ref a1)])) rfl rfl (hb hby d13_31)
  have F7_className := F6_className.other W7 (Or.inr (slot_ne (Or.inr (hw _ (List.mem_of_getElem? (i := 121) rfl))) (Or.inr (hw _ (List.mem_of_getElem? (i := 125) rfl))) (by decide) (t := (.object "java/lang/String")) (t' := (.object "java/lang/String")) (by decide) (by decide)))
  have F7_status := F6_status.other W7 (Or.inr (slot_ne (Or.inr (hw _ (List.mem_of_getElem? (i := 123) rfl))) (Or.inr (hw _ (List.mem_of_getElem? (i := 125) rfl))) (by decide) (t := (.object "com/example/refleash/refleash/heap/Leak$Status")) (t' := (.object "java/lang/String")) (by decide) (by decide)))
  have F7_reason := F6_reason.same W7
  have E7_a1 := E6_a1.wr W7
  have K7 : Keep h0 h7 [a1] := K6.wr W7 (Or.inl (List.mem_of_getElem? (i := 0) rfl))
  have N7 := Fr.snoc X7 N6 g_a1
  obtain ⟨fs, hr, hrun, hended, hW, hsame⟩ := X7.leave (v := none) (fun _ => rfl)
  refine ⟨_, _, pre0 _ ?_, hrun, hended, _, _, rfl, ?_, ⟨_, rfl⟩, hW, hsame.mono (by decide) (by decide)⟩
  · show Steps p.tables e below (s₁.setTop (mkF m 0 #[.val (.ref a1), .val (.ref x2), .val (.ref x3), .val (.ref x4)] [])) _
    refine XS.aloadN X0.here hx rfl (hb hby d13_0) rfl rfl ?_
    show Steps p.tables e below (s₁.setTop (mkF m 1 #[.val (.ref a1), .val (.ref x2), .val (.ref x3), .val (.ref x4)] [(.ref a1)])) _
    refine st1.trans ?_
    show Steps p.tables e below (T1.setTop (mkF m 4 #[.val (.ref a1), .val (.ref x2), .val (.ref x3), .val (.ref x4)] [])) _
    refine XS.aloadN X1.here hx rfl (hb hby d13_4) rfl rfl ?_
    show Steps p.tables e below (T1.setTop (mkF m 5 #[.val (.ref a1), .val (.ref x2), .val (.ref x3), .val (.ref x4)] [(.ref x2)])) _
    refine st2 _ ?_
    show Steps p.tables e below (T2.setTop (mkF m 8 #[.val (.ref a1), .val (.ref x2), .val (.ref x3), .val (.ref x4)] [(.ref x2)])) _
    refine XS.pop X2.here hx rfl (hb hby d13_8) rfl rfl ?_
    show Steps p.tables e below (T2.setTop (mkF m 9 #[.val (.ref a1), .val (.ref x2), .val (.ref x3), .val (.ref x4)] [])) _
    refine XS.aloadN X2.here hx rfl (hb hby d13_9) rfl rfl ?_
    show Steps p.tables e below (T2.setTop (mkF m 10 #[.val (.ref a1), .val (.ref x2), .val (.ref x3), .val (.ref x4)] [(.ref x3)])) _
    refine st3 _ ?_
    show Steps p.tables e below (T3.setTop (mkF m 13 #[.val (.ref a1), .val (.ref x2), .val (.ref x3), .val (.ref x4)] [(.ref x3)])) _
    refine XS.pop X3.here hx rfl (hb hby d13_13) rfl rfl ?_
    show Steps p.tables e below (T3.setTop (mkF m 14 #[.val (.ref a1), .val (.ref x2), .val (.ref x3), .val (.ref x4)] [])) _
    refine XS.aloadN X3.here hx rfl (hb hby d13_14) rfl rfl ?_
    show Steps p.tables e below (T3.setTop (mkF m 15 #[.val (.ref a1), .val (.ref x2), .val (.ref x3), .val (.ref x4)] [(.ref x4)])) _
    refine st4 _ ?_
    show Steps p.tables e below (T4.setTop (mkF m 18 #[.val (.ref a1), .val (.ref x2), .val (.ref x3), .val (.ref x4)] [(.ref x4)])) _
    refine XS.pop X4.here hx rfl (hb hby d13_18) rfl rfl ?_
    show Steps p.tables e below (T4.setTop (mkF m 19 #[.val (.ref a1), .val (.ref x2), .val (.ref x3), .val (.ref x4)] [])) _
    refine XS.aloadN X4.here hx rfl (hb hby d13_19) rfl rfl ?_
    show Steps p.tables e below (T4.setTop (mkF m 20 #[.val (.ref a1), .val (.ref x2), .val (.ref x3), .val (.ref x4)] [(.ref a1)])) _
    refine XS.aloadN X4.here hx rfl (hb hby d13_20) rfl rfl ?_
    show Steps p.tables e below (T4.setTop (mkF m 21 #[.val (.ref a1), .val (.ref x2), .val (.ref x3), .val (.ref x4)] [(.ref x2), (.ref a1)])) _
    refine st5 _ ?_
    show Steps p.tables e below (T5.setTop (mkF m 24 #[.val (.ref a1), .val (.ref x2), .val (.ref x3), .val (.ref x4)] [])) _
    refine XS.aloadN X5.here hx rfl (hb hby d13_24) rfl rfl ?_
    show Steps p.tables e below (T5.setTop (mkF m 25 #[.val (.ref a1), .val (.ref x2), .val (.ref x3), .val (.ref x4)] [(.ref a1)])) _
    refine XS.aloadN X5.here hx rfl (hb hby d13_25) rfl rfl ?_
    show Steps p.tables e below (T5.setTop (mkF m 26 #[.val (.ref a1), .val (.ref x2), .val (.ref x3), .val (.ref x4)] [(.ref x3), (.ref a1)])) _
    refine st6 _ ?_
    show Steps p.tables e below (T6.setTop (mkF m 29 #[.val (.ref a1), .val (.ref x2), .val (.ref x3), .val (.ref x4)] [])) _
    refine XS.aloadN X6.here hx rfl (hb hby d13_29) rfl rfl ?_
    show Steps p.tables e below (T6.setTop (mkF m 30 #[.val (.ref a1), .val (.ref x2), .val (.ref x3), .val (.ref x4)] [(.ref a1)])) _
    refine XS.aloadN X6.here hx rfl (hb hby d13_30) rfl rfl ?_
    show Steps p.tables e below (T6.setTop (mkF m 31 #[.val (.ref a1), .val (.ref x2), .val (.ref x3), .val (.ref x4)] [(.ref x4), (.ref a1)])) _
    refine st7 _ ?_
    show Steps p.tables e below (T7.setTop (mkF m 34 #[.val (.ref a1), .val (.ref x2), .val (.ref x3), .val (.ref x4)] [])) _
    exact X7.returnOut hx Bd.returns (hb hby d13_34) hr
  · show QE Z a1 "com/example/refleash/refleash/heap/Leak$Node" h0 n0 _ T7.heap _
    rw [e7]
    exact ⟨rfl, N7, K7, E7_a1⟩
theorem d12_0 : decode jdk_40_method_36_code 0 = .ok (.getstatic 90, 3) := by decide +kernel
theorem d12_3 : decode jdk_40_method_36_code 3 = .ok (.areturn, 1) := by decide +kernel
theorem ef_12_ (m : MethodId)  : entryFrame m #[] 0 = mkF m 0 #[] [] := by first | (simp [entryFrame, mkF, argsToLocals, Value.category]; done) | (simp [entryFrame, mkF, argsToLocals, own_cr, own_ci, own_cj]; done) | rfl
theorem pn_java_util_List : plainName "java/util/List" = true := by first | (simp [plainName, overriddenIn]; done) | decide +kernel
set_option maxRecDepth 65536 in
set_option maxHeartbeats 40000000 in
theorem list_of0 (l : Launch) (Z : State) (a0 : Array Value) (hw : ∀ d ∈ tables_1, d.before a0 Z = true) (ws : List Jvm.Cond) (w_el : Addr) (h0 : Heap) (n0 : Nat) (Z0 : n0 ≤ h0.size) (S_el : Sta Z h0 "java/util/ImmutableCollections" "EMPTY_LIST" "Ljava/util/ImmutableCollections$ListN;" (.ref w_el)) :
    MetFree l (⟨"java/util/List", "of", "()Ljava/util/List;"⟩ : MethodName) (head1 (Jvm.Cond.code (⟨"java/util/List", "of", "()Ljava/util/List;"⟩ : MethodName) jdk_40_method_36_code 0 (some (.object "java/util/List")) :: ws) ({ frames := 0, cells := 0, slots := 0, locals := 0 } : Room)) (fun a U => a = #[] ∧ Z.Warmed39 U.vm ∧ U.heap = h0) (fun _ _ _ _ _ => True) (fun _ U o U' => ∃ v L, o = .returned v ∧ QG (.ref w_el) h0 n0 v U'.heap L ∧ FrameEnd U o U' L ({ frames := 0, cells := 0, slots := 0, locals := 0 } : Room).cells ({ frames := 0, cells := 0, slots := 0, locals := 0 } : Room).slots) := by
  refine MetFree.of_bodySF (plainFor_of_name pn_java_util_List) hisR ?_
  intro p e s m args below meth c s₁ Bd hml0 hP hK
  obtain ⟨rfl, hZ, hh⟩ := hP
  have hx := Bd.exec
  have hby := Bd.bytes
  have hml : c.maxLocals = 0 := hml0
  have hown : s.vm.findClass "java/util/List" = some m.cls := findClass_of_methodNamed Bd.named
  have hnm := (name_of_methodNamed Bd.named Bd.method).1
  have X0 : Stand p l e ({ frames := 0, cells := 0, slots := 0, locals := 0 } : Room) s m #[] below meth c s₁ [] 0 0 := Stand.of_body Bd
  have e0 : s₁.heap = h0 := by rw [← hh, Bd.state]; rfl
  have N0 := Fr.nil n0
  have pre0 : ∀ t, Steps p.tables e below (s₁.setTop (mkF m 0 #[] [])) t → Steps p.tables e below (s₁.setTop (entryFrame m #[] 0)) t := fun t k => castTop (ef_12_ m ) k
  obtain ⟨T1, X1, e1, st1⟩ := getS2 X0 hx hZ hown (host := "") (Or.inl (hw _ (List.mem_of_getElem? (i := 97) rfl))) Via.refl e0 S_el (g := (mkF m 0 #[] [])) rfl (hb hby d12_0)
  obtain ⟨fs, hr, hrun, hended, hW, hsame⟩ := X1.leave (v := some (.ref w_el)) (fun h => by rw [Bd.returns] at h; cases h)
  refine ⟨_, _, pre0 _ ?_, hrun, hended, _, _, rfl, ?_, ⟨_, rfl⟩, hW, hsame.mono (by decide) (by decide)⟩
  · show Steps p.tables e below (s₁.setTop (mkF m 0 #[] [])) _
    refine st1 _ ?_
    show Steps p.tables e below (T1.setTop (mkF m 3 #[] [(.ref w_el)])) _
    exact retOut X1 hx Bd.returns rfl (Or.inr (Or.inr (Or.inr (Or.inr ⟨rfl, rfl, rfl⟩)))) (hb hby d12_3) hr
  · show QG (.ref w_el) h0 n0 _ T1.heap _
    rw [e1]
    exact ⟨rfl, N0, rfl⟩
theorem d11_0 : decode jdk_38_method_9_code 0 = .ok (.aload_n 0, 1) := by decide +kernel
theorem d11_1 : decode jdk_38_method_9_code 1 = .ok (.getfield 48, 3) := by decide +kernel
theorem d11_4 : decode jdk_38_method_9_code 4 = .ok (.ifCond .ne 7, 3) := by decide +kernel
theorem d11_7 : decode jdk_38_method_9_code 7 = .ok (.iconst 1, 1) := by decide +kernel
theorem d11_8 : decode jdk_38_method_9_code 8 = .ok (.goto 4, 3) := by decide +kernel
theorem d11_12 : decode jdk_38_method_9_code 12 = .ok (.ireturn, 1) := by decide +kernel
theorem ef_11_R (m : MethodId) (x0 : Addr) : entryFrame m #[(.ref x0)] 1 = mkF m 0 #[.val (.ref x0)] [] := by first | (simp [entryFrame, mkF, argsToLocals, Value.category]; done) | (simp [entryFrame, mkF, argsToLocals, own_cr, own_ci, own_cj]; done) | rfl
set_option maxRecDepth 65536 in
set_option maxHeartbeats 40000000 in
theorem is_empty0 (l : Launch) (Z : State) (a0 : Array Value) (hw : ∀ d ∈ tables_1, d.before a0 Z = true) (ws : List Jvm.Cond) (a1 : Addr) (h0 : Heap) (n0 : Nat) (Z0 : n0 ≤ h0.size) (F_size : Fld Z h0 a1 "java/util/ArrayList" "size" "I" (.int (0 : Int32))) :
    MetFree l (⟨"java/util/ArrayList", "isEmpty", "()Z"⟩ : MethodName) (head1 (Jvm.Cond.code (⟨"java/util/ArrayList", "isEmpty", "()Z"⟩ : MethodName) jdk_38_method_9_code 1 (some .boolean) :: ws) ({ frames := 0, cells := 0, slots := 0, locals := 0 } : Room)) (fun a U => a = #[(.ref a1)] ∧ Z.Warmed39 U.vm ∧ U.heap = h0) (fun _ _ _ _ _ => True) (fun _ U o U' => ∃ v L, o = .returned v ∧ QG (.int (1 : Int32)) h0 n0 v U'.heap L ∧ FrameEnd U o U' L ({ frames := 0, cells := 0, slots := 0, locals := 0 } : Room).cells ({ frames := 0, cells := 0, slots := 0, locals := 0 } : Room).slots) := by
  refine MetFree.of_bodySF (plainFor_of_name pn_java_util_ArrayList) hisR ?_
  intro p e s m args below meth c s₁ Bd hml0 hP hK
  obtain ⟨rfl, hZ, hh⟩ := hP
  have hx := Bd.exec
  have hby := Bd.bytes
  have hml : c.maxLocals = 1 := hml0
  have hown : s.vm.findClass "java/util/ArrayList" = some m.cls := findClass_of_methodNamed Bd.named
  have hnm := (name_of_methodNamed Bd.named Bd.method).1
  have X0 : Stand p l e ({ frames := 0, cells := 0, slots := 0, locals := 0 } : Room) s m #[(.ref a1)] below meth c s₁ [] 0 0 := Stand.of_body Bd
  have e0 : s₁.heap = h0 := by rw [← hh, Bd.state]; rfl
  have N0 := Fr.nil n0
  have pre0 : ∀ t, Steps p.tables e below (s₁.setTop (mkF m 0 #[.val (.ref a1)] [])) t → Steps p.tables e below (s₁.setTop (entryFrame m #[(.ref a1)] 1)) t := fun t k => castTop (ef_11_R m a1) k
  obtain ⟨T1, X1, e1, st1⟩ := getF X0 hx hZ hown (host := "") (Or.inl (hw _ (List.mem_of_getElem? (i := 92) rfl))) Via.refl e0 F_size (g := (mkF m 1 #[.val (.ref a1)] [(.ref a1)])) rfl rfl (hb hby d11_1)
  obtain ⟨fs, hr, hrun, hended, hW, hsame⟩ := X1.leave (v := some (.int (1 : Int32))) (fun h => by rw [Bd.returns] at h; cases h)
  refine ⟨_, _, pre0 _ ?_, hrun, hended, _, _, rfl, ?_, ⟨_, rfl⟩, hW, hsame.mono (by decide) (by decide)⟩
  · show Steps p.tables e below (s₁.setTop (mkF m 0 #[.val (.ref a1)] [])) _
    refine XS.aloadN X0.here hx rfl (hb hby d11_0) rfl rfl ?_
    show Steps p.tables e below (s₁.setTop (mkF m 1 #[.val (.ref a1)] [(.ref a1)])) _
    refine st1 _ ?_
    show Steps p.tables e below (T1.setTop (mkF m 4 #[.val (.ref a1)] [(.int (0 : Int32))])) _
    refine XS.ifNo X1.here hx rfl (hb hby d11_4) rfl ((if0 _ _).trans (teq (by decide : (0 : Int32) = (0 : Int32))).2) ?_
    show Steps p.tables e below (T1.setTop (mkF m 7 #[.val (.ref a1)] [])) _
    refine XS.iconst X1.here hx rfl (hb hby d11_7) ?_
    show Steps p.tables e below (T1.setTop (mkF m 8 #[.val (.ref a1)] [(.int (1 : Int32))])) _
    refine XS.goto X1.here hx rfl (pc0 := 8) (pc' := 12) rfl (hb hby d11_8) (by decide) (by decide) ?_
    show Steps p.tables e below (T1.setTop (mkF m 12 #[.val (.ref a1)] [(.int (1 : Int32))])) _
    exact retOut X1 hx Bd.returns rfl (Or.inl ⟨rfl, Or.inr (Or.inl rfl), _, rfl⟩) (hb hby d11_12) hr
  · show QG (.int (1 : Int32)) h0 n0 _ T1.heap _
    rw [e1]
    exact ⟨rfl, N0, rfl⟩
theorem d11_11 : decode jdk_38_method_9_code 11 = .ok (.iconst 0, 1) := by decide +kernel
set_option maxRecDepth 65536 in
set_option maxHeartbeats 40000000 in
theorem is_empty1 (l : Launch) (Z : State) (a0 : Array Value) (hw : ∀ d ∈ tables_1, d.before a0 Z = true) (ws : List Jvm.Cond) (a1 : Addr) (h0 : Heap) (n0 : Nat) (Z0 : n0 ≤ h0.size) (F_size : Fld Z h0 a1 "java/util/ArrayList" "size" "I" (.int (1 : Int32))) :
    MetFree l (⟨"java/util/ArrayList", "isEmpty", "()Z"⟩ : MethodName) (head1 (Jvm.Cond.code (⟨"java/util/ArrayList", "isEmpty", "()Z"⟩ : MethodName) jdk_38_method_9_code 1 (some .boolean) :: ws) ({ frames := 0, cells := 0, slots := 0, locals := 0 } : Room)) (fun a U => a = #[(.ref a1)] ∧ Z.Warmed39 U.vm ∧ U.heap = h0) (fun _ _ _ _ _ => True) (fun _ U o U' => ∃ v L, o = .returned v ∧ QG (.int (0 : Int32)) h0 n0 v U'.heap L ∧ FrameEnd U o U' L ({ frames := 0, cells := 0, slots := 0, locals := 0 } : Room).cells ({ frames := 0, cells := 0, slots := 0, locals := 0 } : Room).slots) := by
  refine MetFree.of_bodySF (plainFor_of_name pn_java_util_ArrayList) hisR ?_
  intro p e s m args below meth c s₁ Bd hml0 hP hK
  obtain ⟨rfl, hZ, hh⟩ := hP
  have hx := Bd.exec
  have hby := Bd.bytes
  have hml : c.maxLocals = 1 := hml0
  have hown : s.vm.findClass "java/util/ArrayList" = some m.cls := findClass_of_methodNamed Bd.named
  have hnm := (name_of_methodNamed Bd.named Bd.method).1
  have X0 : Stand p l e ({ frames := 0, cells := 0, slots := 0, locals := 0 } : Room) s m #[(.ref a1)] below meth c s₁ [] 0 0 := Stand.of_body Bd
  have e0 : s₁.heap = h0 := by rw [← hh, Bd.state]; rfl
  have N0 := Fr.nil n0
  have pre0 : ∀ t, Steps p.tables e below (s₁.setTop (mkF m 0 #[.val (.ref a1)] [])) t → Steps p.tables e below (s₁.setTop (entryFrame m #[(.ref a1)] 1)) t := fun t k => castTop (ef_11_R m a1) k
  obtain ⟨T1, X1, e1, st1⟩ := getF X0 hx hZ hown (host := "") (Or.inl (hw _ (List.mem_of_getElem? (i := 92) rfl))) Via.refl e0 F_size (g := (mkF m 1 #[.val (.ref a1)] [(.ref a1)])) rfl rfl (hb hby d11_1)
  obtain ⟨fs, hr, hrun, hended, hW, hsame⟩ := X1.leave (v := some (.int (0 : Int32))) (fun h => by rw [Bd.returns] at h; cases h)
  refine ⟨_, _, pre0 _ ?_, hrun, hended, _, _, rfl, ?_, ⟨_, rfl⟩, hW, hsame.mono (by decide) (by decide)⟩
  · show Steps p.tables e below (s₁.setTop (mkF m 0 #[.val (.ref a1)] [])) _
    refine XS.aloadN X0.here hx rfl (hb hby d11_0) rfl rfl ?_
    show Steps p.tables e below (s₁.setTop (mkF m 1 #[.val (.ref a1)] [(.ref a1)])) _
    refine st1 _ ?_
    show Steps p.tables e below (T1.setTop (mkF m 4 #[.val (.ref a1)] [(.int (1 : Int32))])) _
    refine XS.ifYes X1.here hx rfl (pc0 := 4) (pc' := 11) rfl (hb hby d11_4) rfl ((if0 _ _).trans (feq (by decide : ¬ ((1 : Int32) = (0 : Int32)))).2) (by decide) (by decide) ?_
    show Steps p.tables e below (T1.setTop (mkF m 11 #[.val (.ref a1)] [])) _
    refine XS.iconst X1.here hx rfl (hb hby d11_11) ?_
    show Steps p.tables e below (T1.setTop (mkF m 12 #[.val (.ref a1)] [(.int (0 : Int32))])) _
    exact retOut X1 hx Bd.returns rfl (Or.inl ⟨rfl, Or.inr (Or.inl rfl), _, rfl⟩) (hb hby d11_12) hr
  · show QG (.int (0 : Int32)) h0 n0 _ T1.heap _
    rw [e1]
    exact ⟨rfl, N0, rfl⟩
theorem d10_0 : decode jdk_56_method_3_code 0 = .ok (.aload_n 0, 1) := by decide +kernel
theorem d10_1 : decode jdk_56_method_3_code 1 = .ok (.instanceof 10, 3) := by decide +kernel
theorem d10_4 : decode jdk_56_method_3_code 4 = .ok (.ifCond .ne 22, 3) := by decide +kernel
theorem d10_7 : decode jdk_56_method_3_code 7 = .ok (.aload_n 0, 1) := by decide +kernel
theorem d10_8 : decode jdk_56_method_3_code 8 = .ok (.instanceof 12, 3) := by decide +kernel
theorem d10_11 : decode jdk_56_method_3_code 11 = .ok (.ifCond .eq 20, 3) := by decide +kernel
theorem d10_31 : decode jdk_56_method_3_code 31 = .ok (.aload_n 0, 1) := by decide +kernel
theorem d10_32 : decode jdk_56_method_3_code 32 = .ok (.invokeinterface 20 1, 5) := by decide +kernel
theorem pd___Z : parseMethodDescriptor "()Z" = some ⟨[], some .boolean⟩ := by decide +kernel
theorem d10_37 : decode jdk_56_method_3_code 37 = .ok (.ifCond .eq 7, 3) := by decide +kernel
theorem d10_40 : decode jdk_56_method_3_code 40 = .ok (.invokestatic 26, 3) := by decide +kernel
theorem pd___Ljava_util_List_ : parseMethodDescriptor "()Ljava/util/List;" = some ⟨[], some (.object "java/util/List")⟩ := by decide +kernel
theorem d10_43 : decode jdk_56_method_3_code 43 = .ok (.areturn, 1) := by decide +kernel
theorem ef_10_R (m : MethodId) (x0 : Addr) : entryFrame m #[(.ref x0)] 2 = mkF m 0 #[.val (.ref x0), .unset] [] := by first | (simp [entryFrame, mkF, argsToLocals, Value.category]; done) | (simp [entryFrame, mkF, argsToLocals, own_cr, own_ci, own_cj]; done) | rfl
theorem pn_java_util_ImmutableCollections : plainName "java/util/ImmutableCollections" = true := by first | (simp [plainName, overriddenIn]; done) | decide +kernel
set_option maxRecDepth 65536 in
set_option maxHeartbeats 40000000 in
theorem list_copy0 (l : Launch) (Z : State) (a0 : Array Value) (hw : ∀ d ∈ tables_1, d.before a0 Z = true) (ws : List Jvm.Cond) (a1 w_el : Addr) (h0 : Heap) (n0 : Nat) (Z0 : n0 ≤ h0.size) (E_a1 : Exa Z h0 a1 "java/util/ArrayList") (F_size : Fld Z h0 a1 "java/util/ArrayList" "size" "I" (.int (0 : Int32))) (S_el : Sta Z h0 "java/util/ImmutableCollections" "EMPTY_LIST" "Ljava/util/ImmutableCollections$ListN;" (.ref w_el)) :
    MetFree l (⟨"java/util/ImmutableCollections", "listCopy", "(Ljava/util/Collection;)Ljava/util/List;"⟩ : MethodName) (head1 (Jvm.Cond.code (⟨"java/util/ImmutableCollections", "listCopy", "(Ljava/util/Collection;)Ljava/util/List;"⟩ : MethodName) jdk_56_method_3_code 2 (some (.object "java/util/List")) :: ws) ({ frames := 1, cells := 0, slots := 0, locals := 12 } : Room)) (fun a U => a = #[(.ref a1)] ∧ Z.Warmed39 U.vm ∧ U.heap = h0) (fun _ _ _ _ _ => True) (fun _ U o U' => ∃ v L, o = .returned v ∧ QG (.ref w_el) h0 n0 v U'.heap L ∧ FrameEnd U o U' L ({ frames := 1, cells := 0, slots := 0, locals := 12 } : Room).cells ({ frames := 1, cells := 0, slots := 0, locals := 12 } : Room).slots) := by
  refine MetFree.of_bodySF (plainFor_of_name pn_java_util_ImmutableCollections) hisR ?_
  intro p e s m args below meth c s₁ Bd hml0 hP hK
  obtain ⟨rfl, hZ, hh⟩ := hP
  have hx := Bd.exec
  have hby := Bd.bytes
  have hml : c.maxLocals = 2 := hml0
  have hown : s.vm.findClass "java/util/ImmutableCollections" = some m.cls := findClass_of_methodNamed Bd.named
  have hnm := (name_of_methodNamed Bd.named Bd.method).1
  have X0 : Stand p l e ({ frames := 1, cells := 0, slots := 0, locals := 12 } : Room) s m #[(.ref a1)] below meth c s₁ [] 0 0 := Stand.of_body Bd
  have e0 : s₁.heap = h0 := by rw [← hh, Bd.state]; rfl
  have N0 := Fr.nil n0
  have pre0 : ∀ t, Steps p.tables e below (s₁.setTop (mkF m 0 #[.val (.ref a1), .unset] [])) t → Steps p.tables e below (s₁.setTop (entryFrame m #[(.ref a1)] 2)) t := fun t k => castTop (ef_10_R m a1) k
  obtain ⟨T1, X1, e1, st1⟩ := instNo X0 hx hZ hown (hw _ (List.mem_of_getElem? (i := 77) rfl)) e0 E_a1 (own_not12 hw) (g := (mkF m 1 #[.val (.ref a1), .unset] [(.ref a1)])) rfl rfl (hb hby d10_1)
  obtain ⟨T2, X2, e2, st2⟩ := instNo X1 hx hZ hown (hw _ (List.mem_of_getElem? (i := 82) rfl)) e1 E_a1 (own_notN hw) (g := (mkF m 8 #[.val (.ref a1), .unset] [(.ref a1)])) rfl rfl (hb hby d10_8)
  obtain ⟨cq3, kq3, q3a, q3b, q3c⟩ := isOf hZ e2 E_a1
  obtain ⟨_, _, ⟨T3, L3, k3, n3⟩, -, X3, ⟨Lc3, hQ3, l3, y3, z3⟩, st3⟩ := X2.interfaceBack hx (xi := (⟨"java/util/Collection", "isEmpty", "()Z"⟩ : MethodName)) (y := (⟨"java/util/ArrayList", "isEmpty", "()Z"⟩ : MethodName)) hown (mvT hZ (hw _ (List.mem_of_getElem? (i := 83) rfl))) (mvT hZ (hw _ (List.mem_of_getElem? (i := 84) rfl))) (mvT hZ (hw _ (List.mem_of_getElem? (i := 85) rfl))) (mvT hZ (hw _ (List.mem_of_getElem? (i := 86) rfl))) (mvT hZ (hw _ (List.mem_of_getElem? (i := 87) rfl))) (mvT hZ (hw _ (List.mem_of_getElem? (i := 88) rfl))) (mvT hZ (hw _ (List.mem_of_getElem? (i := 89) rfl))) (mvT hZ (hw _ (List.mem_of_getElem? (i := 90) rfl))) (by decide) (backOf (W := 0) (is_empty0 l Z a0 hw [] a1 h0 n0 Z0 F_size) hZ (hw _ (List.mem_of_getElem? (i := 91) rfl)) (hw _ (List.mem_of_getElem? (i := 42) rfl)) (by decide) (by decide)) q3a q3b q3c (g := (mkF m 32 #[.val (.ref a1), .unset] [(.ref a1)])) rfl (by rw [hml]; rfl) (Steps.refl _) (argsL := []) (rest := []) (lenOf pd___Z rfl) rfl (by show 2 * 0 + _ ≤ _; exact Nat.le_of_eq rfl) (hb hby d10_32) (fun _ _ => ⟨rfl, e2, (by decide : 0 + 0 ≤ _), (by decide : 0 + 0 ≤ _)⟩)
  dsimp only [Pt.U, Pt.locs, Pt.cells, Pt.slots] at X3 l3 y3 z3 st3 hQ3
  subst l3 y3 z3
  obtain ⟨rfl, N3q, e3⟩ := hQ3
  have N3 := Fr.app N0 N3q
  obtain ⟨_, _, ⟨T4, L4, k4, n4⟩, -, X4, ⟨Lc4, hQ4, l4, y4, z4⟩, st4⟩ := Jvm.LawKit.callS X3 hx (y := (⟨"java/util/List", "of", "()Ljava/util/List;"⟩ : MethodName)) hown (mvT hZ (hw _ (List.mem_of_getElem? (i := 94) rfl))) (mvT hZ (hw _ (List.mem_of_getElem? (i := 95) rfl))) (mvT hZ (hw _ (List.mem_of_getElem? (i := 71) rfl))) (mvT hZ (hw _ (List.mem_of_getElem? (i := 96) rfl))) (by decide) (backOf (W := 0) (list_of0 l Z a0 hw [] w_el h0 n0 Z0 S_el) hZ (hw _ (List.mem_of_getElem? (i := 96) rfl)) (hw _ (List.mem_of_getElem? (i := 71) rfl)) (by decide) (by decide)) (g := (mkF m 40 #[.val (.ref a1), .unset] [])) rfl (by rw [hml]; rfl) (argsL := []) (rest := []) (lenOf pd___Ljava_util_List_ rfl) rfl (by show 2 * 0 + _ ≤ _; exact Nat.le_of_eq rfl) (hb hby d10_40) (fun _ _ => ⟨rfl, e3, (by decide : 0 + 0 ≤ _), (by decide : 0 + 0 ≤ _)⟩)
  dsimp only [Pt.U, Pt.locs, Pt.cells, Pt.slots] at X4 l4 y4 z4 st4 hQ4
  subst l4 y4 z4
  obtain ⟨rfl, N4q, e4⟩ := hQ4
  have N4 := Fr.app N3 N4q
  obtain ⟨fs, hr, hrun, hended, hW, hsame⟩ := X4.leave (v := some (.ref w_el)) (fun h => by rw [Bd.returns] at h; cases h)
  refine ⟨_, _, pre0 _ ?_, hrun, hended, _, _, rfl, ?_, ⟨_, rfl⟩, hW, hsame.mono (by decide) (by decide)⟩
  · show Steps p.tables e below (s₁.setTop (mkF m 0 #[.val (.ref a1), .unset] [])) _
    refine XS.aloadN X0.here hx rfl (hb hby d10_0) rfl rfl ?_
    show Steps p.tables e below (s₁.setTop (mkF m 1 #[.val (.ref a1), .unset] [(.ref a1)])) _
    refine st1 _ ?_
    show Steps p.tables e below (T1.setTop (mkF m 4 #[.val (.ref a1), .unset] [(.int (0 : Int32))])) _
    refine XS.ifNo X1.here hx rfl (hb hby d10_4) rfl ((if0 _ _).trans (teq (by decide : (0 : Int32) = (0 : Int32))).2) ?_
    show Steps p.tables e below (T1.setTop (mkF m 7 #[.val (.ref a1), .unset] [])) _
    refine XS.aloadN X1.here hx rfl (hb hby d10_7) rfl rfl ?_
    show Steps p.tables e below (T1.setTop (mkF m 8 #[.val (.ref a1), .unset] [(.ref a1)])) _
    refine st2 _ ?_
    show Steps p.tables e below (T2.setTop (mkF m 11 #[.val (.ref a1), .unset] [(.int (0 : Int32))])) _
    refine XS.ifYes X2.here hx rfl (pc0 := 11) (pc' := 31) rfl (hb hby d10_11) rfl ((if0 _ _).trans (teq (by decide : (0 : Int32) = (0 : Int32))).1) (by decide) (by decide) ?_
    show Steps p.tables e below (T2.setTop (mkF m 31 #[.val (.ref a1), .unset] [])) _
    refine XS.aloadN X2.here hx rfl (hb hby d10_31) rfl rfl ?_
    show Steps p.tables e below (T2.setTop (mkF m 32 #[.val (.ref a1), .unset] [(.ref a1)])) _
    refine st3.trans ?_
    show Steps p.tables e below (T3.setTop (mkF m 37 #[.val (.ref a1), .unset] [(.int (1 : Int32))])) _
    refine XS.ifNo X3.here hx rfl (hb hby d10_37) rfl ((if0 _ _).trans (feq (by decide : ¬ ((1 : Int32) = (0 : Int32)))).1) ?_
    show Steps p.tables e below (T3.setTop (mkF m 40 #[.val (.ref a1), .unset] [])) _
    refine st4 _ ?_
    show Steps p.tables e below (T4.setTop (mkF m 43 #[.val (.ref a1), .unset] [(.ref w_el)])) _
    exact retOut X4 hx Bd.returns rfl (Or.inr (Or.inr (Or.inr (Or.inr ⟨rfl, rfl, rfl⟩)))) (hb hby d10_43) hr
  · show QG (.ref w_el) h0 n0 _ T4.heap _
    rw [e4]
    exact ⟨rfl, N4, rfl⟩
theorem d9_0 : decode jdk_40_method_48_code 0 = .ok (.aload_n 0, 1) := by decide +kernel
theorem d9_1 : decode jdk_40_method_48_code 1 = .ok (.invokestatic 112, 3) := by decide +kernel
theorem pd__Ljava_util_Collection__Ljava_util_List_ : parseMethodDescriptor "(Ljava/util/Collection;)Ljava/util/List;" = some ⟨[(.object "java/util/Collection")], some (.object "java/util/List")⟩ := by decide +kernel
theorem d9_4 : decode jdk_40_method_48_code 4 = .ok (.areturn, 1) := by decide +kernel
theorem ef_9_R (m : MethodId) (x0 : Addr) : entryFrame m #[(.ref x0)] 1 = mkF m 0 #[.val (.ref x0)] [] := by first | (simp [entryFrame, mkF, argsToLocals, Value.category]; done) | (simp [entryFrame, mkF, argsToLocals, own_cr, own_ci, own_cj]; done) | rfl
set_option maxRecDepth 65536 in
set_option maxHeartbeats 40000000 in
theorem copy_of0 (l : Launch) (Z : State) (a0 : Array Value) (hw : ∀ d ∈ tables_1, d.before a0 Z = true) (ws : List Jvm.Cond) (a1 w_el : Addr) (h0 : Heap) (n0 : Nat) (Z0 : n0 ≤ h0.size) (E_a1 : Exa Z h0 a1 "java/util/ArrayList") (F_size : Fld Z h0 a1 "java/util/ArrayList" "size" "I" (.int (0 : Int32))) (S_el : Sta Z h0 "java/util/ImmutableCollections" "EMPTY_LIST" "Ljava/util/ImmutableCollections$ListN;" (.ref w_el)) :
    MetFree l (⟨"java/util/List", "copyOf", "(Ljava/util/Collection;)Ljava/util/List;"⟩ : MethodName) (head1 (Jvm.Cond.code (⟨"java/util/List", "copyOf", "(Ljava/util/Collection;)Ljava/util/List;"⟩ : MethodName) jdk_40_method_48_code 1 (some (.object "java/util/List")) :: ws) ({ frames := 2, cells := 0, slots := 0, locals := 25 } : Room)) (fun a U => a = #[(.ref a1)] ∧ Z.Warmed39 U.vm ∧ U.heap = h0) (fun _ _ _ _ _ => True) (fun _ U o U' => ∃ v L, o = .returned v ∧ QG (.ref w_el) h0 n0 v U'.heap L ∧ FrameEnd U o U' L ({ frames := 2, cells := 0, slots := 0, locals := 25 } : Room).cells ({ frames := 2, cells := 0, slots := 0, locals := 25 } : Room).slots) := by
  refine MetFree.of_bodySF (plainFor_of_name pn_java_util_List) hisR ?_
  intro p e s m args below meth c s₁ Bd hml0 hP hK
  obtain ⟨rfl, hZ, hh⟩ := hP
  have hx := Bd.exec
  have hby := Bd.bytes
  have hml : c.maxLocals = 1 := hml0
  have hown : s.vm.findClass "java/util/List" = some m.cls := findClass_of_methodNamed Bd.named
  have hnm := (name_of_methodNamed Bd.named Bd.method).1
  have X0 : Stand p l e ({ frames := 2, cells := 0, slots := 0, locals := 25 } : Room) s m #[(.ref a1)] below meth c s₁ [] 0 0 := Stand.of_body Bd
  have e0 : s₁.heap = h0 := by rw [← hh, Bd.state]; rfl
  have N0 := Fr.nil n0
  have pre0 : ∀ t, Steps p.tables e below (s₁.setTop (mkF m 0 #[.val (.ref a1)] [])) t → Steps p.tables e below (s₁.setTop (entryFrame m #[(.ref a1)] 1)) t := fun t k => castTop (ef_9_R m a1) k
  obtain ⟨_, _, ⟨T1, L1, k1, n1⟩, -, X1, ⟨Lc1, hQ1, l1, y1, z1⟩, st1⟩ := Jvm.LawKit.callS X0 hx (y := (⟨"java/util/ImmutableCollections", "listCopy", "(Ljava/util/Collection;)Ljava/util/List;"⟩ : MethodName)) hown (mvT hZ (hw _ (List.mem_of_getElem? (i := 73) rfl))) (mvT hZ (hw _ (List.mem_of_getElem? (i := 74) rfl))) (mvT hZ (hw _ (List.mem_of_getElem? (i := 75) rfl))) (mvT hZ (hw _ (List.mem_of_getElem? (i := 76) rfl))) (by decide) (backOf (W := 0) (list_copy0 l Z a0 hw [] a1 w_el h0 n0 Z0 E_a1 F_size S_el) hZ (hw _ (List.mem_of_getElem? (i := 76) rfl)) (hw _ (List.mem_of_getElem? (i := 75) rfl)) (by decide) (by decide)) (g := (mkF m 1 #[.val (.ref a1)] [(.ref a1)])) rfl (by rw [hml]; rfl) (argsL := [(.ref a1)]) (rest := []) (lenOf pd__Ljava_util_Collection__Ljava_util_List_ rfl) rfl (by show 2 * 0 + _ ≤ _; exact Nat.le_of_eq rfl) (hb hby d9_1) (fun _ _ => ⟨rfl, e0, (by decide : 0 + 0 ≤ _), (by decide : 0 + 0 ≤ _)⟩)
  dsimp only [Pt.U, Pt.locs, Pt.cells, Pt.slots] at X1 l1 y1 z1 st1 hQ1
  subst l1 y1 z1
  obtain ⟨rfl, N1q, e1⟩ := hQ1
  have N1 := Fr.app N0 N1q
  obtain ⟨fs, hr, hrun, hended, hW, hsame⟩ := X1.leave (v := some (.ref w_el)) (fun h => by rw [Bd.returns] at h; cases h)
  refine ⟨_, _, pre0 _ ?_, hrun, hended, _, _, rfl, ?_, ⟨_, rfl⟩, hW, hsame.mono (by decide) (by decide)⟩
  · show Steps p.tables e below (s₁.setTop (mkF m 0 #[.val (.ref a1)] [])) _
    refine XS.aloadN X0.here hx rfl (hb hby d9_0) rfl rfl ?_
    show Steps p.tables e below (s₁.setTop (mkF m 1 #[.val (.ref a1)] [(.ref a1)])) _
    refine st1 _ ?_
    show Steps p.tables e below (T1.setTop (mkF m 4 #[.val (.ref a1)] [(.ref w_el)])) _
    exact retOut X1 hx Bd.returns rfl (Or.inr (Or.inr (Or.inr (Or.inr ⟨rfl, rfl, rfl⟩)))) (hb hby d9_4) hr
  · show QG (.ref w_el) h0 n0 _ T1.heap _
    rw [e1]
    exact ⟨rfl, N1, rfl⟩
theorem d8_0 : decode prog_49_method_1_code 0 = .ok (.aload_n 0, 1) := by decide +kernel
theorem d8_1 : decode prog_49_method_1_code 1 = .ok (.invokespecial 1, 3) := by decide +kernel
theorem d8_4 : decode prog_49_method_1_code 4 = .ok (.aload_n 3, 1) := by decide +kernel
theorem d8_5 : decode prog_49_method_1_code 5 = .ok (.invokestatic 7, 3) := by decide +kernel
theorem d8_8 : decode prog_49_method_1_code 8 = .ok (.pop, 1) := by decide +kernel
theorem d8_9 : decode prog_49_method_1_code 9 = .ok (.aload 4, 2) := by decide +kernel
theorem d8_11 : decode prog_49_method_1_code 11 = .ok (.invokestatic 13, 3) := by decide +kernel
theorem d8_14 : decode prog_49_method_1_code 14 = .ok (.astore 4, 2) := by decide +kernel
theorem d8_16 : decode prog_49_method_1_code 16 = .ok (.aload_n 0, 1) := by decide +kernel
theorem d8_17 : decode prog_49_method_1_code 17 = .ok (.lload_n 1, 1) := by decide +kernel
theorem d8_18 : decode prog_49_method_1_code 18 = .ok (.putfield 19, 3) := by decide +kernel
theorem d8_21 : decode prog_49_method_1_code 21 = .ok (.aload_n 0, 1) := by decide +kernel
theorem d8_22 : decode prog_49_method_1_code 22 = .ok (.aload_n 3, 1) := by decide +kernel
theorem d8_23 : decode prog_49_method_1_code 23 = .ok (.putfield 25, 3) := by decide +kernel
theorem d8_26 : decode prog_49_method_1_code 26 = .ok (.aload_n 0, 1) := by decide +kernel
theorem d8_27 : decode prog_49_method_1_code 27 = .ok (.aload 4, 2) := by decide +kernel
theorem d8_29 : decode prog_49_method_1_code 29 = .ok (.putfield 29, 3) := by decide +kernel
theorem d8_32 : decode prog_49_method_1_code 32 = .ok (.aload_n 0, 1) := by decide +kernel
theorem d8_33 : decode prog_49_method_1_code 33 = .ok (.lload 5, 2) := by decide +kernel
theorem d8_35 : decode prog_49_method_1_code 35 = .ok (.putfield 33, 3) := by decide +kernel
theorem d8_38 : decode prog_49_method_1_code 38 = .ok (.aload_n 0, 1) := by decide +kernel
theorem d8_39 : decode prog_49_method_1_code 39 = .ok (.lload 7, 2) := by decide +kernel
theorem d8_41 : decode prog_49_method_1_code 41 = .ok (.putfield 36, 3) := by decide +kernel
theorem d8_44 : decode prog_49_method_1_code 44 = .ok (.return_, 1) := by decide +kernel
theorem ef_8_RJRRJJ (m : MethodId) (x0 : Addr) (x1 : Int64) (x2 : Addr) (x3 : Addr) (x4 : Int64) (x5 : Int64) : entryFrame m #[(.ref x0), (.long x1), (.ref x2), (.ref x3), (.long x4), (.long x5)] 9 = mkF m 0 #[.val (.ref x0), .val (.long x1), .second, .val (.ref x2), .val (.ref x3), .val (.long x4), .second, .val (.long x5), .second] [] := by first | (simp [entryFrame, mkF, argsToLocals, Value.category]; done) | (simp [entryFrame, mkF, argsToLocals, own_cr, own_ci, own_cj]; done) | rfl
theorem pn_com_example_refleash_refleash_heap_Trace : plainName "com/example/refleash/refleash/heap/Trace" = true := by first | (simp [plainName, overriddenIn]; done) | decide +kernel
set_option maxRecDepth 65536 in
set_option maxHeartbeats 40000000 in
theorem trace_init (l : Launch) (Z : State) (a0 : Array Value) (hw : ∀ d ∈ tables_1, d.before a0 Z = true) (ws : List Jvm.Cond) (a1 : Addr) (u1 : Int64) (x2 x3 : Addr) (u4 u5 : Int64) (w_el : Addr) (h0 : Heap) (n0 : Nat) (Z0 : n0 ≤ h0.size) (F_objectId : Fld Z h0 a1 "com/example/refleash/refleash/heap/Trace" "objectId" "J" (.long (0 : Int64))) (F_root : Fld Z h0 a1 "com/example/refleash/refleash/heap/Trace" "root" "Lcom/example/refleash/refleash/heap/Trace$Root;" .null) (F_hops : Fld Z h0 a1 "com/example/refleash/refleash/heap/Trace" "hops" "Ljava/util/List;" .null) (F_retainedBytes : Fld Z h0 a1 "com/example/refleash/refleash/heap/Trace" "retainedBytes" "J" (.long (0 : Int64))) (F_retainedObjects : Fld Z h0 a1 "com/example/refleash/refleash/heap/Trace" "retainedObjects" "J" (.long (0 : Int64))) (E_a1 : Exa Z h0 a1 "com/example/refleash/refleash/heap/Trace") (g_a1 : n0 ≤ a1) (E_x3 : Exa Z h0 x3 "java/util/ArrayList") (F_x3 : Fld Z h0 x3 "java/util/ArrayList" "size" "I" (.int (0 : Int32))) (S_el : Sta Z h0 "java/util/ImmutableCollections" "EMPTY_LIST" "Ljava/util/ImmutableCollections$ListN;" (.ref w_el)) :
    MetFree l (⟨"com/example/refleash/refleash/heap/Trace", "<init>", "(JLcom/example/refleash/refleash/heap/Trace$Root;Ljava/util/List;JJ)V"⟩ : MethodName) (head1 (Jvm.Cond.code (⟨"com/example/refleash/refleash/heap/Trace", "<init>", "(JLcom/example/refleash/refleash/heap/Trace$Root;Ljava/util/List;JJ)V"⟩ : MethodName) prog_49_method_1_code 9 none :: ws) ({ frames := 3, cells := 0, slots := 0, locals := 37 } : Room)) (fun a U => a = #[(.ref a1), (.long u1), (.ref x2), (.ref x3), (.long u4), (.long u5)] ∧ Z.Warmed39 U.vm ∧ U.heap = h0) (fun _ _ _ _ _ => True) (fun _ U o U' => ∃ v L, o = .returned v ∧ QTr Z a1 w_el h0 n0 v U'.heap L ∧ FrameEnd U o U' L ({ frames := 3, cells := 0, slots := 0, locals := 37 } : Room).cells ({ frames := 3, cells := 0, slots := 0, locals := 37 } : Room).slots) := by
  refine MetFree.of_bodySF (plainFor_of_name pn_com_example_refleash_refleash_heap_Trace) hisR ?_
  intro p e s m args below meth c s₁ Bd hml0 hP hK
  obtain ⟨rfl, hZ, hh⟩ := hP
  have hx := Bd.exec
  have hby := Bd.bytes
  have hml : c.maxLocals = 9 := hml0
  have hown : s.vm.findClass "com/example/refleash/refleash/heap/Trace" = some m.cls := findClass_of_methodNamed Bd.named
  have hnm := (name_of_methodNamed Bd.named Bd.method).1
  have X0 : Stand p l e ({ frames := 3, cells := 0, slots := 0, locals := 37 } : Room) s m #[(.ref a1), (.long u1), (.ref x2), (.ref x3), (.long u4), (.long u5)] below meth c s₁ [] 0 0 := Stand.of_body Bd
  have e0 : s₁.heap = h0 := by rw [← hh, Bd.state]; rfl
  have N0 := Fr.nil n0
  have pre0 : ∀ t, Steps p.tables e below (s₁.setTop (mkF m 0 #[.val (.ref a1), .val (.long u1), .second, .val (.ref x2), .val (.ref x3), .val (.long u4), .second, .val (.long u5), .second] [])) t → Steps p.tables e below (s₁.setTop (entryFrame m #[(.ref a1), (.long u1), (.ref x2), (.ref x3), (.long u4), (.long u5)] 9)) t := fun t k => castTop (ef_8_RJRRJJ m a1 u1 x2 x3 u4 u5) k
  obtain ⟨_, _, ⟨T1, L1, k1, n1⟩, -, X1, ⟨Lc1, hQ1, l1, y1, z1⟩, st1⟩ := X0.specialBack hx (y := (⟨"java/lang/Record", "<init>", "()V"⟩ : MethodName)) rfl hown (mvT hZ (hw _ (List.mem_of_getElem? (i := 67) rfl))) (mvT hZ (hw _ (List.mem_of_getElem? (i := 21) rfl))) (mvT hZ (hw _ (List.mem_of_getElem? (i := 24) rfl))) (by decide) (backOf (W := 0) (sup_2 l Z a0 hw [] a1 h0 n0 Z0 ) hZ (hw _ (List.mem_of_getElem? (i := 24) rfl)) (hw _ (List.mem_of_getElem? (i := 23) rfl)) (by decide) (by decide)) (g := (mkF m 1 #[.val (.ref a1), .val (.long u1), .second, .val (.ref x2), .val (.ref x3), .val (.long u4), .second, .val (.long u5), .second] [(.ref a1)])) rfl (by rw [hml]; rfl) (Steps.refl _) (a := a1) (argsL := []) (rest := []) (lenOf pd___V rfl) rfl (by show 2 * 0 + _ ≤ _; exact Nat.le_of_eq rfl) (hb hby d8_1) (fun _ _ => ⟨rfl, e0, (by decide : 0 + 0 ≤ _), (by decide : 0 + 0 ≤ _)⟩)
  dsimp only [Pt.U, Pt.locs, Pt.cells, Pt.slots] at X1 l1 y1 z1 st1 hQ1
  subst l1 y1 z1
  obtain ⟨rfl, N1q, e1⟩ := hQ1
  have N1 := Fr.app N0 N1q
  obtain ⟨_, _, ⟨T2, L2, k2, n2⟩, -, X2, ⟨Lc2, hQ2, l2, y2, z2⟩, st2⟩ := Jvm.LawKit.callS X1 hx (y := (⟨"java/util/Objects", "requireNonNull", "(Ljava/lang/Object;)Ljava/lang/Object;"⟩ : MethodName)) hown (mvT hZ (hw _ (List.mem_of_getElem? (i := 68) rfl))) (mvT hZ (hw _ (List.mem_of_getElem? (i := 29) rfl))) (mvT hZ (hw _ (List.mem_of_getElem? (i := 30) rfl))) (mvT hZ (hw _ (List.mem_of_getElem? (i := 31) rfl))) (by decide) (backOf (W := 0) (rnn l Z a0 hw [] x2 h0 n0 Z0 ) hZ (hw _ (List.mem_of_getElem? (i := 31) rfl)) (hw _ (List.mem_of_getElem? (i := 30) rfl)) (by decide) (by decide)) (g := (mkF m 5 #[.val (.ref a1), .val (.long u1), .second, .val (.ref x2), .val (.ref x3), .val (.long u4), .second, .val (.long u5), .second] [(.ref x2)])) rfl (by rw [hml]; rfl) (argsL := [(.ref x2)]) (rest := []) (lenOf pd__Ljava_lang_Object__Ljava_lang_Object_ rfl) rfl (by show 2 * 0 + _ ≤ _; exact Nat.le_of_eq rfl) (hb hby d8_5) (fun _ _ => ⟨rfl, e1, (by decide : 0 + 0 ≤ _), (by decide : 0 + 0 ≤ _)⟩)
  dsimp only [Pt.U, Pt.locs, Pt.cells, Pt.slots] at X2 l2 y2 z2 st2 hQ2
  subst l2 y2 z2
  obtain ⟨rfl, N2q, e2⟩ := hQ2
  have N2 := Fr.app N1 N2q
  obtain ⟨_, _, ⟨T3, L3, k3, n3⟩, -, X3, ⟨Lc3, hQ3, l3, y3, z3⟩, st3⟩ := Jvm.LawKit.callS X2 hx (y := (⟨"java/util/List", "copyOf", "(Ljava/util/Collection;)Ljava/util/List;"⟩ : MethodName)) hown (mvT hZ (hw _ (List.mem_of_getElem? (i := 69) rfl))) (mvT hZ (hw _ (List.mem_of_getElem? (i := 70) rfl))) (mvT hZ (hw _ (List.mem_of_getElem? (i := 71) rfl))) (mvT hZ (hw _ (List.mem_of_getElem? (i := 72) rfl))) (by decide) (backOf (W := 0) (copy_of0 l Z a0 hw [] x3 w_el h0 n0 Z0 E_x3 F_x3 S_el) hZ (hw _ (List.mem_of_getElem? (i := 72) rfl)) (hw _ (List.mem_of_getElem? (i := 71) rfl)) (by decide) (by decide)) (g := (mkF m 11 #[.val (.ref a1), .val (.long u1), .second, .val (.ref x2), .val (.ref x3), .val (.long u4), .second, .val (.long u5), .second] [(.ref x3)])) rfl (by rw [hml]; rfl) (argsL := [(.ref x3)]) (rest := []) (lenOf pd__Ljava_util_Collection__Ljava_util_List_ rfl) rfl (by show 2 * 0 + _ ≤ _; exact Nat.le_of_eq rfl) (hb hby d8_11) (fun _ _ => ⟨rfl, e2, (by decide : 0 + 0 ≤ _), (by decide : 0 + 0 ≤ _)⟩)
  dsimp only [Pt.U, Pt.locs, Pt.cells, Pt.slots] at X3 l3 y3 z3 st3 hQ3
  subst l3 y3 z3
  obtain ⟨rfl, N3q, e3⟩ := hQ3
  have N3 := Fr.app N2 N3q
  obtain ⟨T4, h4, X4, e4, W4, st4⟩ := putF X3 hx hZ hown (host := "") (Or.inl (hw _ (List.mem_of_getElem? (i := 98) rfl))) Via.refl e3 F_objectId E_a1 (Or.inr ⟨(hw _ (List.mem_of_getElem? (i := 99) rfl)), rfl, hnm⟩) (hw _ (List.mem_of_getElem? (i := 1) rfl)) (ty := .long) (by decide) rfl rfl (g := (mkF m 18 #[.val (.ref a1), .val (.long u1), .second, .val (.ref x2), .val (.ref w_el), .val (.long u4), .second, .val (.long u5), .second] [(.long u1), (.ref a1)])) rfl rfl (hb hby d8_18)
  have F4_objectId := F_objectId.same W4
  have F4_root := F_root.other W4 (Or.inr (slot_ne (Or.inr (hw _ (List.mem_of_getElem? (i := 101) rfl))) (Or.inr (hw _ (List.mem_of_getElem? (i := 99) rfl))) (by decide) (t := (.object "com/example/refleash/refleash/heap/Trace$Root")) (t' := .long) (by decide) (by decide)))
  have F4_hops := F_hops.other W4 (Or.inr (slot_ne (Or.inr (hw _ (List.mem_of_getElem? (i := 103) rfl))) (Or.inr (hw _ (List.mem_of_getElem? (i := 99) rfl))) (by decide) (t := (.object "java/util/List")) (t' := .long) (by decide) (by decide)))
  have F4_retainedBytes := F_retainedBytes.other W4 (Or.inr (slot_ne (Or.inr (hw _ (List.mem_of_getElem? (i := 105) rfl))) (Or.inr (hw _ (List.mem_of_getElem? (i := 99) rfl))) (by decide) (t := .long) (t' := .long) (by decide) (by decide)))
  have F4_retainedObjects := F_retainedObjects.other W4 (Or.inr (slot_ne (Or.inr (hw _ (List.mem_of_getElem? (i := 107) rfl))) (Or.inr (hw _ (List.mem_of_getElem? (i := 99) rfl))) (by decide) (t := .long) (t' := .long) (by decide) (by decide)))
  have E4_a1 := E_a1.wr W4
  have K4 : Keep h0 h4 [a1] := (Keep.refl h0 [a1]).wr W4 (Or.inl (List.mem_of_getElem? (i := 0) rfl))
  have N4 := Fr.snoc X4 N3 g_a1
  obtain ⟨T5, h5, X5, e5, W5, st5⟩ := putF X4 hx hZ hown (host := "") (Or.inl (hw _ (List.mem_of_getElem? (i := 100) rfl))) Via.refl e4 F4_root E4_a1 (Or.inr ⟨(hw _ (List.mem_of_getElem? (i := 101) rfl)), rfl, hnm⟩) (hw _ (List.mem_of_getElem? (i := 1) rfl)) (ty := (.object "com/example/refleash/refleash/heap/Trace$Root")) (by decide) rfl rfl (g := (mkF m 23 #[.val (.ref a1), .val (.long u1), .second, .val (.ref x2), .val (.ref w_el), .val (.long u4), .second, .val (.long u5), .second] [(.ref x2), (.ref a1)])) rfl rfl (hb hby d8_23)
  have F5_objectId := F4_objectId.other W5 (Or.inr (slot_ne (Or.inr (hw _ (List.mem_of_getElem? (i := 99) rfl))) (Or.inr (hw _ (List.mem_of_getElem? (i := 101) rfl))) (by decide) (t := .long) (t' := (.object "com/example/refleash/refleash/heap/Trace$Root")) (by decide) (by decide)))
  have F5_root := F4_root.same W5
  have F5_hops := F4_hops.other W5 (Or.inr (slot_ne (Or.inr (hw _ (List.mem_of_getElem? (i := 103) rfl))) (Or.inr (hw _ (List.mem_of_getElem? (i := 101) rfl))) (by decide) (t := (.object "java/util/List")) (t' := (.object "com/example/refleash/refleash/heap/Trace$Root")) (by decide) (by decide)))
  have F5_retainedBytes := F4_retainedBytes.other W5 (Or.inr (slot_ne (Or.inr (hw _ (List.mem_of_getElem? (i := 105) rfl))) (Or.inr (hw _ (List.mem_of_getElem? (i := 101) rfl))) (by decide) (t := .long) (t' := (.object "com/example/refleash/refleash/heap/Trace$Root")) (by decide) (by decide)))
  have F5_retainedObjects := F4_retainedObjects.other W5 (Or.inr (slot_ne (Or.inr (hw _ (List.mem_of_getElem? (i := 107) rfl))) (Or.inr (hw _ (List.mem_of_getElem? (i := 101) rfl))) (by decide) (t := .long) (t' := (.object "com/example/refleash/refleash/heap/Trace$Root")) (by decide) (by decide)))
  have E5_a1 := E4_a1.wr W5
  have K5 : Keep h0 h5 [a1] := K4.wr W5 (Or.inl (List.mem_of_getElem? (i := 0) rfl))
  have N5 := Fr.snoc X5 N4 g_a1
  obtain ⟨T6, h6, X6, e6, W6, st6⟩ := putF X5 hx hZ hown (host := "") (Or.inl (hw _ (List.mem_of_getElem? (i := 102) rfl))) Via.refl e5 F5_hops E5_a1 (Or.inr ⟨(hw _ (List.mem_of_getElem? (i := 103) rfl)), rfl, hnm⟩) (hw _ (List.mem_of_getElem? (i := 1) rfl)) (ty := (.object "java/util/List")) (by decide) rfl rfl (g := (mkF m 29 #[.val (.ref a1), .val (.long u1), .second, .val (.ref x2), .val (.ref w_el), .val (.long u4), .second, .val (.long u5), .second] [(.ref w_el), (.ref a1)])) rfl rfl (hb hby d8_29)
  have F6_objectId := F5_objectId.other W6 (Or.inr (slot_ne (Or.inr (hw _ (List.mem_of_getElem? (i := 99) rfl))) (Or.inr (hw _ (List.mem_of_getElem? (i := 103) rfl))) (by decide) (t := .long) (t' := (.object "java/util/List")) (by decide) (by decide)))
  have F6_root := F5_root.other W6 (Or.inr (slot_ne (Or.inr (hw _ (List.mem_of_getElem? (i := 101) rfl))) (Or.inr (hw _ (List.mem_of_getElem? (i := 103) rfl))) (by decide) (t := (.object "com/example/refleash/refleash/heap/Trace$Root")) (t' := (.object "java/util/List")) (by decide) (by decide)))
  have F6_hops := F5_hops.same W6
  have F6_retainedBytes := F5_retainedBytes.other W6 (Or.inr (slot_ne (Or.inr (hw _ (List.mem_of_getElem? (i := 105) rfl))) (Or.inr (hw _ (List.mem_of_getElem? (i := 103) rfl))) (by decide) (t := .long) (t' := (.object "java/util/List")) (by decide) (by decide)))
  have F6_retainedObjects := F5_retainedObjects.other W6 (Or.inr (slot_ne (Or.inr (hw _ (List.mem_of_getElem? (i := 107) rfl))) (Or.inr (hw _ (List.mem_of_getElem? (i := 103) rfl))) (by decide) (t := .long) (t' := (.object "java/util/List")) (by decide) (by decide)))
  have E6_a1 := E5_a1.wr W6
  have K6 : Keep h0 h6 [a1] := K5.wr W6 (Or.inl (List.mem_of_getElem? (i := 0) rfl))
  have N6 := Fr.snoc X6 N5 g_a1
  obtain ⟨T7, h7, X7, e7, W7, st7⟩ := putF X6 hx hZ hown (host := "") (Or.inl (hw _ (List.mem_of_getElem? (i := 104) rfl))) Via.refl e6 F6_retainedBytes E6_a1 (Or.inr ⟨(hw _ (List.mem_of_getElem? (i := 105) rfl)), rfl, hnm⟩) (hw _ (List.mem_of_getElem? (i := 1) rfl)) (ty := .long) (by decide) rfl rfl (g := (mkF m 35 #[.val (.ref a1), .val (.long u1), .second, .val (.ref x2), .val (.ref w_el), .val (.long u4), .second, .val (.long u5), .second] [(.long u4), (.ref a1)])) rfl rfl (hb hby d8_35)
  have F7_objectId := F6_objectId.other W7 (Or.inr (slot_ne (Or.inr (hw _ (List.mem_of_getElem? (i := 99) rfl))) (Or.inr (hw _ (List.mem_of_getElem? (i := 105) rfl))) (by decide) (t := .long) (t' := .long) (by decide) (by decide)))
  have F7_root := F6_root.other W7 (Or.inr (slot_ne (Or.inr (hw _ (List.mem_of_getElem? (i := 101) rfl))) (Or.inr (hw _ (List.mem_of_getElem? (i := 105) rfl))) (by decide) (t := (.object "com/example/refleash/refleash/heap/Trace$Root")) (t' := .long) (by decide) (by decide)))
  have F7_hops := F6_hops.other W7 (Or.inr (slot_ne (Or.inr (hw _ (List.mem_of_getElem? (i := 103) rfl))) (Or.inr (hw _ (List.mem_of_getElem? (i := 105) rfl))) (by decide) (t := (.object "java/util/List")) (t' := .long) (by decide) (by decide)))
  have F7_retainedBytes := F6_retainedBytes.same W7
  have F7_retainedObjects := F6_retainedObjects.other W7 (Or.inr (slot_ne (Or.inr (hw _ (List.mem_of_getElem? (i := 107) rfl))) (Or.inr (hw _ (List.mem_of_getElem? (i := 105) rfl))) (by decide) (t := .long) (t' := .long) (by decide) (by decide)))
  have E7_a1 := E6_a1.wr W7
  have K7 : Keep h0 h7 [a1] := K6.wr W7 (Or.inl (List.mem_of_getElem? (i := 0) rfl))
  have N7 := Fr.snoc X7 N6 g_a1
  obtain ⟨T8, h8, X8, e8, W8, st8⟩ := putF X7 hx hZ hown (host := "") (Or.inl (hw _ (List.mem_of_getElem? (i := 106) rfl))) Via.refl e7 F7_retainedObjects E7_a1 (Or.inr ⟨(hw _ (List.mem_of_getElem? (i := 107) rfl)), rfl, hnm⟩) (hw _ (List.mem_of_getElem? (i := 1) rfl)) (ty := .long) (by decide) rfl rfl (g := (mkF m 41 #[.val (.ref a1), .val (.long u1), .second, .val (.ref x2), .val (.ref w_el), .val (.long u4), .second, .val (.long u5), .second] [(.long u5), (.ref a1)])) rfl rfl (hb hby d8_41)
  have F8_objectId := F7_objectId.other W8 (Or.inr (slot_ne (Or.inr (hw _ (List.mem_of_getElem? (i := 99) rfl))) (Or.inr (hw _ (List.mem_of_getElem? (i := 107) rfl))) (by decide) (t := .long) (t' := .long) (by decide) (by decide)))
  have F8_root := F7_root.other W8 (Or.inr (slot_ne (Or.inr (hw _ (List.mem_of_getElem? (i := 101) rfl))) (Or.inr (hw _ (List.mem_of_getElem? (i := 107) rfl))) (by decide) (t := (.object "com/example/refleash/refleash/heap/Trace$Root")) (t' := .long) (by decide) (by decide)))
  have F8_hops := F7_hops.other W8 (Or.inr (slot_ne (Or.inr (hw _ (List.mem_of_getElem? (i := 103) rfl))) (Or.inr (hw _ (List.mem_of_getElem? (i := 107) rfl))) (by decide) (t := (.object "java/util/List")) (t' := .long) (by decide) (by decide)))
  have F8_retainedBytes := F7_retainedBytes.other W8 (Or.inr (slot_ne (Or.inr (hw _ (List.mem_of_getElem? (i := 105) rfl))) (Or.inr (hw _ (List.mem_of_getElem? (i := 107) rfl))) (by decide) (t := .long) (t' := .long) (by decide) (by decide)))
  have F8_retainedObjects := F7_retainedObjects.same W8
  have E8_a1 := E7_a1.wr W8
  have K8 : Keep h0 h8 [a1] := K7.wr W8 (Or.inl (List.mem_of_getElem? (i := 0) rfl))
  have N8 := Fr.snoc X8 N7 g_a1
  obtain ⟨fs, hr, hrun, hended, hW, hsame⟩ := X8.leave (v := none) (fun _ => rfl)
  refine ⟨_, _, pre0 _ ?_, hrun, hended, _, _, rfl, ?_, ⟨_, rfl⟩, hW, hsame.mono (by decide) (by decide)⟩
  · show Steps p.tables e below (s₁.setTop (mkF m 0 #[.val (.ref a1), .val (.long u1), .second, .val (.ref x2), .val (.ref x3), .val (.long u4), .second, .val (.long u5), .second] [])) _
    refine XS.aloadN X0.here hx rfl (hb hby d8_0) rfl rfl ?_
    show Steps p.tables e below (s₁.setTop (mkF m 1 #[.val (.ref a1), .val (.long u1), .second, .val (.ref x2), .val (.ref x3), .val (.long u4), .second, .val (.long u5), .second] [(.ref a1)])) _
    refine st1.trans ?_
    show Steps p.tables e below (T1.setTop (mkF m 4 #[.val (.ref a1), .val (.long u1), .second, .val (.ref x2), .val (.ref x3), .val (.long u4), .second, .val (.long u5), .second] [])) _
    refine XS.aloadN X1.here hx rfl (hb hby d8_4) rfl rfl ?_
    show Steps p.tables e below (T1.setTop (mkF m 5 #[.val (.ref a1), .val (.long u1), .second, .val (.ref x2), .val (.ref x3), .val (.long u4), .second, .val (.long u5), .second] [(.ref x2)])) _
    refine st2 _ ?_
    show Steps p.tables e below (T2.setTop (mkF m 8 #[.val (.ref a1), .val (.long u1), .second, .val (.ref x2), .val (.ref x3), .val (.long u4), .second, .val (.long u5), .second] [(.ref x2)])) _
    refine XS.pop X2.here hx rfl (hb hby d8_8) rfl rfl ?_
    show Steps p.tables e below (T2.setTop (mkF m 9 #[.val (.ref a1), .val (.long u1), .second, .val (.ref x2), .val (.ref x3), .val (.long u4), .second, .val (.long u5), .second] [])) _
    refine XS.aload X2.here hx rfl (hb hby d8_9) rfl rfl ?_
    show Steps p.tables e below (T2.setTop (mkF m 11 #[.val (.ref a1), .val (.long u1), .second, .val (.ref x2), .val (.ref x3), .val (.long u4), .second, .val (.long u5), .second] [(.ref x3)])) _
    refine st3 _ ?_
    show Steps p.tables e below (T3.setTop (mkF m 14 #[.val (.ref a1), .val (.long u1), .second, .val (.ref x2), .val (.ref x3), .val (.long u4), .second, .val (.long u5), .second] [(.ref w_el)])) _
    refine XS.astore X3.here hx rfl (hb hby d8_14) rfl rfl (l' := #[.val (.ref a1), .val (.long u1), .second, .val (.ref x2), .val (.ref w_el), .val (.long u4), .second, .val (.long u5), .second]) rfl ?_
    show Steps p.tables e below (T3.setTop (mkF m 16 #[.val (.ref a1), .val (.long u1), .second, .val (.ref x2), .val (.ref w_el), .val (.long u4), .second, .val (.long u5), .second] [])) _
    refine XS.aloadN X3.here hx rfl (hb hby d8_16) rfl rfl ?_
    show Steps p.tables e below (T3.setTop (mkF m 17 #[.val (.ref a1), .val (.long u1), .second, .val (.ref x2), .val (.ref w_el), .val (.long u4), .second, .val (.long u5), .second] [(.ref a1)])) _
    refine XS.lloadN X3.here hx rfl (hb hby d8_17) rfl ?_
    show Steps p.tables e below (T3.setTop (mkF m 18 #[.val (.ref a1), .val (.long u1), .second, .val (.ref x2), .val (.ref w_el), .val (.long u4), .second, .val (.long u5), .second] [(.long u1), (.ref a1)])) _
    refine st4 _ ?_
    show Steps p.tables e below (T4.setTop (mkF m 21 #[.val (.ref a1), .val (.long u1), .second, .val (.ref x2), .val (.ref w_el), .val (.long u4), .second, .val (.long u5), .second] [])) _
    refine XS.aloadN X4.here hx rfl (hb hby d8_21) rfl rfl ?_
    show Steps p.tables e below (T4.setTop (mkF m 22 #[.val (.ref a1), .val (.long u1), .second, .val (.ref x2), .val (.ref w_el), .val (.long u4), .second, .val (.long u5), .second] [(.ref a1)])) _
    refine XS.aloadN X4.here hx rfl (hb hby d8_22) rfl rfl ?_
    show Steps p.tables e below (T4.setTop (mkF m 23 #[.val (.ref a1), .val (.long u1), .second, .val (.ref x2), .val (.ref w_el), .val (.long u4), .second, .val (.long u5), .second] [(.ref x2), (.ref a1)])) _
    refine st5 _ ?_
    show Steps p.tables e below (T5.setTop (mkF m 26 #[.val (.ref a1), .val (.long u1), .second, .val (.ref x2), .val (.ref w_el), .val (.long u4), .second, .val (.long u5), .second] [])) _
    refine XS.aloadN X5.here hx rfl (hb hby d8_26) rfl rfl ?_
    show Steps p.tables e below (T5.setTop (mkF m 27 #[.val (.ref a1), .val (.long u1), .second, .val (.ref x2), .val (.ref w_el), .val (.long u4), .second, .val (.long u5), .second] [(.ref a1)])) _
    refine XS.aload X5.here hx rfl (hb hby d8_27) rfl rfl ?_
    show Steps p.tables e below (T5.setTop (mkF m 29 #[.val (.ref a1), .val (.long u1), .second, .val (.ref x2), .val (.ref w_el), .val (.long u4), .second, .val (.long u5), .second] [(.ref w_el), (.ref a1)])) _
    refine st6 _ ?_
    show Steps p.tables e below (T6.setTop (mkF m 32 #[.val (.ref a1), .val (.long u1), .second, .val (.ref x2), .val (.ref w_el), .val (.long u4), .second, .val (.long u5), .second] [])) _
    refine XS.aloadN X6.here hx rfl (hb hby d8_32) rfl rfl ?_
    show Steps p.tables e below (T6.setTop (mkF m 33 #[.val (.ref a1), .val (.long u1), .second, .val (.ref x2), .val (.ref w_el), .val (.long u4), .second, .val (.long u5), .second] [(.ref a1)])) _
    refine XS.lload X6.here hx rfl (hb hby d8_33) rfl ?_
    show Steps p.tables e below (T6.setTop (mkF m 35 #[.val (.ref a1), .val (.long u1), .second, .val (.ref x2), .val (.ref w_el), .val (.long u4), .second, .val (.long u5), .second] [(.long u4), (.ref a1)])) _
    refine st7 _ ?_
    show Steps p.tables e below (T7.setTop (mkF m 38 #[.val (.ref a1), .val (.long u1), .second, .val (.ref x2), .val (.ref w_el), .val (.long u4), .second, .val (.long u5), .second] [])) _
    refine XS.aloadN X7.here hx rfl (hb hby d8_38) rfl rfl ?_
    show Steps p.tables e below (T7.setTop (mkF m 39 #[.val (.ref a1), .val (.long u1), .second, .val (.ref x2), .val (.ref w_el), .val (.long u4), .second, .val (.long u5), .second] [(.ref a1)])) _
    refine XS.lload X7.here hx rfl (hb hby d8_39) rfl ?_
    show Steps p.tables e below (T7.setTop (mkF m 41 #[.val (.ref a1), .val (.long u1), .second, .val (.ref x2), .val (.ref w_el), .val (.long u4), .second, .val (.long u5), .second] [(.long u5), (.ref a1)])) _
    refine st8 _ ?_
    show Steps p.tables e below (T8.setTop (mkF m 44 #[.val (.ref a1), .val (.long u1), .second, .val (.ref x2), .val (.ref w_el), .val (.long u4), .second, .val (.long u5), .second] [])) _
    exact X8.returnOut hx Bd.returns (hb hby d8_44) hr
  · show QTr Z a1 w_el h0 n0 _ T8.heap _
    rw [e8]
    exact ⟨rfl, N8, K8, E8_a1, F8_hops⟩
theorem d18_0 : decode jdk_29_method_65_code 0 = .ok (.iload_n 0, 1) := by decide +kernel
theorem d18_1 : decode jdk_29_method_65_code 1 = .ok (.iload_n 1, 1) := by decide +kernel
theorem d18_2 : decode jdk_29_method_65_code 2 = .ok (.if_icmp .lt 7, 3) := by decide +kernel
theorem d18_5 : decode jdk_29_method_65_code 5 = .ok (.iload_n 0, 1) := by decide +kernel
theorem d18_6 : decode jdk_29_method_65_code 6 = .ok (.goto 4, 3) := by decide +kernel
theorem d18_10 : decode jdk_29_method_65_code 10 = .ok (.ireturn, 1) := by decide +kernel
theorem ef_18_II (m : MethodId) (x0 : Int32) (x1 : Int32) : entryFrame m #[(.int x0), (.int x1)] 2 = mkF m 0 #[.val (.int x0), .val (.int x1)] [] := by first | (simp [entryFrame, mkF, argsToLocals, Value.category]; done) | (simp [entryFrame, mkF, argsToLocals, own_cr, own_ci, own_cj]; done) | rfl
set_option maxRecDepth 65536 in
set_option maxHeartbeats 40000000 in
theorem max10 (l : Launch) (Z : State) (a0 : Array Value) (hw : ∀ d ∈ tables_1, d.before a0 Z = true) (ws : List Jvm.Cond)  (h0 : Heap) (n0 : Nat) (Z0 : n0 ≤ h0.size) :
    MetFree l (⟨"java/lang/Math", "max", "(II)I"⟩ : MethodName) (head1 (Jvm.Cond.code (⟨"java/lang/Math", "max", "(II)I"⟩ : MethodName) jdk_29_method_65_code 2 (some .int) :: ws) ({ frames := 0, cells := 0, slots := 0, locals := 0 } : Room)) (fun a U => a = #[(.int (10 : Int32)), (.int (1 : Int32))] ∧ Z.Warmed39 U.vm ∧ U.heap = h0) (fun _ _ _ _ _ => True) (fun _ U o U' => ∃ v L, o = .returned v ∧ QG (.int (10 : Int32)) h0 n0 v U'.heap L ∧ FrameEnd U o U' L ({ frames := 0, cells := 0, slots := 0, locals := 0 } : Room).cells ({ frames := 0, cells := 0, slots := 0, locals := 0 } : Room).slots) := by
  refine MetFree.of_bodySF (Jvm.Free.JP.mathPlain rfl (by decide +kernel)) hisR ?_
  intro p e s m args below meth c s₁ Bd hml0 hP hK
  obtain ⟨rfl, hZ, hh⟩ := hP
  have hx := Bd.exec
  have hby := Bd.bytes
  have hml : c.maxLocals = 2 := hml0
  have hown : s.vm.findClass "java/lang/Math" = some m.cls := findClass_of_methodNamed Bd.named
  have hnm := (name_of_methodNamed Bd.named Bd.method).1
  have X0 : Stand p l e ({ frames := 0, cells := 0, slots := 0, locals := 0 } : Room) s m #[(.int (10 : Int32)), (.int (1 : Int32))] below meth c s₁ [] 0 0 := Stand.of_body Bd
  have e0 : s₁.heap = h0 := by rw [← hh, Bd.state]; rfl
  have N0 := Fr.nil n0
  have pre0 : ∀ t, Steps p.tables e below (s₁.setTop (mkF m 0 #[.val (.int (10 : Int32)), .val (.int (1 : Int32))] [])) t → Steps p.tables e below (s₁.setTop (entryFrame m #[(.int (10 : Int32)), (.int (1 : Int32))] 2)) t := fun t k => castTop (ef_18_II m (10 : Int32) (1 : Int32)) k
  obtain ⟨fs, hr, hrun, hended, hW, hsame⟩ := X0.leave (v := some (.int (10 : Int32))) (fun h => by rw [Bd.returns] at h; cases h)
  refine ⟨_, _, pre0 _ ?_, hrun, hended, _, _, rfl, ?_, ⟨_, rfl⟩, hW, hsame.mono (by decide) (by decide)⟩
  · show Steps p.tables e below (s₁.setTop (mkF m 0 #[.val (.int (10 : Int32)), .val (.int (1 : Int32))] [])) _
    refine XS.iloadN X0.here hx rfl (hb hby d18_0) rfl ?_
    show Steps p.tables e below (s₁.setTop (mkF m 1 #[.val (.int (10 : Int32)), .val (.int (1 : Int32))] [(.int (10 : Int32))])) _
    refine XS.iloadN X0.here hx rfl (hb hby d18_1) rfl ?_
    show Steps p.tables e below (s₁.setTop (mkF m 2 #[.val (.int (10 : Int32)), .val (.int (1 : Int32))] [(.int (1 : Int32)), (.int (10 : Int32))])) _
    refine XS.icmpNo X0.here hx rfl (hb hby d18_2) rfl (flt (by decide : ¬ ((10 : Int32) < (1 : Int32)))).1 ?_
    show Steps p.tables e below (s₁.setTop (mkF m 5 #[.val (.int (10 : Int32)), .val (.int (1 : Int32))] [])) _
    refine XS.iloadN X0.here hx rfl (hb hby d18_5) rfl ?_
    show Steps p.tables e below (s₁.setTop (mkF m 6 #[.val (.int (10 : Int32)), .val (.int (1 : Int32))] [(.int (10 : Int32))])) _
    refine XS.goto X0.here hx rfl (pc0 := 6) (pc' := 10) rfl (hb hby d18_6) (by decide) (by decide) ?_
    show Steps p.tables e below (s₁.setTop (mkF m 10 #[.val (.int (10 : Int32)), .val (.int (1 : Int32))] [(.int (10 : Int32))])) _
    exact retOut X0 hx Bd.returns rfl (Or.inl ⟨rfl, Or.inl rfl, _, rfl⟩) (hb hby d18_10) hr
  · show QG (.int (10 : Int32)) h0 n0 _ s₁.heap _
    rw [e0]
    exact ⟨rfl, N0, rfl⟩
theorem d23_0 : decode jdk_29_method_69_code 0 = .ok (.iload_n 0, 1) := by decide +kernel
theorem d23_1 : decode jdk_29_method_69_code 1 = .ok (.iload_n 1, 1) := by decide +kernel
theorem d23_2 : decode jdk_29_method_69_code 2 = .ok (.if_icmp .gt 7, 3) := by decide +kernel
theorem d23_9 : decode jdk_29_method_69_code 9 = .ok (.iload_n 1, 1) := by decide +kernel
theorem d23_10 : decode jdk_29_method_69_code 10 = .ok (.ireturn, 1) := by decide +kernel
theorem ef_23_II (m : MethodId) (x0 : Int32) (x1 : Int32) : entryFrame m #[(.int x0), (.int x1)] 2 = mkF m 0 #[.val (.int x0), .val (.int x1)] [] := by first | (simp [entryFrame, mkF, argsToLocals, Value.category]; done) | (simp [entryFrame, mkF, argsToLocals, own_cr, own_ci, own_cj]; done) | rfl
set_option maxRecDepth 65536 in
set_option maxHeartbeats 40000000 in
theorem min10 (l : Launch) (Z : State) (a0 : Array Value) (hw : ∀ d ∈ tables_1, d.before a0 Z = true) (ws : List Jvm.Cond)  (h0 : Heap) (n0 : Nat) (Z0 : n0 ≤ h0.size) :
    MetFree l (⟨"java/lang/Math", "min", "(II)I"⟩ : MethodName) (head1 (Jvm.Cond.code (⟨"java/lang/Math", "min", "(II)I"⟩ : MethodName) jdk_29_method_69_code 2 (some .int) :: ws) ({ frames := 0, cells := 0, slots := 0, locals := 0 } : Room)) (fun a U => a = #[(.int (10 : Int32)), (.int (1 : Int32))] ∧ Z.Warmed39 U.vm ∧ U.heap = h0) (fun _ _ _ _ _ => True) (fun _ U o U' => ∃ v L, o = .returned v ∧ QG (.int (1 : Int32)) h0 n0 v U'.heap L ∧ FrameEnd U o U' L ({ frames := 0, cells := 0, slots := 0, locals := 0 } : Room).cells ({ frames := 0, cells := 0, slots := 0, locals := 0 } : Room).slots) := by
  refine MetFree.of_bodySF (Jvm.Free.JP.mathPlain rfl (by decide +kernel)) hisR ?_
  intro p e s m args below meth c s₁ Bd hml0 hP hK
  obtain ⟨rfl, hZ, hh⟩ := hP
  have hx := Bd.exec
  have hby := Bd.bytes
  have hml : c.maxLocals = 2 := hml0
  have hown : s.vm.findClass "java/lang/Math" = some m.cls := findClass_of_methodNamed Bd.named
  have hnm := (name_of_methodNamed Bd.named Bd.method).1
  have X0 : Stand p l e ({ frames := 0, cells := 0, slots := 0, locals := 0 } : Room) s m #[(.int (10 : Int32)), (.int (1 : Int32))] below meth c s₁ [] 0 0 := Stand.of_body Bd
  have e0 : s₁.heap = h0 := by rw [← hh, Bd.state]; rfl
  have N0 := Fr.nil n0
  have pre0 : ∀ t, Steps p.tables e below (s₁.setTop (mkF m 0 #[.val (.int (10 : Int32)), .val (.int (1 : Int32))] [])) t → Steps p.tables e below (s₁.setTop (entryFrame m #[(.int (10 : Int32)), (.int (1 : Int32))] 2)) t := fun t k => castTop (ef_23_II m (10 : Int32) (1 : Int32)) k
  obtain ⟨fs, hr, hrun, hended, hW, hsame⟩ := X0.leave (v := some (.int (1 : Int32))) (fun h => by rw [Bd.returns] at h; cases h)
  refine ⟨_, _, pre0 _ ?_, hrun, hended, _, _, rfl, ?_, ⟨_, rfl⟩, hW, hsame.mono (by decide) (by decide)⟩
  · show Steps p.tables e below (s₁.setTop (mkF m 0 #[.val (.int (10 : Int32)), .val (.int (1 : Int32))] [])) _
    refine XS.iloadN X0.here hx rfl (hb hby d23_0) rfl ?_
    show Steps p.tables e below (s₁.setTop (mkF m 1 #[.val (.int (10 : Int32)), .val (.int (1 : Int32))] [(.int (10 : Int32))])) _
    refine XS.iloadN X0.here hx rfl (hb hby d23_1) rfl ?_
    show Steps p.tables e below (s₁.setTop (mkF m 2 #[.val (.int (10 : Int32)), .val (.int (1 : Int32))] [(.int (1 : Int32)), (.int (10 : Int32))])) _
    refine XS.icmpYes X0.here hx rfl (pc0 := 2) (pc' := 9) rfl (hb hby d23_2) rfl (tlt (by decide : (1 : Int32) < (10 : Int32))).2.2.1 (by decide) (by decide) ?_
    show Steps p.tables e below (s₁.setTop (mkF m 9 #[.val (.int (10 : Int32)), .val (.int (1 : Int32))] [])) _
    refine XS.iloadN X0.here hx rfl (hb hby d23_9) rfl ?_
    show Steps p.tables e below (s₁.setTop (mkF m 10 #[.val (.int (10 : Int32)), .val (.int (1 : Int32))] [(.int (1 : Int32))])) _
    exact retOut X0 hx Bd.returns rfl (Or.inl ⟨rfl, Or.inl rfl, _, rfl⟩) (hb hby d23_10) hr
  · show QG (.int (1 : Int32)) h0 n0 _ s₁.heap _
    rw [e0]
    exact ⟨rfl, N0, rfl⟩
theorem d17_0 : decode jdk_38_method_6_code 0 = .ok (.aload_n 0, 1) := by decide +kernel
theorem d17_1 : decode jdk_38_method_6_code 1 = .ok (.getfield 9, 3) := by decide +kernel
theorem d17_4 : decode jdk_38_method_6_code 4 = .ok (.arraylength, 1) := by decide +kernel
theorem d17_5 : decode jdk_38_method_6_code 5 = .ok (.istore_n 2, 1) := by decide +kernel
theorem d17_6 : decode jdk_38_method_6_code 6 = .ok (.iload_n 2, 1) := by decide +kernel
theorem d17_7 : decode jdk_38_method_6_code 7 = .ok (.ifCond .gt 13, 3) := by decide +kernel
theorem d17_10 : decode jdk_38_method_6_code 10 = .ok (.aload_n 0, 1) := by decide +kernel
theorem d17_11 : decode jdk_38_method_6_code 11 = .ok (.getfield 9, 3) := by decide +kernel
theorem d17_14 : decode jdk_38_method_6_code 14 = .ok (.getstatic 39, 3) := by decide +kernel
theorem d17_17 : decode jdk_38_method_6_code 17 = .ok (.if_acmp .eq 28, 3) := by decide +kernel
theorem d17_45 : decode jdk_38_method_6_code 45 = .ok (.aload_n 0, 1) := by decide +kernel
theorem d17_46 : decode jdk_38_method_6_code 46 = .ok (.bipush 10, 2) := by decide +kernel
theorem d17_48 : decode jdk_38_method_6_code 48 = .ok (.iload_n 1, 1) := by decide +kernel
theorem d17_49 : decode jdk_38_method_6_code 49 = .ok (.invokestatic 79, 3) := by decide +kernel
theorem pd__II_I : parseMethodDescriptor "(II)I" = some ⟨[.int, .int], some .int⟩ := by decide +kernel
theorem d17_52 : decode jdk_38_method_6_code 52 = .ok (.anewarray 7, 3) := by decide +kernel
theorem d17_55 : decode jdk_38_method_6_code 55 = .ok (.dup_x1, 1) := by decide +kernel
theorem d17_56 : decode jdk_38_method_6_code 56 = .ok (.putfield 9, 3) := by decide +kernel
theorem d17_59 : decode jdk_38_method_6_code 59 = .ok (.areturn, 1) := by decide +kernel
theorem ef_17_RI (m : MethodId) (x0 : Addr) (x1 : Int32) : entryFrame m #[(.ref x0), (.int x1)] 4 = mkF m 0 #[.val (.ref x0), .val (.int x1), .unset, .unset] [] := by first | (simp [entryFrame, mkF, argsToLocals, Value.category]; done) | (simp [entryFrame, mkF, argsToLocals, own_cr, own_ci, own_cj]; done) | rfl
set_option maxRecDepth 65536 in
set_option maxHeartbeats 40000000 in
theorem grow_i (l : Launch) (Z : State) (a0 : Array Value) (hw : ∀ d ∈ tables_1, d.before a0 Z = true) (ws : List Jvm.Cond) (a1 : Addr) (mc : Int32) (w_dc : Addr) (k_dc : ClassId) (h0 : Heap) (n0 : Nat) (Z0 : n0 ≤ h0.size) (F_modCount : Fld Z h0 a1 "java/util/AbstractList" "modCount" "I" (.int mc)) (F_elementData : Fld Z h0 a1 "java/util/ArrayList" "elementData" "[Ljava/lang/Object;" (.ref w_dc)) (F_size : Fld Z h0 a1 "java/util/ArrayList" "size" "I" (.int (0 : Int32))) (E_a1 : Exa Z h0 a1 "java/util/ArrayList") (g_a1 : n0 ≤ a1) (V_dc : Arv Z h0 w_dc k_dc (.object "java/lang/Object") (0 : Int32) [] .null) (S_dc : Sta Z h0 "java/util/ArrayList" "DEFAULTCAPACITY_EMPTY_ELEMENTDATA" "[Ljava/lang/Object;" (.ref w_dc)) :
    MetFree l (⟨"java/util/ArrayList", "grow", "(I)[Ljava/lang/Object;"⟩ : MethodName) (head1 (Jvm.Cond.code (⟨"java/util/ArrayList", "grow", "(I)[Ljava/lang/Object;"⟩ : MethodName) jdk_38_method_6_code 4 (some (.array (.object "java/lang/Object"))) :: ws) ({ frames := 1, cells := 1, slots := 10, locals := 14 } : Room)) (fun a U => a = #[(.ref a1), (.int (1 : Int32))] ∧ Z.Warmed39 U.vm ∧ U.heap = h0) (fun _ _ _ _ _ => True) (fun _ U o U' => ∃ v L, o = .returned v ∧ QGr Z a1 mc h0 n0 v U'.heap L ∧ FrameEnd U o U' L ({ frames := 1, cells := 1, slots := 10, locals := 14 } : Room).cells ({ frames := 1, cells := 1, slots := 10, locals := 14 } : Room).slots) := by
  refine MetFree.of_bodySF (plainFor_of_name pn_java_util_ArrayList) hisR ?_
  intro p e s m args below meth c s₁ Bd hml0 hP hK
  obtain ⟨rfl, hZ, hh⟩ := hP
  have hx := Bd.exec
  have hby := Bd.bytes
  have hml : c.maxLocals = 4 := hml0
  have hown : s.vm.findClass "java/util/ArrayList" = some m.cls := findClass_of_methodNamed Bd.named
  have hnm := (name_of_methodNamed Bd.named Bd.method).1
  have X0 : Stand p l e ({ frames := 1, cells := 1, slots := 10, locals := 14 } : Room) s m #[(.ref a1), (.int (1 : Int32))] below meth c s₁ [] 0 0 := Stand.of_body Bd
  have e0 : s₁.heap = h0 := by rw [← hh, Bd.state]; rfl
  have N0 := Fr.nil n0
  have pre0 : ∀ t, Steps p.tables e below (s₁.setTop (mkF m 0 #[.val (.ref a1), .val (.int (1 : Int32)), .unset, .unset] [])) t → Steps p.tables e below (s₁.setTop (entryFrame m #[(.ref a1), (.int (1 : Int32))] 4)) t := fun t k => castTop (ef_17_RI m a1 (1 : Int32)) k
  obtain ⟨T1, X1, e1, st1⟩ := getF X0 hx hZ hown (host := "") (Or.inl (hw _ (List.mem_of_getElem? (i := 62) rfl))) Via.refl e0 F_elementData (g := (mkF m 1 #[.val (.ref a1), .val (.int (1 : Int32)), .unset, .unset] [(.ref a1)])) rfl rfl (hb hby d17_1)
  obtain ⟨cl2, Ar2, q2, s2, m2, H2, F2⟩ := (id V_dc)
  obtain ⟨T3, X3, e3, st3⟩ := getF X1 hx hZ hown (host := "") (Or.inl (hw _ (List.mem_of_getElem? (i := 62) rfl))) Via.refl e1 F_elementData (g := (mkF m 11 #[.val (.ref a1), .val (.int (1 : Int32)), .val (.int (0 : Int32)), .unset] [(.ref a1)])) rfl rfl (hb hby d17_11)
  obtain ⟨T4, X4, e4, st4⟩ := getS2 X3 hx hZ hown (host := "") (Or.inl (hw _ (List.mem_of_getElem? (i := 61) rfl))) Via.refl e3 S_dc (g := (mkF m 14 #[.val (.ref a1), .val (.int (1 : Int32)), .val (.int (0 : Int32)), .unset] [(.ref w_dc)])) rfl (hb hby d17_14)
  obtain ⟨_, _, ⟨T5, L5, k5, n5⟩, -, X5, ⟨Lc5, hQ5, l5, y5, z5⟩, st5⟩ := Jvm.LawKit.callS X4 hx (y := (⟨"java/lang/Math", "max", "(II)I"⟩ : MethodName)) hown (mvT hZ (hw _ (List.mem_of_getElem? (i := 148) rfl))) (mvT hZ (hw _ (List.mem_of_getElem? (i := 149) rfl))) (mvT hZ (hw _ (List.mem_of_getElem? (i := 150) rfl))) (mvT hZ (hw _ (List.mem_of_getElem? (i := 151) rfl))) (by decide) (backOf (W := 1) (max10 l Z a0 hw []  h0 n0 Z0 ) hZ (hw _ (List.mem_of_getElem? (i := 151) rfl)) (hw _ (List.mem_of_getElem? (i := 150) rfl)) (by decide) (by decide)) (g := (mkF m 49 #[.val (.ref a1), .val (.int (1 : Int32)), .val (.int (0 : Int32)), .unset] [(.int (1 : Int32)), (.int (10 : Int32)), (.ref a1)])) rfl (by rw [hml]; rfl) (argsL := [(.int (10 : Int32)), (.int (1 : Int32))]) (rest := [(.ref a1)]) (lenOf pd__II_I rfl) rfl (by show 2 * 0 + _ ≤ _; exact Nat.le_of_eq rfl) (hb hby d17_49) (fun _ _ => ⟨rfl, e4, (by decide : 0 + 0 ≤ _), (by decide : 0 + 0 ≤ _)⟩)
  dsimp only [Pt.U, Pt.locs, Pt.cells, Pt.slots] at X5 l5 y5 z5 st5 hQ5
  subst l5 y5 z5
  obtain ⟨rfl, N5q, e5⟩ := hQ5
  have N5 := Fr.app N0 N5q
  obtain ⟨T6, h6, k6, X6, e6, E6, A6, B6, O6, st6⟩ := newRE X5 hx hZ hown (hw _ (List.mem_of_getElem? (i := 152) rfl)) (hw _ (List.mem_of_getElem? (i := 153) rfl)) e5 (g := (mkF m 52 #[.val (.ref a1), .val (.int (1 : Int32)), .val (.int (0 : Int32)), .unset] [(.int (10 : Int32)), (.ref a1)])) rfl (hb hby d17_52) rfl (by decide) (cap := 10) (by decide) (by decide) (by decide) (by decide) (ad := "[Ljava/lang/Object;") rfl
  obtain ⟨b6, gg6⟩ : ∃ z, z = h0.size := ⟨_, rfl⟩
  rw [← gg6] at A6 B6 st6
  have sz_b6 : h0.size ≤ b6 := Nat.le_of_eq gg6.symm
  have sz0_b6 : h0.size ≤ b6 := Nat.le_trans (Keep.refl h0 [a1]).1 sz_b6
  have g_b6 : n0 ≤ b6 := Nat.le_trans Z0 sz0_b6
  have K6q : Keep h0 h6 [] := (Keep.refl _ []).ext E6
  have K6 : Keep h0 h6 [a1] := (Keep.refl h0 [a1]).ext E6
  have V6 : Arv Z h6 b6 k6 (.object "java/lang/Object") (10 : Int32) [.null, .null, .null, .null, .null, .null, .null, .null, .null, .null] .null := (Arv.new A6 (by decide)).pad (pad_rep [] .null 10)
  obtain ⟨T7, h7, X7, e7, W7, st7⟩ := putF X6 hx hZ hown (host := "") (Or.inl (hw _ (List.mem_of_getElem? (i := 62) rfl))) Via.refl e6 (F_elementData.keep K6q nin0) (E_a1.keep K6q) (Or.inl (hw _ (List.mem_of_getElem? (i := 63) rfl))) (hw _ (List.mem_of_getElem? (i := 41) rfl)) (ty := (.array (.object "java/lang/Object"))) (by decide) rfl rfl (g := (mkF m 56 #[.val (.ref a1), .val (.int (1 : Int32)), .val (.int (0 : Int32)), .unset] [(.ref b6), (.ref a1), (.ref b6)])) rfl rfl (hb hby d17_56)
  have F7_modCount := (F_modCount.keep K6q nin0).other W7 (Or.inr (slot_ne (Or.inl (hw _ (List.mem_of_getElem? (i := 60) rfl))) (Or.inl (hw _ (List.mem_of_getElem? (i := 63) rfl))) (by decide) (t := .int) (t' := (.array (.object "java/lang/Object"))) (by decide) (by decide)))
  have F7_elementData := (F_elementData.keep K6q nin0).same W7
  have F7_size := (F_size.keep K6q nin0).other W7 (Or.inr (slot_ne (Or.inl (hw _ (List.mem_of_getElem? (i := 93) rfl))) (Or.inl (hw _ (List.mem_of_getElem? (i := 63) rfl))) (by decide) (t := .int) (t' := (.array (.object "java/lang/Object"))) (by decide) (by decide)))
  have E7_a1 := (E_a1.keep K6q).wr W7
  have K7 : Keep h0 h7 [a1] := K6.wr W7 (Or.inl (List.mem_of_getElem? (i := 0) rfl))
  have N7 := Fr.snoc X7 N5 g_a1
  obtain ⟨fs, hr, hrun, hended, hW, hsame⟩ := X7.leave (v := some (.ref b6)) (fun h => by rw [Bd.returns] at h; cases h)
  refine ⟨_, _, pre0 _ ?_, hrun, hended, _, _, rfl, ?_, ⟨_, rfl⟩, hW, hsame.mono (by decide) (by decide)⟩
  · show Steps p.tables e below (s₁.setTop (mkF m 0 #[.val (.ref a1), .val (.int (1 : Int32)), .unset, .unset] [])) _
    refine XS.aloadN X0.here hx rfl (hb hby d17_0) rfl rfl ?_
    show Steps p.tables e below (s₁.setTop (mkF m 1 #[.val (.ref a1), .val (.int (1 : Int32)), .unset, .unset] [(.ref a1)])) _
    refine st1 _ ?_
    show Steps p.tables e below (T1.setTop (mkF m 4 #[.val (.ref a1), .val (.int (1 : Int32)), .unset, .unset] [(.ref w_dc)])) _
    refine X1.arraylength hx (by rw [e1]; exact Ar2.1) (State.isArrayOf_alike hZ.alike Ar2.2.1) (g := (mkF m 4 #[.val (.ref a1), .val (.int (1 : Int32)), .unset, .unset] [(.ref w_dc)])) rfl rfl (hb hby d17_4) _ ?_
    rw [len_of s2 m2]
    show Steps p.tables e below (T1.setTop (mkF m 5 #[.val (.ref a1), .val (.int (1 : Int32)), .unset, .unset] [(.int (0 : Int32))])) _
    refine XS.istoreN X1.here hx rfl (hb hby d17_5) rfl (l' := #[.val (.ref a1), .val (.int (1 : Int32)), .val (.int (0 : Int32)), .unset]) rfl ?_
    show Steps p.tables e below (T1.setTop (mkF m 6 #[.val (.ref a1), .val (.int (1 : Int32)), .val (.int (0 : Int32)), .unset] [])) _
    refine XS.iloadN X1.here hx rfl (hb hby d17_6) rfl ?_
    show Steps p.tables e below (T1.setTop (mkF m 7 #[.val (.ref a1), .val (.int (1 : Int32)), .val (.int (0 : Int32)), .unset] [(.int (0 : Int32))])) _
    refine XS.ifNo X1.here hx rfl (hb hby d17_7) rfl ((if0 _ _).trans (flt (by decide : ¬ ((0 : Int32) < (0 : Int32)))).2.2.1) ?_
    show Steps p.tables e below (T1.setTop (mkF m 10 #[.val (.ref a1), .val (.int (1 : Int32)), .val (.int (0 : Int32)), .unset] [])) _
    refine XS.aloadN X1.here hx rfl (hb hby d17_10) rfl rfl ?_
    show Steps p.tables e below (T1.setTop (mkF m 11 #[.val (.ref a1), .val (.int (1 : Int32)), .val (.int (0 : Int32)), .unset] [(.ref a1)])) _
    refine st3 _ ?_
    show Steps p.tables e below (T3.setTop (mkF m 14 #[.val (.ref a1), .val (.int (1 : Int32)), .val (.int (0 : Int32)), .unset] [(.ref w_dc)])) _
    refine st4 _ ?_
    show Steps p.tables e below (T4.setTop (mkF m 17 #[.val (.ref a1), .val (.int (1 : Int32)), .val (.int (0 : Int32)), .unset] [(.ref w_dc), (.ref w_dc)])) _
    refine Jvm.RoadKit.acmp (g := (mkF m 17 #[.val (.ref a1), .val (.int (1 : Int32)), .val (.int (0 : Int32)), .unset] [(.ref w_dc), (.ref w_dc)])) X4 hx rfl rfl rfl (pc0 := 17) (pc' := 45) (same := true) rfl (hb hby d17_17) rfl (decide_eq_true rfl) (by decide) (by decide) ?_
    show Steps p.tables e below (T4.setTop (mkF m 45 #[.val (.ref a1), .val (.int (1 : Int32)), .val (.int (0 : Int32)), .unset] [])) _
    refine XS.aloadN X4.here hx rfl (hb hby d17_45) rfl rfl ?_
    show Steps p.tables e below (T4.setTop (mkF m 46 #[.val (.ref a1), .val (.int (1 : Int32)), .val (.int (0 : Int32)), .unset] [(.ref a1)])) _
    refine XS.bipush X4.here hx rfl (hb hby d17_46) ?_
    show Steps p.tables e below (T4.setTop (mkF m 48 #[.val (.ref a1), .val (.int (1 : Int32)), .val (.int (0 : Int32)), .unset] [(.int (10 : Int32)), (.ref a1)])) _
    refine XS.iloadN X4.here hx rfl (hb hby d17_48) rfl ?_
    show Steps p.tables e below (T4.setTop (mkF m 49 #[.val (.ref a1), .val (.int (1 : Int32)), .val (.int (0 : Int32)), .unset] [(.int (1 : Int32)), (.int (10 : Int32)), (.ref a1)])) _
    refine st5 _ ?_
    show Steps p.tables e below (T5.setTop (mkF m 52 #[.val (.ref a1), .val (.int (1 : Int32)), .val (.int (0 : Int32)), .unset] [(.int (10 : Int32)), (.ref a1)])) _
    refine st6 _ ?_
    show Steps p.tables e below (T6.setTop (mkF m 55 #[.val (.ref a1), .val (.int (1 : Int32)), .val (.int (0 : Int32)), .unset] [(.ref b6), (.ref a1)])) _
    refine XS.dupX1 X6.here hx rfl (hb hby d17_55) rfl rfl rfl ?_
    show Steps p.tables e below (T6.setTop (mkF m 56 #[.val (.ref a1), .val (.int (1 : Int32)), .val (.int (0 : Int32)), .unset] [(.ref b6), (.ref a1), (.ref b6)])) _
    refine st7 _ ?_
    show Steps p.tables e below (T7.setTop (mkF m 59 #[.val (.ref a1), .val (.int (1 : Int32)), .val (.int (0 : Int32)), .unset] [(.ref b6)])) _
    exact retOut X7 hx Bd.returns rfl (Or.inr (Or.inr (Or.inr (Or.inr ⟨rfl, rfl, rfl⟩)))) (hb hby d17_59) hr
  · show QGr Z a1 mc h0 n0 _ T7.heap _
    rw [e7]
    exact ⟨_, _, rfl, N7, K7, sz0_b6, O6, (B6.keep (Keep.of_wr W7)), (V6.keep (Keep.of_wr W7) (ninS (Ne.symm (Nat.ne_of_lt (Nat.lt_of_lt_of_le E_a1.lt sz_b6))) nin0)), ⟨E7_a1, F7_modCount, F7_elementData, F7_size⟩⟩
theorem d16_0 : decode jdk_38_method_7_code 0 = .ok (.aload_n 0, 1) := by decide +kernel
theorem d16_1 : decode jdk_38_method_7_code 1 = .ok (.aload_n 0, 1) := by decide +kernel
theorem d16_2 : decode jdk_38_method_7_code 2 = .ok (.getfield 48, 3) := by decide +kernel
theorem d16_5 : decode jdk_38_method_7_code 5 = .ok (.iconst 1, 1) := by decide +kernel
theorem d16_6 : decode jdk_38_method_7_code 6 = .ok (.iadd, 1) := by decide +kernel
theorem d16_7 : decode jdk_38_method_7_code 7 = .ok (.invokevirtual 69, 3) := by decide +kernel
theorem pd__I__Ljava_lang_Object_ : parseMethodDescriptor "(I)[Ljava/lang/Object;" = some ⟨[.int], some (.array (.object "java/lang/Object"))⟩ := by decide +kernel
theorem d16_10 : decode jdk_38_method_7_code 10 = .ok (.areturn, 1) := by decide +kernel
theorem ef_16_R (m : MethodId) (x0 : Addr) : entryFrame m #[(.ref x0)] 1 = mkF m 0 #[.val (.ref x0)] [] := by first | (simp [entryFrame, mkF, argsToLocals, Value.category]; done) | (simp [entryFrame, mkF, argsToLocals, own_cr, own_ci, own_cj]; done) | rfl
set_option maxRecDepth 65536 in
set_option maxHeartbeats 40000000 in
theorem grow_0 (l : Launch) (Z : State) (a0 : Array Value) (hw : ∀ d ∈ tables_1, d.before a0 Z = true) (ws : List Jvm.Cond) (a1 : Addr) (mc : Int32) (w_dc : Addr) (k_dc : ClassId) (h0 : Heap) (n0 : Nat) (Z0 : n0 ≤ h0.size) (F_modCount : Fld Z h0 a1 "java/util/AbstractList" "modCount" "I" (.int mc)) (F_elementData : Fld Z h0 a1 "java/util/ArrayList" "elementData" "[Ljava/lang/Object;" (.ref w_dc)) (F_size : Fld Z h0 a1 "java/util/ArrayList" "size" "I" (.int (0 : Int32))) (E_a1 : Exa Z h0 a1 "java/util/ArrayList") (g_a1 : n0 ≤ a1) (V_dc : Arv Z h0 w_dc k_dc (.object "java/lang/Object") (0 : Int32) [] .null) (S_dc : Sta Z h0 "java/util/ArrayList" "DEFAULTCAPACITY_EMPTY_ELEMENTDATA" "[Ljava/lang/Object;" (.ref w_dc)) :
    MetFree l (⟨"java/util/ArrayList", "grow", "()[Ljava/lang/Object;"⟩ : MethodName) (head1 (Jvm.Cond.code (⟨"java/util/ArrayList", "grow", "()[Ljava/lang/Object;"⟩ : MethodName) jdk_38_method_7_code 1 (some (.array (.object "java/lang/Object"))) :: ws) ({ frames := 2, cells := 1, slots := 10, locals := 29 } : Room)) (fun a U => a = #[(.ref a1)] ∧ Z.Warmed39 U.vm ∧ U.heap = h0) (fun _ _ _ _ _ => True) (fun _ U o U' => ∃ v L, o = .returned v ∧ QGr Z a1 mc h0 n0 v U'.heap L ∧ FrameEnd U o U' L ({ frames := 2, cells := 1, slots := 10, locals := 29 } : Room).cells ({ frames := 2, cells := 1, slots := 10, locals := 29 } : Room).slots) := by
  refine MetFree.of_bodySF (plainFor_of_name pn_java_util_ArrayList) hisR ?_
  intro p e s m args below meth c s₁ Bd hml0 hP hK
  obtain ⟨rfl, hZ, hh⟩ := hP
  have hx := Bd.exec
  have hby := Bd.bytes
  have hml : c.maxLocals = 1 := hml0
  have hown : s.vm.findClass "java/util/ArrayList" = some m.cls := findClass_of_methodNamed Bd.named
  have hnm := (name_of_methodNamed Bd.named Bd.method).1
  have X0 : Stand p l e ({ frames := 2, cells := 1, slots := 10, locals := 29 } : Room) s m #[(.ref a1)] below meth c s₁ [] 0 0 := Stand.of_body Bd
  have e0 : s₁.heap = h0 := by rw [← hh, Bd.state]; rfl
  have N0 := Fr.nil n0
  have pre0 : ∀ t, Steps p.tables e below (s₁.setTop (mkF m 0 #[.val (.ref a1)] [])) t → Steps p.tables e below (s₁.setTop (entryFrame m #[(.ref a1)] 1)) t := fun t k => castTop (ef_16_R m a1) k
  obtain ⟨T1, X1, e1, st1⟩ := getF X0 hx hZ hown (host := "") (Or.inl (hw _ (List.mem_of_getElem? (i := 92) rfl))) Via.refl e0 F_size (g := (mkF m 2 #[.val (.ref a1)] [(.ref a1), (.ref a1)])) rfl rfl (hb hby d16_2)
  obtain ⟨cq2, q2, q2'⟩ := E_a1.cell
  obtain ⟨_, _, ⟨T2, L2, k2, n2⟩, -, X2, ⟨Lc2, hQ2, l2, y2, z2⟩, st2⟩ := X1.privateBack hx (y := (⟨"java/util/ArrayList", "grow", "(I)[Ljava/lang/Object;"⟩ : MethodName)) hown (mvT hZ (hw _ (List.mem_of_getElem? (i := 143) rfl))) (mvT hZ (hw _ (List.mem_of_getElem? (i := 144) rfl))) (mvT hZ (hw _ (List.mem_of_getElem? (i := 146) rfl))) (Cond.privateMethod_at (mvP hZ (hw _ (List.mem_of_getElem? (i := 145) rfl)) (args := #[]))) (mvT hZ (hw _ (List.mem_of_getElem? (i := 147) rfl))) (by decide) (backOf (W := 0) (grow_i l Z a0 hw [] a1 mc w_dc k_dc h0 n0 Z0 F_modCount F_elementData F_size E_a1 g_a1 V_dc S_dc) hZ (hw _ (List.mem_of_getElem? (i := 147) rfl)) (hw _ (List.mem_of_getElem? (i := 42) rfl)) (by decide) (by decide)) (g := (mkF m 7 #[.val (.ref a1)] [(.int (1 : Int32)), (.ref a1)])) rfl (by rw [hml]; rfl) (Steps.refl _) (a := a1) (by rw [e1]; exact q2) q2' (argsL := [(.int (1 : Int32))]) (rest := []) (lenOf pd__I__Ljava_lang_Object_ rfl) rfl (by show 2 * 0 + _ ≤ _; exact Nat.le_of_eq rfl) (hb hby d16_7) (fun _ _ => ⟨rfl, e1, (by decide : 0 + 1 ≤ _), (by decide : 0 + 10 ≤ _)⟩)
  dsimp only [Pt.U, Pt.locs, Pt.cells, Pt.slots] at X2 l2 y2 z2 st2 hQ2
  subst l2 y2 z2
  obtain ⟨r2, k2r, rfl, N2q, K2q, sz_r2, O2q, E2r, V2q, E2q, F2q_modCount, F2q_elementData, F2q_size⟩ := hQ2
  have sz0_r2 : h0.size ≤ r2 := Nat.le_trans (Keep.refl h0 [a1]).1 sz_r2
  have g_r2 : n0 ≤ r2 := Nat.le_trans Z0 sz0_r2
  have N2 := Fr.app N0 N2q
  have K2 : Keep h0 T2.heap [a1] := (Keep.refl h0 [a1]).trans K2q (allS (Or.inl (List.mem_of_getElem? (i := 0) rfl)) all0)
  obtain ⟨fs, hr, hrun, hended, hW, hsame⟩ := X2.leave (v := some (.ref r2)) (fun h => by rw [Bd.returns] at h; cases h)
  refine ⟨_, _, pre0 _ ?_, hrun, hended, _, _, rfl, ?_, ⟨_, rfl⟩, hW, hsame.mono (by decide) (by decide)⟩
  · show Steps p.tables e below (s₁.setTop (mkF m 0 #[.val (.ref a1)] [])) _
    refine XS.aloadN X0.here hx rfl (hb hby d16_0) rfl rfl ?_
    show Steps p.tables e below (s₁.setTop (mkF m 1 #[.val (.ref a1)] [(.ref a1)])) _
    refine XS.aloadN X0.here hx rfl (hb hby d16_1) rfl rfl ?_
    show Steps p.tables e below (s₁.setTop (mkF m 2 #[.val (.ref a1)] [(.ref a1), (.ref a1)])) _
    refine st1 _ ?_
    show Steps p.tables e below (T1.setTop (mkF m 5 #[.val (.ref a1)] [(.int (0 : Int32)), (.ref a1)])) _
    refine XS.iconst X1.here hx rfl (hb hby d16_5) ?_
    show Steps p.tables e below (T1.setTop (mkF m 6 #[.val (.ref a1)] [(.int (1 : Int32)), (.int (0 : Int32)), (.ref a1)])) _
    refine XS.iadd X1.here hx rfl (hb hby d16_6) rfl ?_
    show Steps p.tables e below (T1.setTop (mkF m 7 #[.val (.ref a1)] [(.int ((0 : Int32) + (1 : Int32))), (.ref a1)])) _
    rw [show ((0 : Int32) + (1 : Int32)) = (1 : Int32) from by decide]
    show Steps p.tables e below (T1.setTop (mkF m 7 #[.val (.ref a1)] [(.int (1 : Int32)), (.ref a1)])) _
    refine st2.trans ?_
    show Steps p.tables e below (T2.setTop (mkF m 10 #[.val (.ref a1)] [(.ref r2)])) _
    exact retOut X2 hx Bd.returns rfl (Or.inr (Or.inr (Or.inr (Or.inr ⟨rfl, rfl, rfl⟩)))) (hb hby d16_10) hr
  · show QGr Z a1 mc h0 n0 _ T2.heap _
    exact ⟨_, _, rfl, N2, K2, sz0_r2, O2q, E2r, V2q, ⟨E2q, F2q_modCount, F2q_elementData, F2q_size⟩⟩
theorem d15_0 : decode jdk_38_method_24_code 0 = .ok (.iload_n 3, 1) := by decide +kernel
theorem d15_1 : decode jdk_38_method_24_code 1 = .ok (.aload_n 2, 1) := by decide +kernel
theorem d15_2 : decode jdk_38_method_24_code 2 = .ok (.arraylength, 1) := by decide +kernel
theorem d15_3 : decode jdk_38_method_24_code 3 = .ok (.if_icmp .ne 8, 3) := by decide +kernel
theorem d15_6 : decode jdk_38_method_24_code 6 = .ok (.aload_n 0, 1) := by decide +kernel
theorem d15_7 : decode jdk_38_method_24_code 7 = .ok (.invokevirtual 129, 3) := by decide +kernel
theorem pd____Ljava_lang_Object_ : parseMethodDescriptor "()[Ljava/lang/Object;" = some ⟨[], some (.array (.object "java/lang/Object"))⟩ := by decide +kernel
theorem d15_10 : decode jdk_38_method_24_code 10 = .ok (.astore_n 2, 1) := by decide +kernel
theorem d15_11 : decode jdk_38_method_24_code 11 = .ok (.aload_n 2, 1) := by decide +kernel
theorem d15_12 : decode jdk_38_method_24_code 12 = .ok (.iload_n 3, 1) := by decide +kernel
theorem d15_13 : decode jdk_38_method_24_code 13 = .ok (.aload_n 1, 1) := by decide +kernel
theorem d15_14 : decode jdk_38_method_24_code 14 = .ok (.aastore, 1) := by decide +kernel
theorem d15_15 : decode jdk_38_method_24_code 15 = .ok (.aload_n 0, 1) := by decide +kernel
theorem d15_16 : decode jdk_38_method_24_code 16 = .ok (.iload_n 3, 1) := by decide +kernel
theorem d15_17 : decode jdk_38_method_24_code 17 = .ok (.iconst 1, 1) := by decide +kernel
theorem d15_18 : decode jdk_38_method_24_code 18 = .ok (.iadd, 1) := by decide +kernel
theorem d15_19 : decode jdk_38_method_24_code 19 = .ok (.putfield 48, 3) := by decide +kernel
theorem d15_22 : decode jdk_38_method_24_code 22 = .ok (.return_, 1) := by decide +kernel
theorem ef_15_RRRI (m : MethodId) (x0 : Addr) (x1 : Addr) (x2 : Addr) (x3 : Int32) : entryFrame m #[(.ref x0), (.ref x1), (.ref x2), (.int x3)] 4 = mkF m 0 #[.val (.ref x0), .val (.ref x1), .val (.ref x2), .val (.int x3)] [] := by first | (simp [entryFrame, mkF, argsToLocals, Value.category]; done) | (simp [entryFrame, mkF, argsToLocals, own_cr, own_ci, own_cj]; done) | rfl
set_option maxRecDepth 65536 in
set_option maxHeartbeats 40000000 in
theorem add_3 (l : Launch) (Z : State) (a0 : Array Value) (hw : ∀ d ∈ tables_1, d.before a0 Z = true) (ws : List Jvm.Cond) (a1 x2 : Addr) (mc : Int32) (w_dc : Addr) (k_dc : ClassId) (h0 : Heap) (n0 : Nat) (Z0 : n0 ≤ h0.size) (F_modCount : Fld Z h0 a1 "java/util/AbstractList" "modCount" "I" (.int mc)) (F_elementData : Fld Z h0 a1 "java/util/ArrayList" "elementData" "[Ljava/lang/Object;" (.ref w_dc)) (F_size : Fld Z h0 a1 "java/util/ArrayList" "size" "I" (.int (0 : Int32))) (E_a1 : Exa Z h0 a1 "java/util/ArrayList") (g_a1 : n0 ≤ a1) (V_dc : Arv Z h0 w_dc k_dc (.object "java/lang/Object") (0 : Int32) [] .null) (S_dc : Sta Z h0 "java/util/ArrayList" "DEFAULTCAPACITY_EMPTY_ELEMENTDATA" "[Ljava/lang/Object;" (.ref w_dc)) (O_x2 : Obj Z h0 (.ref x2)) :
    MetFree l (⟨"java/util/ArrayList", "add", "(Ljava/lang/Object;[Ljava/lang/Object;I)V"⟩ : MethodName) (head1 (Jvm.Cond.code (⟨"java/util/ArrayList", "add", "(Ljava/lang/Object;[Ljava/lang/Object;I)V"⟩ : MethodName) jdk_38_method_24_code 4 none :: ws) ({ frames := 3, cells := 1, slots := 10, locals := 41 } : Room)) (fun a U => a = #[(.ref a1), (.ref x2), (.ref w_dc), (.int (0 : Int32))] ∧ Z.Warmed39 U.vm ∧ U.heap = h0) (fun _ _ _ _ _ => True) (fun _ U o U' => ∃ v L, o = .returned v ∧ QAd Z a1 x2 mc none h0 n0 v U'.heap L ∧ FrameEnd U o U' L ({ frames := 3, cells := 1, slots := 10, locals := 41 } : Room).cells ({ frames := 3, cells := 1, slots := 10, locals := 41 } : Room).slots) := by
  refine MetFree.of_bodySF (plainFor_of_name pn_java_util_ArrayList) hisR ?_
  intro p e s m args below meth c s₁ Bd hml0 hP hK
  obtain ⟨rfl, hZ, hh⟩ := hP
  have hx := Bd.exec
  have hby := Bd.bytes
  have hml : c.maxLocals = 4 := hml0
  have hown : s.vm.findClass "java/util/ArrayList" = some m.cls := findClass_of_methodNamed Bd.named
  have hnm := (name_of_methodNamed Bd.named Bd.method).1
  have X0 : Stand p l e ({ frames := 3, cells := 1, slots := 10, locals := 41 } : Room) s m #[(.ref a1), (.ref x2), (.ref w_dc), (.int (0 : Int32))] below meth c s₁ [] 0 0 := Stand.of_body Bd
  have e0 : s₁.heap = h0 := by rw [← hh, Bd.state]; rfl
  have N0 := Fr.nil n0
  have pre0 : ∀ t, Steps p.tables e below (s₁.setTop (mkF m 0 #[.val (.ref a1), .val (.ref x2), .val (.ref w_dc), .val (.int (0 : Int32))] [])) t → Steps p.tables e below (s₁.setTop (entryFrame m #[(.ref a1), (.ref x2), (.ref w_dc), (.int (0 : Int32))] 4)) t := fun t k => castTop (ef_15_RRRI m a1 x2 w_dc (0 : Int32)) k
  obtain ⟨cl1, Ar1, q1, s1, m1, H1, F1⟩ := (id V_dc)
  obtain ⟨cq2, q2, q2'⟩ := E_a1.cell
  obtain ⟨_, _, ⟨T2, L2, k2, n2⟩, -, X2, ⟨Lc2, hQ2, l2, y2, z2⟩, st2⟩ := X0.privateBack hx (y := (⟨"java/util/ArrayList", "grow", "()[Ljava/lang/Object;"⟩ : MethodName)) hown (mvT hZ (hw _ (List.mem_of_getElem? (i := 138) rfl))) (mvT hZ (hw _ (List.mem_of_getElem? (i := 139) rfl))) (mvT hZ (hw _ (List.mem_of_getElem? (i := 141) rfl))) (Cond.privateMethod_at (mvP hZ (hw _ (List.mem_of_getElem? (i := 140) rfl)) (args := #[]))) (mvT hZ (hw _ (List.mem_of_getElem? (i := 142) rfl))) (by decide) (backOf (W := 0) (grow_0 l Z a0 hw [] a1 mc w_dc k_dc h0 n0 Z0 F_modCount F_elementData F_size E_a1 g_a1 V_dc S_dc) hZ (hw _ (List.mem_of_getElem? (i := 142) rfl)) (hw _ (List.mem_of_getElem? (i := 42) rfl)) (by decide) (by decide)) (g := (mkF m 7 #[.val (.ref a1), .val (.ref x2), .val (.ref w_dc), .val (.int (0 : Int32))] [(.ref a1)])) rfl (by rw [hml]; rfl) (Steps.refl _) (a := a1) (by rw [e0]; exact q2) q2' (argsL := []) (rest := []) (lenOf pd____Ljava_lang_Object_ rfl) rfl (by show 2 * 0 + _ ≤ _; exact Nat.le_of_eq rfl) (hb hby d15_7) (fun _ _ => ⟨rfl, e0, (by decide : 0 + 1 ≤ _), (by decide : 0 + 10 ≤ _)⟩)
  dsimp only [Pt.U, Pt.locs, Pt.cells, Pt.slots] at X2 l2 y2 z2 st2 hQ2
  subst l2 y2 z2
  obtain ⟨r2, k2r, rfl, N2q, K2q, sz_r2, O2q, E2r, V2q, E2q, F2q_modCount, F2q_elementData, F2q_size⟩ := hQ2
  have sz0_r2 : h0.size ≤ r2 := Nat.le_trans (Keep.refl h0 [a1]).1 sz_r2
  have g_r2 : n0 ≤ r2 := Nat.le_trans Z0 sz0_r2
  have N2 := Fr.app N0 N2q
  have K2 : Keep h0 T2.heap [a1] := (Keep.refl h0 [a1]).trans K2q (allS (Or.inl (List.mem_of_getElem? (i := 0) rfl)) all0)
  obtain ⟨cl3, Ar3, q3, s3, m3, H3, F3⟩ := (id V2q)
  have hin3 : ¬ ((0 : Int32) < 0 ∨ cl3.slots.size ≤ ((0 : Int32)).toNatClampNeg) := inb_of s3 ⟨by decide, by decide⟩
  have sto3 : Sto Z T2.heap r2 (.ref x2) := own_sto Ar3 q3 O2q (own_obj_keep O_x2 K2q)
  obtain ⟨T3, h3, X3, e3, W3, st3⟩ := stR X2 hx hZ rfl Ar3 (j := (0 : Int32)) (v := (.ref x2)) hin3 rfl sto3 (g := (mkF m 14 #[.val (.ref a1), .val (.ref x2), .val (.ref r2), .val (.int (0 : Int32))] [(.ref x2), (.int (0 : Int32)), (.ref r2)])) rfl rfl (hb hby d15_14)
  have V3 : Arv Z h3 r2 k2r (.object "java/lang/Object") (10 : Int32) [(.ref x2), .null, .null, .null, .null, .null, .null, .null, .null, .null] .null := Arv.set Ar3 q3 s3 m3 H3 F3 rfl W3 0 rfl (Nat.le_of_ble_eq_true rfl)
  have K3 : Keep h0 h3 [a1] := K2.wr W3 (Or.inr sz0_r2)
  have N3 := Fr.snoc X3 N2 g_r2
  obtain ⟨T4, h4, X4, e4, W4, st4⟩ := putF X3 hx hZ hown (host := "") (Or.inl (hw _ (List.mem_of_getElem? (i := 92) rfl))) Via.refl e3 (F2q_size.keep (Keep.of_wr W3) (ninS (Nat.ne_of_lt (Nat.lt_of_lt_of_le E_a1.lt sz_r2)) nin0)) (E2q.keep (Keep.of_wr W3)) (Or.inl (hw _ (List.mem_of_getElem? (i := 93) rfl))) (hw _ (List.mem_of_getElem? (i := 41) rfl)) (ty := .int) (by decide) rfl rfl (g := (mkF m 19 #[.val (.ref a1), .val (.ref x2), .val (.ref r2), .val (.int (0 : Int32))] [(.int (1 : Int32)), (.ref a1)])) rfl rfl (hb hby d15_19)
  have F4_modCount := (F2q_modCount.keep (Keep.of_wr W3) (ninS (Nat.ne_of_lt (Nat.lt_of_lt_of_le E_a1.lt sz_r2)) nin0)).other W4 (Or.inr (slot_ne (Or.inl (hw _ (List.mem_of_getElem? (i := 60) rfl))) (Or.inl (hw _ (List.mem_of_getElem? (i := 93) rfl))) (by decide) (t := .int) (t' := .int) (by decide) (by decide)))
  have F4_elementData := (F2q_elementData.keep (Keep.of_wr W3) (ninS (Nat.ne_of_lt (Nat.lt_of_lt_of_le E_a1.lt sz_r2)) nin0)).other W4 (Or.inr (slot_ne (Or.inl (hw _ (List.mem_of_getElem? (i := 63) rfl))) (Or.inl (hw _ (List.mem_of_getElem? (i := 93) rfl))) (by decide) (t := (.array (.object "java/lang/Object"))) (t' := .int) (by decide) (by decide)))
  have F4_size := (F2q_size.keep (Keep.of_wr W3) (ninS (Nat.ne_of_lt (Nat.lt_of_lt_of_le E_a1.lt sz_r2)) nin0)).same W4
  have E4_a1 := (E2q.keep (Keep.of_wr W3)).wr W4
  have K4 : Keep h0 h4 [a1] := K3.wr W4 (Or.inl (List.mem_of_getElem? (i := 0) rfl))
  have N4 := Fr.snoc X4 N3 g_a1
  obtain ⟨fs, hr, hrun, hended, hW, hsame⟩ := X4.leave (v := none) (fun _ => rfl)
  refine ⟨_, _, pre0 _ ?_, hrun, hended, _, _, rfl, ?_, ⟨_, rfl⟩, hW, hsame.mono (by decide) (by decide)⟩
  · show Steps p.tables e below (s₁.setTop (mkF m 0 #[.val (.ref a1), .val (.ref x2), .val (.ref w_dc), .val (.int (0 : Int32))] [])) _
    refine XS.iloadN X0.here hx rfl (hb hby d15_0) rfl ?_
    show Steps p.tables e below (s₁.setTop (mkF m 1 #[.val (.ref a1), .val (.ref x2), .val (.ref w_dc), .val (.int (0 : Int32))] [(.int (0 : Int32))])) _
    refine XS.aloadN X0.here hx rfl (hb hby d15_1) rfl rfl ?_
    show Steps p.tables e below (s₁.setTop (mkF m 2 #[.val (.ref a1), .val (.ref x2), .val (.ref w_dc), .val (.int (0 : Int32))] [(.ref w_dc), (.int (0 : Int32))])) _
    refine X0.arraylength hx (by rw [e0]; exact Ar1.1) (State.isArrayOf_alike hZ.alike Ar1.2.1) (g := (mkF m 2 #[.val (.ref a1), .val (.ref x2), .val (.ref w_dc), .val (.int (0 : Int32))] [(.ref w_dc), (.int (0 : Int32))])) rfl rfl (hb hby d15_2) _ ?_
    rw [len_of s1 m1]
    show Steps p.tables e below (s₁.setTop (mkF m 3 #[.val (.ref a1), .val (.ref x2), .val (.ref w_dc), .val (.int (0 : Int32))] [(.int (0 : Int32)), (.int (0 : Int32))])) _
    refine XS.icmpNo X0.here hx rfl (hb hby d15_3) rfl (teq (by decide : (0 : Int32) = (0 : Int32))).2 ?_
    show Steps p.tables e below (s₁.setTop (mkF m 6 #[.val (.ref a1), .val (.ref x2), .val (.ref w_dc), .val (.int (0 : Int32))] [])) _
    refine XS.aloadN X0.here hx rfl (hb hby d15_6) rfl rfl ?_
    show Steps p.tables e below (s₁.setTop (mkF m 7 #[.val (.ref a1), .val (.ref x2), .val (.ref w_dc), .val (.int (0 : Int32))] [(.ref a1)])) _
    refine st2.trans ?_
    show Steps p.tables e below (T2.setTop (mkF m 10 #[.val (.ref a1), .val (.ref x2), .val (.ref w_dc), .val (.int (0 : Int32))] [(.ref r2)])) _
    refine XS.astoreN X2.here hx rfl (hb hby d15_10) rfl rfl (l' := #[.val (.ref a1), .val (.ref x2), .val (.ref r2), .val (.int (0 : Int32))]) rfl ?_
    show Steps p.tables e below (T2.setTop (mkF m 11 #[.val (.ref a1), .val (.ref x2), .val (.ref r2), .val (.int (0 : Int32))] [])) _
    refine XS.aloadN X2.here hx rfl (hb hby d15_11) rfl rfl ?_
    show Steps p.tables e below (T2.setTop (mkF m 12 #[.val (.ref a1), .val (.ref x2), .val (.ref r2), .val (.int (0 : Int32))] [(.ref r2)])) _
    refine XS.iloadN X2.here hx rfl (hb hby d15_12) rfl ?_
    show Steps p.tables e below (T2.setTop (mkF m 13 #[.val (.ref a1), .val (.ref x2), .val (.ref r2), .val (.int (0 : Int32))] [(.int (0 : Int32)), (.ref r2)])) _
    refine XS.aloadN X2.here hx rfl (hb hby d15_13) rfl rfl ?_
    show Steps p.tables e below (T2.setTop (mkF m 14 #[.val (.ref a1), .val (.ref x2), .val (.ref r2), .val (.int (0 : Int32))] [(.ref x2), (.int (0 : Int32)), (.ref r2)])) _
    refine st3 _ ?_
    show Steps p.tables e below (T3.setTop (mkF m 15 #[.val (.ref a1), .val (.ref x2), .val (.ref r2), .val (.int (0 : Int32))] [])) _
    refine XS.aloadN X3.here hx rfl (hb hby d15_15) rfl rfl ?_
    show Steps p.tables e below (T3.setTop (mkF m 16 #[.val (.ref a1), .val (.ref x2), .val (.ref r2), .val (.int (0 : Int32))] [(.ref a1)])) _
    refine XS.iloadN X3.here hx rfl (hb hby d15_16) rfl ?_
    show Steps p.tables e below (T3.setTop (mkF m 17 #[.val (.ref a1), .val (.ref x2), .val (.ref r2), .val (.int (0 : Int32))] [(.int (0 : Int32)), (.ref a1)])) _
    refine XS.iconst X3.here hx rfl (hb hby d15_17) ?_
    show Steps p.tables e below (T3.setTop (mkF m 18 #[.val (.ref a1), .val (.ref x2), .val (.ref r2), .val (.int (0 : Int32))] [(.int (1 : Int32)), (.int (0 : Int32)), (.ref a1)])) _
    refine XS.iadd X3.here hx rfl (hb hby d15_18) rfl ?_
    show Steps p.tables e below (T3.setTop (mkF m 19 #[.val (.ref a1), .val (.ref x2), .val (.ref r2), .val (.int (0 : Int32))] [(.int ((0 : Int32) + (1 : Int32))), (.ref a1)])) _
    rw [show ((0 : Int32) + (1 : Int32)) = (1 : Int32) from by decide]
    show Steps p.tables e below (T3.setTop (mkF m 19 #[.val (.ref a1), .val (.ref x2), .val (.ref r2), .val (.int (0 : Int32))] [(.int (1 : Int32)), (.ref a1)])) _
    refine st4 _ ?_
    show Steps p.tables e below (T4.setTop (mkF m 22 #[.val (.ref a1), .val (.ref x2), .val (.ref r2), .val (.int (0 : Int32))] [])) _
    exact X4.returnOut hx Bd.returns (hb hby d15_22) hr
  · show QAd Z a1 x2 mc none h0 n0 _ T4.heap _
    rw [e4]
    exact ⟨_, _, rfl, N4, K4, sz0_r2, ((E2r.keep (Keep.of_wr W3)).keep (Keep.of_wr W4)), (V3.keep (Keep.of_wr W4) (ninS (Ne.symm (Nat.ne_of_lt (Nat.lt_of_lt_of_le E_a1.lt sz_r2))) nin0)), ⟨E4_a1, F4_modCount, F4_elementData, F4_size⟩⟩
theorem d14_0 : decode jdk_38_method_25_code 0 = .ok (.aload_n 0, 1) := by decide +kernel
theorem d14_1 : decode jdk_38_method_25_code 1 = .ok (.dup, 1) := by decide +kernel
theorem d14_2 : decode jdk_38_method_25_code 2 = .ok (.getfield 63, 3) := by decide +kernel
theorem d14_5 : decode jdk_38_method_25_code 5 = .ok (.iconst 1, 1) := by decide +kernel
theorem d14_6 : decode jdk_38_method_25_code 6 = .ok (.iadd, 1) := by decide +kernel
theorem d14_7 : decode jdk_38_method_25_code 7 = .ok (.putfield 63, 3) := by decide +kernel
theorem d14_10 : decode jdk_38_method_25_code 10 = .ok (.aload_n 0, 1) := by decide +kernel
theorem d14_11 : decode jdk_38_method_25_code 11 = .ok (.aload_n 1, 1) := by decide +kernel
theorem d14_12 : decode jdk_38_method_25_code 12 = .ok (.aload_n 0, 1) := by decide +kernel
theorem d14_13 : decode jdk_38_method_25_code 13 = .ok (.getfield 9, 3) := by decide +kernel
theorem d14_16 : decode jdk_38_method_25_code 16 = .ok (.aload_n 0, 1) := by decide +kernel
theorem d14_17 : decode jdk_38_method_25_code 17 = .ok (.getfield 48, 3) := by decide +kernel
theorem d14_20 : decode jdk_38_method_25_code 20 = .ok (.invokevirtual 131, 3) := by decide +kernel
theorem pd__Ljava_lang_Object__Ljava_lang_Object_I_V : parseMethodDescriptor "(Ljava/lang/Object;[Ljava/lang/Object;I)V" = some ⟨[(.object "java/lang/Object"), (.array (.object "java/lang/Object")), .int], none⟩ := by decide +kernel
theorem d14_23 : decode jdk_38_method_25_code 23 = .ok (.iconst 1, 1) := by decide +kernel
theorem d14_24 : decode jdk_38_method_25_code 24 = .ok (.ireturn, 1) := by decide +kernel
theorem ef_14_RR (m : MethodId) (x0 : Addr) (x1 : Addr) : entryFrame m #[(.ref x0), (.ref x1)] 2 = mkF m 0 #[.val (.ref x0), .val (.ref x1)] [] := by first | (simp [entryFrame, mkF, argsToLocals, Value.category]; done) | (simp [entryFrame, mkF, argsToLocals, own_cr, own_ci, own_cj]; done) | rfl
set_option maxRecDepth 65536 in
set_option maxHeartbeats 40000000 in
theorem add_1 (l : Launch) (Z : State) (a0 : Array Value) (hw : ∀ d ∈ tables_1, d.before a0 Z = true) (ws : List Jvm.Cond) (a1 x2 : Addr) (mc : Int32) (w_dc : Addr) (k_dc : ClassId) (h0 : Heap) (n0 : Nat) (Z0 : n0 ≤ h0.size) (F_modCount : Fld Z h0 a1 "java/util/AbstractList" "modCount" "I" (.int mc)) (F_elementData : Fld Z h0 a1 "java/util/ArrayList" "elementData" "[Ljava/lang/Object;" (.ref w_dc)) (F_size : Fld Z h0 a1 "java/util/ArrayList" "size" "I" (.int (0 : Int32))) (E_a1 : Exa Z h0 a1 "java/util/ArrayList") (g_a1 : n0 ≤ a1) (V_dc : Arv Z h0 w_dc k_dc (.object "java/lang/Object") (0 : Int32) [] .null) (S_dc : Sta Z h0 "java/util/ArrayList" "DEFAULTCAPACITY_EMPTY_ELEMENTDATA" "[Ljava/lang/Object;" (.ref w_dc)) (O_x2 : Obj Z h0 (.ref x2)) (ne_dc : w_dc ≠ a1) :
    MetFree l (⟨"java/util/ArrayList", "add", "(Ljava/lang/Object;)Z"⟩ : MethodName) (head1 (Jvm.Cond.code (⟨"java/util/ArrayList", "add", "(Ljava/lang/Object;)Z"⟩ : MethodName) jdk_38_method_25_code 2 (some .boolean) :: ws) ({ frames := 4, cells := 1, slots := 10, locals := 56 } : Room)) (fun a U => a = #[(.ref a1), (.ref x2)] ∧ Z.Warmed39 U.vm ∧ U.heap = h0) (fun _ _ _ _ _ => True) (fun _ U o U' => ∃ v L, o = .returned v ∧ QAd Z a1 x2 (mc + (1 : Int32)) (some (.int (1 : Int32))) h0 n0 v U'.heap L ∧ FrameEnd U o U' L ({ frames := 4, cells := 1, slots := 10, locals := 56 } : Room).cells ({ frames := 4, cells := 1, slots := 10, locals := 56 } : Room).slots) := by
  refine MetFree.of_bodySF (plainFor_of_name pn_java_util_ArrayList) hisR ?_
  intro p e s m args below meth c s₁ Bd hml0 hP hK
  obtain ⟨rfl, hZ, hh⟩ := hP
  have hx := Bd.exec
  have hby := Bd.bytes
  have hml : c.maxLocals = 2 := hml0
  have hown : s.vm.findClass "java/util/ArrayList" = some m.cls := findClass_of_methodNamed Bd.named
  have hnm := (name_of_methodNamed Bd.named Bd.method).1
  have X0 : Stand p l e ({ frames := 4, cells := 1, slots := 10, locals := 56 } : Room) s m #[(.ref a1), (.ref x2)] below meth c s₁ [] 0 0 := Stand.of_body Bd
  have e0 : s₁.heap = h0 := by rw [← hh, Bd.state]; rfl
  have N0 := Fr.nil n0
  have pre0 : ∀ t, Steps p.tables e below (s₁.setTop (mkF m 0 #[.val (.ref a1), .val (.ref x2)] [])) t → Steps p.tables e below (s₁.setTop (entryFrame m #[(.ref a1), (.ref x2)] 2)) t := fun t k => castTop (ef_14_RR m a1 x2) k
  obtain ⟨T1, X1, e1, st1⟩ := getF X0 hx hZ hown (host := "") (Or.inl (hw _ (List.mem_of_getElem? (i := 131) rfl))) (Via.of (hw _ (List.mem_of_getElem? (i := 132) rfl))) e0 F_modCount (g := (mkF m 2 #[.val (.ref a1), .val (.ref x2)] [(.ref a1), (.ref a1)])) rfl rfl (hb hby d14_2)
  obtain ⟨T2, h2, X2, e2, W2, st2⟩ := putF X1 hx hZ hown (host := "") (Or.inl (hw _ (List.mem_of_getElem? (i := 131) rfl))) (Via.of (hw _ (List.mem_of_getElem? (i := 132) rfl))) e1 F_modCount E_a1 (Or.inl (hw _ (List.mem_of_getElem? (i := 60) rfl))) (hw _ (List.mem_of_getElem? (i := 41) rfl)) (ty := .int) (by decide) rfl rfl (g := (mkF m 7 #[.val (.ref a1), .val (.ref x2)] [(.int (mc + (1 : Int32))), (.ref a1)])) rfl rfl (hb hby d14_7)
  have F2_modCount := F_modCount.same W2
  have F2_elementData := F_elementData.other W2 (Or.inr (slot_ne (Or.inl (hw _ (List.mem_of_getElem? (i := 63) rfl))) (Or.inl (hw _ (List.mem_of_getElem? (i := 60) rfl))) (by decide) (t := (.array (.object "java/lang/Object"))) (t' := .int) (by decide) (by decide)))
  have F2_size := F_size.other W2 (Or.inr (slot_ne (Or.inl (hw _ (List.mem_of_getElem? (i := 93) rfl))) (Or.inl (hw _ (List.mem_of_getElem? (i := 60) rfl))) (by decide) (t := .int) (t' := .int) (by decide) (by decide)))
  have E2_a1 := E_a1.wr W2
  have K2 : Keep h0 h2 [a1] := (Keep.refl h0 [a1]).wr W2 (Or.inl (List.mem_of_getElem? (i := 0) rfl))
  have N2 := Fr.snoc X2 N0 g_a1
  obtain ⟨T3, X3, e3, st3⟩ := getF X2 hx hZ hown (host := "") (Or.inl (hw _ (List.mem_of_getElem? (i := 62) rfl))) Via.refl e2 F2_elementData (g := (mkF m 13 #[.val (.ref a1), .val (.ref x2)] [(.ref a1), (.ref x2), (.ref a1)])) rfl rfl (hb hby d14_13)
  obtain ⟨T4, X4, e4, st4⟩ := getF X3 hx hZ hown (host := "") (Or.inl (hw _ (List.mem_of_getElem? (i := 92) rfl))) Via.refl e3 F2_size (g := (mkF m 17 #[.val (.ref a1), .val (.ref x2)] [(.ref a1), (.ref w_dc), (.ref x2), (.ref a1)])) rfl rfl (hb hby d14_17)
  obtain ⟨cq5, q5, q5'⟩ := E2_a1.cell
  obtain ⟨_, _, ⟨T5, L5, k5, n5⟩, -, X5, ⟨Lc5, hQ5, l5, y5, z5⟩, st5⟩ := X4.privateBack hx (y := (⟨"java/util/ArrayList", "add", "(Ljava/lang/Object;[Ljava/lang/Object;I)V"⟩ : MethodName)) hown (mvT hZ (hw _ (List.mem_of_getElem? (i := 133) rfl))) (mvT hZ (hw _ (List.mem_of_getElem? (i := 134) rfl))) (mvT hZ (hw _ (List.mem_of_getElem? (i := 136) rfl))) (Cond.privateMethod_at (mvP hZ (hw _ (List.mem_of_getElem? (i := 135) rfl)) (args := #[]))) (mvT hZ (hw _ (List.mem_of_getElem? (i := 137) rfl))) (by decide) (backOf (W := 0) (add_3 l Z a0 hw [] a1 x2 (mc + (1 : Int32)) w_dc k_dc h2 n0 (Nat.le_trans Z0 K2.1) F2_modCount F2_elementData F2_size E2_a1 g_a1 (V_dc.keep (Keep.of_wr W2) (ninS ne_dc nin0)) (own_sta_keep1 S_dc E_a1 K2) (own_obj_keep O_x2 (Keep.of_wr W2))) hZ (hw _ (List.mem_of_getElem? (i := 137) rfl)) (hw _ (List.mem_of_getElem? (i := 42) rfl)) (by decide) (by decide)) (g := (mkF m 20 #[.val (.ref a1), .val (.ref x2)] [(.int (0 : Int32)), (.ref w_dc), (.ref x2), (.ref a1)])) rfl (by rw [hml]; rfl) (Steps.refl _) (a := a1) (by rw [e4]; exact q5) q5' (argsL := [(.ref x2), (.ref w_dc), (.int (0 : Int32))]) (rest := []) (lenOf pd__Ljava_lang_Object__Ljava_lang_Object_I_V rfl) rfl (by show 2 * 0 + _ ≤ _; exact Nat.le_of_eq rfl) (hb hby d14_20) (fun _ _ => ⟨rfl, e4, (by decide : 0 + 1 ≤ _), (by decide : 0 + 10 ≤ _)⟩)
  dsimp only [Pt.U, Pt.locs, Pt.cells, Pt.slots] at X5 l5 y5 z5 st5 hQ5
  subst l5 y5 z5
  obtain ⟨r5, k5r, rfl, N5q, K5q, sz_r5, E5r, V5q, E5q, F5q_modCount, F5q_elementData, F5q_size⟩ := hQ5
  have sz0_r5 : h0.size ≤ r5 := Nat.le_trans K2.1 sz_r5
  have g_r5 : n0 ≤ r5 := Nat.le_trans Z0 sz0_r5
  have N5 := Fr.app N2 N5q
  have K5 : Keep h0 T5.heap [a1] := K2.trans K5q (allS (Or.inl (List.mem_of_getElem? (i := 0) rfl)) all0)
  obtain ⟨fs, hr, hrun, hended, hW, hsame⟩ := X5.leave (v := some (.int (1 : Int32))) (fun h => by rw [Bd.returns] at h; cases h)
  refine ⟨_, _, pre0 _ ?_, hrun, hended, _, _, rfl, ?_, ⟨_, rfl⟩, hW, hsame.mono (by decide) (by decide)⟩
  · show Steps p.tables e below (s₁.setTop (mkF m 0 #[.val (.ref a1), .val (.ref x2)] [])) _
    refine XS.aloadN X0.here hx rfl (hb hby d14_0) rfl rfl ?_
    show Steps p.tables e below (s₁.setTop (mkF m 1 #[.val (.ref a1), .val (.ref x2)] [(.ref a1)])) _
    refine XS.dup X0.here hx rfl (hb hby d14_1) rfl rfl ?_
    show Steps p.tables e below (s₁.setTop (mkF m 2 #[.val (.ref a1), .val (.ref x2)] [(.ref a1), (.ref a1)])) _
    refine st1 _ ?_
    show Steps p.tables e below (T1.setTop (mkF m 5 #[.val (.ref a1), .val (.ref x2)] [(.int mc), (.ref a1)])) _
    refine XS.iconst X1.here hx rfl (hb hby d14_5) ?_
    show Steps p.tables e below (T1.setTop (mkF m 6 #[.val (.ref a1), .val (.ref x2)] [(.int (1 : Int32)), (.int mc), (.ref a1)])) _
    refine XS.iadd X1.here hx rfl (hb hby d14_6) rfl ?_
    show Steps p.tables e below (T1.setTop (mkF m 7 #[.val (.ref a1), .val (.ref x2)] [(.int (mc + (1 : Int32))), (.ref a1)])) _
    refine st2 _ ?_
    show Steps p.tables e below (T2.setTop (mkF m 10 #[.val (.ref a1), .val (.ref x2)] [])) _
    refine XS.aloadN X2.here hx rfl (hb hby d14_10) rfl rfl ?_
    show Steps p.tables e below (T2.setTop (mkF m 11 #[.val (.ref a1), .val (.ref x2)] [(.ref a1)])) _
    refine XS.aloadN X2.here hx rfl (hb hby d14_11) rfl rfl ?_
    show Steps p.tables e below (T2.setTop (mkF m 12 #[.val (.ref a1), .val (.ref x2)] [(.ref x2), (.ref a1)])) _
    refine XS.aloadN X2.here hx rfl (hb hby d14_12) rfl rfl ?_
    show Steps p.tables e below (T2.setTop (mkF m 13 #[.val (.ref a1), .val (.ref x2)] [(.ref a1), (.ref x2), (.ref a1)])) _
    refine st3 _ ?_
    show Steps p.tables e below (T3.setTop (mkF m 16 #[.val (.ref a1), .val (.ref x2)] [(.ref w_dc), (.ref x2), (.ref a1)])) _
    refine XS.aloadN X3.here hx rfl (hb hby d14_16) rfl rfl ?_
    show Steps p.tables e below (T3.setTop (mkF m 17 #[.val (.ref a1), .val (.ref x2)] [(.ref a1), (.ref w_dc), (.ref x2), (.ref a1)])) _
    refine st4 _ ?_
    show Steps p.tables e below (T4.setTop (mkF m 20 #[.val (.ref a1), .val (.ref x2)] [(.int (0 : Int32)), (.ref w_dc), (.ref x2), (.ref a1)])) _
    refine st5.trans ?_
    show Steps p.tables e below (T5.setTop (mkF m 23 #[.val (.ref a1), .val (.ref x2)] [])) _
    refine XS.iconst X5.here hx rfl (hb hby d14_23) ?_
    show Steps p.tables e below (T5.setTop (mkF m 24 #[.val (.ref a1), .val (.ref x2)] [(.int (1 : Int32))])) _
    exact retOut X5 hx Bd.returns rfl (Or.inl ⟨rfl, Or.inr (Or.inl rfl), _, rfl⟩) (hb hby d14_24) hr
  · show QAd Z a1 x2 (mc + (1 : Int32)) (some (.int (1 : Int32))) h0 n0 _ T5.heap _
    exact ⟨_, _, rfl, N5, K5, sz0_r5, E5r, V5q, ⟨E5q, F5q_modCount, F5q_elementData, F5q_size⟩⟩
theorem d22_0 : decode jdk_65_method_120_code 0 = .ok (.aload_n 2, 1) := by decide +kernel
theorem d22_1 : decode jdk_65_method_120_code 1 = .ok (.ldc 110, 2) := by decide +kernel
theorem d22_3 : decode jdk_65_method_120_code 3 = .ok (.if_acmp .ne 10, 3) := by decide +kernel
theorem d22_6 : decode jdk_65_method_120_code 6 = .ok (.iload_n 1, 1) := by decide +kernel
theorem d22_7 : decode jdk_65_method_120_code 7 = .ok (.anewarray 2, 3) := by decide +kernel
theorem d22_10 : decode jdk_65_method_120_code 10 = .ok (.goto 14, 3) := by decide +kernel
theorem d22_24 : decode jdk_65_method_120_code 24 = .ok (.astore_n 3, 1) := by decide +kernel
theorem d22_25 : decode jdk_65_method_120_code 25 = .ok (.aload_n 0, 1) := by decide +kernel
theorem d22_26 : decode jdk_65_method_120_code 26 = .ok (.iconst 0, 1) := by decide +kernel
theorem d22_27 : decode jdk_65_method_120_code 27 = .ok (.aload_n 3, 1) := by decide +kernel
theorem d22_28 : decode jdk_65_method_120_code 28 = .ok (.iconst 0, 1) := by decide +kernel
theorem d22_29 : decode jdk_65_method_120_code 29 = .ok (.aload_n 0, 1) := by decide +kernel
theorem d22_30 : decode jdk_65_method_120_code 30 = .ok (.arraylength, 1) := by decide +kernel
theorem d22_31 : decode jdk_65_method_120_code 31 = .ok (.iload_n 1, 1) := by decide +kernel
theorem d22_32 : decode jdk_65_method_120_code 32 = .ok (.invokestatic 304, 3) := by decide +kernel
theorem d22_35 : decode jdk_65_method_120_code 35 = .ok (.invokestatic 150, 3) := by decide +kernel
theorem d22_38 : decode jdk_65_method_120_code 38 = .ok (.aload_n 3, 1) := by decide +kernel
theorem d22_39 : decode jdk_65_method_120_code 39 = .ok (.areturn, 1) := by decide +kernel
theorem ef_22_RIR (m : MethodId) (x0 : Addr) (x1 : Int32) (x2 : Addr) : entryFrame m #[(.ref x0), (.int x1), (.ref x2)] 4 = mkF m 0 #[.val (.ref x0), .val (.int x1), .val (.ref x2), .unset] [] := by first | (simp [entryFrame, mkF, argsToLocals, Value.category]; done) | (simp [entryFrame, mkF, argsToLocals, own_cr, own_ci, own_cj]; done) | rfl
theorem pn_java_util_Arrays : plainName "java/util/Arrays" = true := by first | (simp [plainName, overriddenIn]; done) | decide +kernel
set_option maxRecDepth 65536 in
set_option maxHeartbeats 40000000 in
theorem copy_3 (l : Launch) (Z : State) (a0 : Array Value) (hw : ∀ d ∈ tables_1, d.before a0 Z = true) (ws : List Jvm.Cond) (x1 x2 m_o : Addr) (k1 : ClassId) (h0 : Heap) (n0 : Nat) (Z0 : n0 ≤ h0.size) (V_x1 : Arv Z h0 x1 k1 (.object "java/lang/Object") (10 : Int32) [.ref x2, .null, .null, .null, .null, .null, .null, .null, .null, .null] .null) (O_x2 : Obj Z h0 (.ref x2)) (M_o : Mir Z "[Ljava/lang/Object;" m_o) :
    MetFree l (⟨"java/util/Arrays", "copyOf", "([Ljava/lang/Object;ILjava/lang/Class;)[Ljava/lang/Object;"⟩ : MethodName) (head1 (Jvm.Cond.code (⟨"java/util/Arrays", "copyOf", "([Ljava/lang/Object;ILjava/lang/Class;)[Ljava/lang/Object;"⟩ : MethodName) jdk_65_method_120_code 4 (some (.array (.object "java/lang/Object"))) :: ws) ({ frames := 1, cells := 1, slots := 1, locals := 18 } : Room)) (fun a U => a = #[(.ref x1), (.int (1 : Int32)), (.ref m_o)] ∧ Z.Warmed39 U.vm ∧ U.heap = h0) (fun _ _ _ _ _ => True) (fun _ U o U' => ∃ v L, o = .returned v ∧ QC3 Z x2 h0 n0 v U'.heap L ∧ FrameEnd U o U' L ({ frames := 1, cells := 1, slots := 1, locals := 18 } : Room).cells ({ frames := 1, cells := 1, slots := 1, locals := 18 } : Room).slots) := by
  refine MetFree.of_bodySF (plainFor_of_name pn_java_util_Arrays) hisR ?_
  intro p e s m args below meth c s₁ Bd hml0 hP hK
  obtain ⟨rfl, hZ, hh⟩ := hP
  have hx := Bd.exec
  have hby := Bd.bytes
  have hml : c.maxLocals = 4 := hml0
  have hown : s.vm.findClass "java/util/Arrays" = some m.cls := findClass_of_methodNamed Bd.named
  have hnm := (name_of_methodNamed Bd.named Bd.method).1
  have X0 : Stand p l e ({ frames := 1, cells := 1, slots := 1, locals := 18 } : Room) s m #[(.ref x1), (.int (1 : Int32)), (.ref m_o)] below meth c s₁ [] 0 0 := Stand.of_body Bd
  have e0 : s₁.heap = h0 := by rw [← hh, Bd.state]; rfl
  have N0 := Fr.nil n0
  have pre0 : ∀ t, Steps p.tables e below (s₁.setTop (mkF m 0 #[.val (.ref x1), .val (.int (1 : Int32)), .val (.ref m_o), .unset] [])) t → Steps p.tables e below (s₁.setTop (entryFrame m #[(.ref x1), (.int (1 : Int32)), (.ref m_o)] 4)) t := fun t k => castTop (ef_22_RIR m x1 (1 : Int32) m_o) k
  obtain ⟨vm1, X1, st1⟩ := X0.ldcMirror hx hown (mvT hZ (hw _ (List.mem_of_getElem? (i := 186) rfl))) (own_mirror hZ M_o) (g := (mkF m 1 #[.val (.ref x1), .val (.int (1 : Int32)), .val (.ref m_o), .unset] [(.ref m_o)])) rfl (hb hby d22_1)
  obtain ⟨T1, hT1⟩ : ∃ t, t = s₁.setVm vm1 := ⟨_, rfl⟩
  rw [← hT1] at X1 st1
  have e1 : T1.heap = h0 := by rw [hT1]; exact e0
  obtain ⟨T2, h2, k2, X2, e2, E2, A2, B2, O2, st2⟩ := newRE X1 hx hZ hown (hw _ (List.mem_of_getElem? (i := 187) rfl)) (hw _ (List.mem_of_getElem? (i := 153) rfl)) e1 (g := (mkF m 7 #[.val (.ref x1), .val (.int (1 : Int32)), .val (.ref m_o), .unset] [(.int (1 : Int32))])) rfl (hb hby d22_7) rfl (by decide) (cap := 1) (by decide) (by decide) (by decide) (by decide) (ad := "[Ljava/lang/Object;") rfl
  obtain ⟨b2, gg2⟩ : ∃ z, z = h0.size := ⟨_, rfl⟩
  rw [← gg2] at A2 B2 st2
  have sz_b2 : h0.size ≤ b2 := Nat.le_of_eq gg2.symm
  have sz0_b2 : h0.size ≤ b2 := Nat.le_trans (Keep.refl h0 []).1 sz_b2
  have g_b2 : n0 ≤ b2 := Nat.le_trans Z0 sz0_b2
  have K2q : Keep h0 h2 [] := (Keep.refl _ []).ext E2
  have K2 : Keep h0 h2 [] := (Keep.refl h0 []).ext E2
  have V2 : Arv Z h2 b2 k2 (.object "java/lang/Object") (1 : Int32) [.null] .null := (Arv.new A2 (by decide)).pad (pad_rep [] .null 1)
  obtain ⟨cl3, Ar3, q3, s3, m3, H3, F3⟩ := (id (V_x1.keep K2q nin0))
  obtain ⟨_, _, ⟨T4, L4, k4, n4⟩, -, X4, ⟨Lc4, hQ4, l4, y4, z4⟩, st4⟩ := Jvm.LawKit.callS X2 hx (y := (⟨"java/lang/Math", "min", "(II)I"⟩ : MethodName)) hown (mvT hZ (hw _ (List.mem_of_getElem? (i := 188) rfl))) (mvT hZ (hw _ (List.mem_of_getElem? (i := 189) rfl))) (mvT hZ (hw _ (List.mem_of_getElem? (i := 150) rfl))) (mvT hZ (hw _ (List.mem_of_getElem? (i := 190) rfl))) (by decide) (backOf (W := 4) (min10 l Z a0 hw []  h2 n0 (Nat.le_trans Z0 K2.1) ) hZ (hw _ (List.mem_of_getElem? (i := 190) rfl)) (hw _ (List.mem_of_getElem? (i := 150) rfl)) (by decide) (by decide)) (g := (mkF m 32 #[.val (.ref x1), .val (.int (1 : Int32)), .val (.ref m_o), .val (.ref b2)] [(.int (1 : Int32)), (.int (10 : Int32)), (.int (0 : Int32)), (.ref b2), (.int (0 : Int32)), (.ref x1)])) rfl (by rw [hml]; rfl) (argsL := [(.int (10 : Int32)), (.int (1 : Int32))]) (rest := [(.int (0 : Int32)), (.ref b2), (.int (0 : Int32)), (.ref x1)]) (lenOf pd__II_I rfl) rfl (by show 2 * 0 + _ ≤ _; exact Nat.le_of_eq rfl) (hb hby d22_32) (fun _ _ => ⟨rfl, e2, (by decide : 1 + 0 ≤ _), (by decide : 1 + 0 ≤ _)⟩)
  dsimp only [Pt.U, Pt.locs, Pt.cells, Pt.slots] at X4 l4 y4 z4 st4 hQ4
  subst l4 y4 z4
  obtain ⟨rfl, N4q, e4⟩ := hQ4
  have N4 := Fr.app N0 N4q
  obtain ⟨cl5, Ar5, q5, s5, m5, H5, G5⟩ := (id V2)
  have sto5 : Sto Z h2 b2 (.ref x2) := own_sto Ar5 q5 O2 (own_obj_keep O_x2 K2q)
  obtain ⟨T5, h5, L5, X5, e5, N5, K5q, V5', st5⟩ := cpA X4 hx hZ hown (hw _ (List.mem_of_getElem? (i := 191) rfl)) (hw _ (List.mem_of_getElem? (i := 194) rfl)) (hw _ (List.mem_of_getElem? (i := 192) rfl)) (hw _ (List.mem_of_getElem? (i := 193) rfl)) e4 (V_x1.keep K2q nin0) V2 (us := [.ref x2]) (Or.inr ⟨rfl, rfl, sto5, trivial⟩) (sp := (0 : Int32)) (dp := (0 : Int32)) (nn := (1 : Int32)) (by decide) (by decide) (by decide) (by decide) (by decide) rfl (by decide) N4 g_b2 (g := (mkF m 35 #[.val (.ref x1), .val (.int (1 : Int32)), .val (.ref m_o), .val (.ref b2)] [(.int (1 : Int32)), (.int (0 : Int32)), (.ref b2), (.int (0 : Int32)), (.ref x1)])) rfl (by rw [hml]; rfl) rfl (hb hby d22_35) (by decide) (W := 0) (by show 2 * 0 + _ ≤ _; exact Nat.le_of_eq rfl) (by decide)
  have V5 : Arv Z h5 b2 k2 (.object "java/lang/Object") (1 : Int32) [.ref x2] .null := V5'
  have K5 : Keep h0 h5 [] := K2.trans K5q (allS (Or.inr sz0_b2) all0)
  obtain ⟨fs, hr, hrun, hended, hW, hsame⟩ := X5.leave (v := some (.ref b2)) (fun h => by rw [Bd.returns] at h; cases h)
  refine ⟨_, _, pre0 _ ?_, hrun, hended, _, _, rfl, ?_, ⟨_, rfl⟩, hW, hsame.mono (by decide) (by decide)⟩
  · show Steps p.tables e below (s₁.setTop (mkF m 0 #[.val (.ref x1), .val (.int (1 : Int32)), .val (.ref m_o), .unset] [])) _
    refine XS.aloadN X0.here hx rfl (hb hby d22_0) rfl rfl ?_
    show Steps p.tables e below (s₁.setTop (mkF m 1 #[.val (.ref x1), .val (.int (1 : Int32)), .val (.ref m_o), .unset] [(.ref m_o)])) _
    refine st1 _ ?_
    show Steps p.tables e below (T1.setTop (mkF m 3 #[.val (.ref x1), .val (.int (1 : Int32)), .val (.ref m_o), .unset] [(.ref m_o), (.ref m_o)])) _
    refine Jvm.RoadKit.acmp (g := (mkF m 3 #[.val (.ref x1), .val (.int (1 : Int32)), .val (.ref m_o), .unset] [(.ref m_o), (.ref m_o)])) X1 hx rfl rfl rfl (pc0 := 3) (pc' := 6) (same := true) rfl (hb hby d22_3) rfl (decide_eq_true rfl) (by decide) (by decide) ?_
    show Steps p.tables e below (T1.setTop (mkF m 6 #[.val (.ref x1), .val (.int (1 : Int32)), .val (.ref m_o), .unset] [])) _
    refine XS.iloadN X1.here hx rfl (hb hby d22_6) rfl ?_
    show Steps p.tables e below (T1.setTop (mkF m 7 #[.val (.ref x1), .val (.int (1 : Int32)), .val (.ref m_o), .unset] [(.int (1 : Int32))])) _
    refine st2 _ ?_
    show Steps p.tables e below (T2.setTop (mkF m 10 #[.val (.ref x1), .val (.int (1 : Int32)), .val (.ref m_o), .unset] [(.ref b2)])) _
    refine XS.goto X2.here hx rfl (pc0 := 10) (pc' := 24) rfl (hb hby d22_10) (by decide) (by decide) ?_
    show Steps p.tables e below (T2.setTop (mkF m 24 #[.val (.ref x1), .val (.int (1 : Int32)), .val (.ref m_o), .unset] [(.ref b2)])) _
    refine XS.astoreN X2.here hx rfl (hb hby d22_24) rfl rfl (l' := #[.val (.ref x1), .val (.int (1 : Int32)), .val (.ref m_o), .val (.ref b2)]) rfl ?_
    show Steps p.tables e below (T2.setTop (mkF m 25 #[.val (.ref x1), .val (.int (1 : Int32)), .val (.ref m_o), .val (.ref b2)] [])) _
    refine XS.aloadN X2.here hx rfl (hb hby d22_25) rfl rfl ?_
    show Steps p.tables e below (T2.setTop (mkF m 26 #[.val (.ref x1), .val (.int (1 : Int32)), .val (.ref m_o), .val (.ref b2)] [(.ref x1)])) _
    refine XS.iconst X2.here hx rfl (hb hby d22_26) ?_
    show Steps p.tables e below (T2.setTop (mkF m 27 #[.val (.ref x1), .val (.int (1 : Int32)), .val (.ref m_o), .val (.ref b2)] [(.int (0 : Int32)), (.ref x1)])) _
    refine XS.aloadN X2.here hx rfl (hb hby d22_27) rfl rfl ?_
    show Steps p.tables e below (T2.setTop (mkF m 28 #[.val (.ref x1), .val (.int (1 : Int32)), .val (.ref m_o), .val (.ref b2)] [(.ref b2), (.int (0 : Int32)), (.ref x1)])) _
    refine XS.iconst X2.here hx rfl (hb hby d22_28) ?_
    show Steps p.tables e below (T2.setTop (mkF m 29 #[.val (.ref x1), .val (.int (1 : Int32)), .val (.ref m_o), .val (.ref b2)] [(.int (0 : Int32)), (.ref b2), (.int (0 : Int32)), (.ref x1)])) _
    refine XS.aloadN X2.here hx rfl (hb hby d22_29) rfl rfl ?_
    show Steps p.tables e below (T2.setTop (mkF m 30 #[.val (.ref x1), .val (.int (1 : Int32)), .val (.ref m_o), .val (.ref b2)] [(.ref x1), (.int (0 : Int32)), (.ref b2), (.int (0 : Int32)), (.ref x1)])) _
    refine X2.arraylength hx (by rw [e2]; exact Ar3.1) (State.isArrayOf_alike hZ.alike Ar3.2.1) (g := (mkF m 30 #[.val (.ref x1), .val (.int (1 : Int32)), .val (.ref m_o), .val (.ref b2)] [(.ref x1), (.int (0 : Int32)), (.ref b2), (.int (0 : Int32)), (.ref x1)])) rfl rfl (hb hby d22_30) _ ?_
    rw [len_of s3 m3]
    show Steps p.tables e below (T2.setTop (mkF m 31 #[.val (.ref x1), .val (.int (1 : Int32)), .val (.ref m_o), .val (.ref b2)] [(.int (10 : Int32)), (.int (0 : Int32)), (.ref b2), (.int (0 : Int32)), (.ref x1)])) _
    refine XS.iloadN X2.here hx rfl (hb hby d22_31) rfl ?_
    show Steps p.tables e below (T2.setTop (mkF m 32 #[.val (.ref x1), .val (.int (1 : Int32)), .val (.ref m_o), .val (.ref b2)] [(.int (1 : Int32)), (.int (10 : Int32)), (.int (0 : Int32)), (.ref b2), (.int (0 : Int32)), (.ref x1)])) _
    refine st4 _ ?_
    show Steps p.tables e below (T4.setTop (mkF m 35 #[.val (.ref x1), .val (.int (1 : Int32)), .val (.ref m_o), .val (.ref b2)] [(.int (1 : Int32)), (.int (0 : Int32)), (.ref b2), (.int (0 : Int32)), (.ref x1)])) _
    refine st5 _ ?_
    show Steps p.tables e below (T5.setTop (mkF m 38 #[.val (.ref x1), .val (.int (1 : Int32)), .val (.ref m_o), .val (.ref b2)] [])) _
    refine XS.aloadN X5.here hx rfl (hb hby d22_38) rfl rfl ?_
    show Steps p.tables e below (T5.setTop (mkF m 39 #[.val (.ref x1), .val (.int (1 : Int32)), .val (.ref m_o), .val (.ref b2)] [(.ref b2)])) _
    exact retOut X5 hx Bd.returns rfl (Or.inr (Or.inr (Or.inr (Or.inr ⟨rfl, rfl, rfl⟩)))) (hb hby d22_39) hr
  · show QC3 Z x2 h0 n0 _ T5.heap _
    rw [e5]
    exact ⟨_, _, rfl, N5, K5, sz0_b2, V5⟩
theorem d21_0 : decode jdk_65_method_119_code 0 = .ok (.aload_n 0, 1) := by decide +kernel
theorem d21_1 : decode jdk_65_method_119_code 1 = .ok (.iload_n 1, 1) := by decide +kernel
theorem d21_2 : decode jdk_65_method_119_code 2 = .ok (.aload_n 0, 1) := by decide +kernel
theorem d21_3 : decode jdk_65_method_119_code 3 = .ok (.invokevirtual 86, 3) := by decide +kernel
theorem d21_6 : decode jdk_65_method_119_code 6 = .ok (.invokestatic 300, 3) := by decide +kernel
theorem pd___Ljava_lang_Object_ILjava_lang_Class___Ljava_lang_Object_ : parseMethodDescriptor "([Ljava/lang/Object;ILjava/lang/Class;)[Ljava/lang/Object;" = some ⟨[(.array (.object "java/lang/Object")), .int, (.object "java/lang/Class")], some (.array (.object "java/lang/Object"))⟩ := by decide +kernel
theorem d21_9 : decode jdk_65_method_119_code 9 = .ok (.areturn, 1) := by decide +kernel
theorem ef_21_RI (m : MethodId) (x0 : Addr) (x1 : Int32) : entryFrame m #[(.ref x0), (.int x1)] 2 = mkF m 0 #[.val (.ref x0), .val (.int x1)] [] := by first | (simp [entryFrame, mkF, argsToLocals, Value.category]; done) | (simp [entryFrame, mkF, argsToLocals, own_cr, own_ci, own_cj]; done) | rfl
set_option maxRecDepth 65536 in
set_option maxHeartbeats 40000000 in
theorem copy_2 (l : Launch) (Z : State) (a0 : Array Value) (hw : ∀ d ∈ tables_1, d.before a0 Z = true) (ws : List Jvm.Cond) (x1 x2 m_o : Addr) (k1 : ClassId) (h0 : Heap) (n0 : Nat) (Z0 : n0 ≤ h0.size) (V_x1 : Arv Z h0 x1 k1 (.object "java/lang/Object") (10 : Int32) [.ref x2, .null, .null, .null, .null, .null, .null, .null, .null, .null] .null) (O_x2 : Obj Z h0 (.ref x2)) (M_o : Mir Z "[Ljava/lang/Object;" m_o) (E_x1 : Exa Z h0 x1 "[Ljava/lang/Object;") :
    MetFree l (⟨"java/util/Arrays", "copyOf", "([Ljava/lang/Object;I)[Ljava/lang/Object;"⟩ : MethodName) (head1 (Jvm.Cond.code (⟨"java/util/Arrays", "copyOf", "([Ljava/lang/Object;I)[Ljava/lang/Object;"⟩ : MethodName) jdk_65_method_119_code 2 (some (.array (.object "java/lang/Object"))) :: ws) ({ frames := 2, cells := 1, slots := 1, locals := 33 } : Room)) (fun a U => a = #[(.ref x1), (.int (1 : Int32))] ∧ Z.Warmed39 U.vm ∧ U.heap = h0) (fun _ _ _ _ _ => True) (fun _ U o U' => ∃ v L, o = .returned v ∧ QC3 Z x2 h0 n0 v U'.heap L ∧ FrameEnd U o U' L ({ frames := 2, cells := 1, slots := 1, locals := 33 } : Room).cells ({ frames := 2, cells := 1, slots := 1, locals := 33 } : Room).slots) := by
  refine MetFree.of_bodySF (plainFor_of_name pn_java_util_Arrays) hisR ?_
  intro p e s m args below meth c s₁ Bd hml0 hP hK
  obtain ⟨rfl, hZ, hh⟩ := hP
  have hx := Bd.exec
  have hby := Bd.bytes
  have hml : c.maxLocals = 2 := hml0
  have hown : s.vm.findClass "java/util/Arrays" = some m.cls := findClass_of_methodNamed Bd.named
  have hnm := (name_of_methodNamed Bd.named Bd.method).1
  have X0 : Stand p l e ({ frames := 2, cells := 1, slots := 1, locals := 33 } : Room) s m #[(.ref x1), (.int (1 : Int32))] below meth c s₁ [] 0 0 := Stand.of_body Bd
  have e0 : s₁.heap = h0 := by rw [← hh, Bd.state]; rfl
  have N0 := Fr.nil n0
  have pre0 : ∀ t, Steps p.tables e below (s₁.setTop (mkF m 0 #[.val (.ref x1), .val (.int (1 : Int32))] [])) t → Steps p.tables e below (s₁.setTop (entryFrame m #[(.ref x1), (.int (1 : Int32))] 2)) t := fun t k => castTop (ef_21_RI m x1 (1 : Int32)) k
  obtain ⟨T1, X1, e1, st1⟩ := gcls X0 hx hZ hown (hw _ (List.mem_of_getElem? (i := 177) rfl)) (hw _ (List.mem_of_getElem? (i := 178) rfl)) (hw _ (List.mem_of_getElem? (i := 81) rfl)) (hw _ (List.mem_of_getElem? (i := 180) rfl)) (hw _ (List.mem_of_getElem? (i := 179) rfl)) (hw _ (List.mem_of_getElem? (i := 181) rfl)) e0 E_x1 M_o (g := (mkF m 3 #[.val (.ref x1), .val (.int (1 : Int32))] [(.ref x1), (.int (1 : Int32)), (.ref x1)])) rfl (by rw [hml]; rfl) rfl (hb hby d21_3) (by decide) (W := 2) (by show 2 * 0 + _ ≤ _; exact Nat.le_of_eq rfl) (by decide)
  obtain ⟨_, _, ⟨T2, L2, k2, n2⟩, -, X2, ⟨Lc2, hQ2, l2, y2, z2⟩, st2⟩ := Jvm.LawKit.callS X1 hx (y := (⟨"java/util/Arrays", "copyOf", "([Ljava/lang/Object;ILjava/lang/Class;)[Ljava/lang/Object;"⟩ : MethodName)) hown (mvT hZ (hw _ (List.mem_of_getElem? (i := 183) rfl))) (mvT hZ (hw _ (List.mem_of_getElem? (i := 184) rfl))) (mvT hZ (hw _ (List.mem_of_getElem? (i := 175) rfl))) (mvT hZ (hw _ (List.mem_of_getElem? (i := 185) rfl))) (by decide) (backOf (W := 0) (copy_3 l Z a0 hw [] x1 x2 m_o k1 h0 n0 Z0 V_x1 O_x2 M_o) hZ (hw _ (List.mem_of_getElem? (i := 185) rfl)) (hw _ (List.mem_of_getElem? (i := 175) rfl)) (by decide) (by decide)) (g := (mkF m 6 #[.val (.ref x1), .val (.int (1 : Int32))] [(.ref m_o), (.int (1 : Int32)), (.ref x1)])) rfl (by rw [hml]; rfl) (argsL := [(.ref x1), (.int (1 : Int32)), (.ref m_o)]) (rest := []) (lenOf pd___Ljava_lang_Object_ILjava_lang_Class___Ljava_lang_Object_ rfl) rfl (by show 2 * 0 + _ ≤ _; exact Nat.le_of_eq rfl) (hb hby d21_6) (fun _ _ => ⟨rfl, e1, (by decide : 0 + 1 ≤ _), (by decide : 0 + 1 ≤ _)⟩)
  dsimp only [Pt.U, Pt.locs, Pt.cells, Pt.slots] at X2 l2 y2 z2 st2 hQ2
  subst l2 y2 z2
  obtain ⟨r2, k2r, rfl, N2q, K2q, sz_r2, V2q⟩ := hQ2
  have sz0_r2 : h0.size ≤ r2 := Nat.le_trans (Keep.refl h0 []).1 sz_r2
  have N2 := Fr.app N0 N2q
  have K2 : Keep h0 T2.heap [] := (Keep.refl h0 []).trans K2q all0
  obtain ⟨fs, hr, hrun, hended, hW, hsame⟩ := X2.leave (v := some (.ref r2)) (fun h => by rw [Bd.returns] at h; cases h)
  refine ⟨_, _, pre0 _ ?_, hrun, hended, _, _, rfl, ?_, ⟨_, rfl⟩, hW, hsame.mono (by decide) (by decide)⟩
  · show Steps p.tables e below (s₁.setTop (mkF m 0 #[.val (.ref x1), .val (.int (1 : Int32))] [])) _
    refine XS.aloadN X0.here hx rfl (hb hby d21_0) rfl rfl ?_
    show Steps p.tables e below (s₁.setTop (mkF m 1 #[.val (.ref x1), .val (.int (1 : Int32))] [(.ref x1)])) _
    refine XS.iloadN X0.here hx rfl (hb hby d21_1) rfl ?_
    show Steps p.tables e below (s₁.setTop (mkF m 2 #[.val (.ref x1), .val (.int (1 : Int32))] [(.int (1 : Int32)), (.ref x1)])) _
    refine XS.aloadN X0.here hx rfl (hb hby d21_2) rfl rfl ?_
    show Steps p.tables e below (s₁.setTop (mkF m 3 #[.val (.ref x1), .val (.int (1 : Int32))] [(.ref x1), (.int (1 : Int32)), (.ref x1)])) _
    refine st1 _ ?_
    show Steps p.tables e below (T1.setTop (mkF m 6 #[.val (.ref x1), .val (.int (1 : Int32))] [(.ref m_o), (.int (1 : Int32)), (.ref x1)])) _
    refine st2 _ ?_
    show Steps p.tables e below (T2.setTop (mkF m 9 #[.val (.ref x1), .val (.int (1 : Int32))] [(.ref r2)])) _
    exact retOut X2 hx Bd.returns rfl (Or.inr (Or.inr (Or.inr (Or.inr ⟨rfl, rfl, rfl⟩)))) (hb hby d21_9) hr
  · show QC3 Z x2 h0 n0 _ T2.heap _
    exact ⟨_, _, rfl, N2, K2, sz0_r2, V2q⟩
theorem d20_0 : decode jdk_38_method_16_code 0 = .ok (.aload_n 0, 1) := by decide +kernel
theorem d20_1 : decode jdk_38_method_16_code 1 = .ok (.getfield 9, 3) := by decide +kernel
theorem d20_4 : decode jdk_38_method_16_code 4 = .ok (.aload_n 0, 1) := by decide +kernel
theorem d20_5 : decode jdk_38_method_16_code 5 = .ok (.getfield 48, 3) := by decide +kernel
theorem d20_8 : decode jdk_38_method_16_code 8 = .ok (.invokestatic 66, 3) := by decide +kernel
theorem pd___Ljava_lang_Object_I__Ljava_lang_Object_ : parseMethodDescriptor "([Ljava/lang/Object;I)[Ljava/lang/Object;" = some ⟨[(.array (.object "java/lang/Object")), .int], some (.array (.object "java/lang/Object"))⟩ := by decide +kernel
theorem d20_11 : decode jdk_38_method_16_code 11 = .ok (.areturn, 1) := by decide +kernel
theorem ef_20_R (m : MethodId) (x0 : Addr) : entryFrame m #[(.ref x0)] 1 = mkF m 0 #[.val (.ref x0)] [] := by first | (simp [entryFrame, mkF, argsToLocals, Value.category]; done) | (simp [entryFrame, mkF, argsToLocals, own_cr, own_ci, own_cj]; done) | rfl
set_option maxRecDepth 65536 in
set_option maxHeartbeats 40000000 in
theorem to_array (l : Launch) (Z : State) (a0 : Array Value) (hw : ∀ d ∈ tables_1, d.before a0 Z = true) (ws : List Jvm.Cond) (a1 : Addr) (x1 x2 m_o : Addr) (k1 : ClassId) (h0 : Heap) (n0 : Nat) (Z0 : n0 ≤ h0.size) (F_elementData : Fld Z h0 a1 "java/util/ArrayList" "elementData" "[Ljava/lang/Object;" (.ref x1)) (F_size : Fld Z h0 a1 "java/util/ArrayList" "size" "I" (.int (1 : Int32))) (V_x1 : Arv Z h0 x1 k1 (.object "java/lang/Object") (10 : Int32) [.ref x2, .null, .null, .null, .null, .null, .null, .null, .null, .null] .null) (O_x2 : Obj Z h0 (.ref x2)) (M_o : Mir Z "[Ljava/lang/Object;" m_o) (E_x1 : Exa Z h0 x1 "[Ljava/lang/Object;") :
    MetFree l (⟨"java/util/ArrayList", "toArray", "()[Ljava/lang/Object;"⟩ : MethodName) (head1 (Jvm.Cond.code (⟨"java/util/ArrayList", "toArray", "()[Ljava/lang/Object;"⟩ : MethodName) jdk_38_method_16_code 1 (some (.array (.object "java/lang/Object"))) :: ws) ({ frames := 3, cells := 1, slots := 1, locals := 46 } : Room)) (fun a U => a = #[(.ref a1)] ∧ Z.Warmed39 U.vm ∧ U.heap = h0) (fun _ _ _ _ _ => True) (fun _ U o U' => ∃ v L, o = .returned v ∧ QC3 Z x2 h0 n0 v U'.heap L ∧ FrameEnd U o U' L ({ frames := 3, cells := 1, slots := 1, locals := 46 } : Room).cells ({ frames := 3, cells := 1, slots := 1, locals := 46 } : Room).slots) := by
  refine MetFree.of_bodySF (plainFor_of_name pn_java_util_ArrayList) hisR ?_
  intro p e s m args below meth c s₁ Bd hml0 hP hK
  obtain ⟨rfl, hZ, hh⟩ := hP
  have hx := Bd.exec
  have hby := Bd.bytes
  have hml : c.maxLocals = 1 := hml0
  have hown : s.vm.findClass "java/util/ArrayList" = some m.cls := findClass_of_methodNamed Bd.named
  have hnm := (name_of_methodNamed Bd.named Bd.method).1
  have X0 : Stand p l e ({ frames := 3, cells := 1, slots := 1, locals := 46 } : Room) s m #[(.ref a1)] below meth c s₁ [] 0 0 := Stand.of_body Bd
  have e0 : s₁.heap = h0 := by rw [← hh, Bd.state]; rfl
  have N0 := Fr.nil n0
  have pre0 : ∀ t, Steps p.tables e below (s₁.setTop (mkF m 0 #[.val (.ref a1)] [])) t → Steps p.tables e below (s₁.setTop (entryFrame m #[(.ref a1)] 1)) t := fun t k => castTop (ef_20_R m a1) k
  obtain ⟨T1, X1, e1, st1⟩ := getF X0 hx hZ hown (host := "") (Or.inl (hw _ (List.mem_of_getElem? (i := 62) rfl))) Via.refl e0 F_elementData (g := (mkF m 1 #[.val (.ref a1)] [(.ref a1)])) rfl rfl (hb hby d20_1)
  obtain ⟨T2, X2, e2, st2⟩ := getF X1 hx hZ hown (host := "") (Or.inl (hw _ (List.mem_of_getElem? (i := 92) rfl))) Via.refl e1 F_size (g := (mkF m 5 #[.val (.ref a1)] [(.ref a1), (.ref x1)])) rfl rfl (hb hby d20_5)
  obtain ⟨_, _, ⟨T3, L3, k3, n3⟩, -, X3, ⟨Lc3, hQ3, l3, y3, z3⟩, st3⟩ := Jvm.LawKit.callS X2 hx (y := (⟨"java/util/Arrays", "copyOf", "([Ljava/lang/Object;I)[Ljava/lang/Object;"⟩ : MethodName)) hown (mvT hZ (hw _ (List.mem_of_getElem? (i := 173) rfl))) (mvT hZ (hw _ (List.mem_of_getElem? (i := 174) rfl))) (mvT hZ (hw _ (List.mem_of_getElem? (i := 175) rfl))) (mvT hZ (hw _ (List.mem_of_getElem? (i := 176) rfl))) (by decide) (backOf (W := 0) (copy_2 l Z a0 hw [] x1 x2 m_o k1 h0 n0 Z0 V_x1 O_x2 M_o E_x1) hZ (hw _ (List.mem_of_getElem? (i := 176) rfl)) (hw _ (List.mem_of_getElem? (i := 175) rfl)) (by decide) (by decide)) (g := (mkF m 8 #[.val (.ref a1)] [(.int (1 : Int32)), (.ref x1)])) rfl (by rw [hml]; rfl) (argsL := [(.ref x1), (.int (1 : Int32))]) (rest := []) (lenOf pd___Ljava_lang_Object_I__Ljava_lang_Object_ rfl) rfl (by show 2 * 0 + _ ≤ _; exact Nat.le_of_eq rfl) (hb hby d20_8) (fun _ _ => ⟨rfl, e2, (by decide : 0 + 1 ≤ _), (by decide : 0 + 1 ≤ _)⟩)
  dsimp only [Pt.U, Pt.locs, Pt.cells, Pt.slots] at X3 l3 y3 z3 st3 hQ3
  subst l3 y3 z3
  obtain ⟨r3, k3r, rfl, N3q, K3q, sz_r3, V3q⟩ := hQ3
  have sz0_r3 : h0.size ≤ r3 := Nat.le_trans (Keep.refl h0 []).1 sz_r3
  have N3 := Fr.app N0 N3q
  have K3 : Keep h0 T3.heap [] := (Keep.refl h0 []).trans K3q all0
  obtain ⟨fs, hr, hrun, hended, hW, hsame⟩ := X3.leave (v := some (.ref r3)) (fun h => by rw [Bd.returns] at h; cases h)
  refine ⟨_, _, pre0 _ ?_, hrun, hended, _, _, rfl, ?_, ⟨_, rfl⟩, hW, hsame.mono (by decide) (by decide)⟩
  · show Steps p.tables e below (s₁.setTop (mkF m 0 #[.val (.ref a1)] [])) _
    refine XS.aloadN X0.here hx rfl (hb hby d20_0) rfl rfl ?_
    show Steps p.tables e below (s₁.setTop (mkF m 1 #[.val (.ref a1)] [(.ref a1)])) _
    refine st1 _ ?_
    show Steps p.tables e below (T1.setTop (mkF m 4 #[.val (.ref a1)] [(.ref x1)])) _
    refine XS.aloadN X1.here hx rfl (hb hby d20_4) rfl rfl ?_
    show Steps p.tables e below (T1.setTop (mkF m 5 #[.val (.ref a1)] [(.ref a1), (.ref x1)])) _
    refine st2 _ ?_
    show Steps p.tables e below (T2.setTop (mkF m 8 #[.val (.ref a1)] [(.int (1 : Int32)), (.ref x1)])) _
    refine st3 _ ?_
    show Steps p.tables e below (T3.setTop (mkF m 11 #[.val (.ref a1)] [(.ref r3)])) _
    exact retOut X3 hx Bd.returns rfl (Or.inr (Or.inr (Or.inr (Or.inr ⟨rfl, rfl, rfl⟩)))) (hb hby d20_11) hr
  · show QC3 Z x2 h0 n0 _ T3.heap _
    exact ⟨_, _, rfl, N3, K3, sz0_r3, V3q⟩
theorem d25_0 : decode jdk_44_method_1_code 0 = .ok (.aload_n 0, 1) := by decide +kernel
theorem d25_1 : decode jdk_44_method_1_code 1 = .ok (.invokespecial 1, 3) := by decide +kernel
theorem d25_4 : decode jdk_44_method_1_code 4 = .ok (.aload_n 0, 1) := by decide +kernel
theorem d25_5 : decode jdk_44_method_1_code 5 = .ok (.aload_n 1, 1) := by decide +kernel
theorem d25_6 : decode jdk_44_method_1_code 6 = .ok (.invokestatic 7, 3) := by decide +kernel
theorem d25_9 : decode jdk_44_method_1_code 9 = .ok (.putfield 13, 3) := by decide +kernel
theorem d25_12 : decode jdk_44_method_1_code 12 = .ok (.aload_n 0, 1) := by decide +kernel
theorem d25_13 : decode jdk_44_method_1_code 13 = .ok (.getstatic 19, 3) := by decide +kernel
theorem d25_16 : decode jdk_44_method_1_code 16 = .ok (.putfield 24, 3) := by decide +kernel
theorem d25_19 : decode jdk_44_method_1_code 19 = .ok (.return_, 1) := by decide +kernel
theorem ef_25_RR (m : MethodId) (x0 : Addr) (x1 : Addr) : entryFrame m #[(.ref x0), (.ref x1)] 2 = mkF m 0 #[.val (.ref x0), .val (.ref x1)] [] := by first | (simp [entryFrame, mkF, argsToLocals, Value.category]; done) | (simp [entryFrame, mkF, argsToLocals, own_cr, own_ci, own_cj]; done) | rfl
theorem pn_java_util_ImmutableCollections_List12 : plainName "java/util/ImmutableCollections$List12" = true := by first | (simp [plainName, overriddenIn]; done) | decide +kernel
set_option maxRecDepth 65536 in
set_option maxHeartbeats 40000000 in
theorem l12_init (l : Launch) (Z : State) (a0 : Array Value) (hw : ∀ d ∈ tables_1, d.before a0 Z = true) (ws : List Jvm.Cond) (a1 x2 w_em : Addr) (h0 : Heap) (n0 : Nat) (Z0 : n0 ≤ h0.size) (F_e0 : Fld Z h0 a1 "java/util/ImmutableCollections$List12" "e0" "Ljava/lang/Object;" .null) (F_e1 : Fld Z h0 a1 "java/util/ImmutableCollections$List12" "e1" "Ljava/lang/Object;" .null) (E_a1 : Exa Z h0 a1 "java/util/ImmutableCollections$List12") (g_a1 : n0 ≤ a1) (S_em : Sta Z h0 "java/util/ImmutableCollections" "EMPTY" "Ljava/lang/Object;" (.ref w_em)) :
    MetFree l (⟨"java/util/ImmutableCollections$List12", "<init>", "(Ljava/lang/Object;)V"⟩ : MethodName) (head1 (Jvm.Cond.code (⟨"java/util/ImmutableCollections$List12", "<init>", "(Ljava/lang/Object;)V"⟩ : MethodName) jdk_44_method_1_code 2 none :: ws) ({ frames := 4, cells := 0, slots := 0, locals := 48 } : Room)) (fun a U => a = #[(.ref a1), (.ref x2)] ∧ Z.Warmed39 U.vm ∧ U.heap = h0) (fun _ _ _ _ _ => True) (fun _ U o U' => ∃ v L, o = .returned v ∧ QTw Z a1 w_em h0 n0 v U'.heap L ∧ FrameEnd U o U' L ({ frames := 4, cells := 0, slots := 0, locals := 48 } : Room).cells ({ frames := 4, cells := 0, slots := 0, locals := 48 } : Room).slots) := by
  refine MetFree.of_bodySF (plainFor_of_name pn_java_util_ImmutableCollections_List12) hisR ?_
  intro p e s m args below meth c s₁ Bd hml0 hP hK
  obtain ⟨rfl, hZ, hh⟩ := hP
  have hx := Bd.exec
  have hby := Bd.bytes
  have hml : c.maxLocals = 2 := hml0
  have hown : s.vm.findClass "java/util/ImmutableCollections$List12" = some m.cls := findClass_of_methodNamed Bd.named
  have hnm := (name_of_methodNamed Bd.named Bd.method).1
  have X0 : Stand p l e ({ frames := 4, cells := 0, slots := 0, locals := 48 } : Room) s m #[(.ref a1), (.ref x2)] below meth c s₁ [] 0 0 := Stand.of_body Bd
  have e0 : s₁.heap = h0 := by rw [← hh, Bd.state]; rfl
  have N0 := Fr.nil n0
  have pre0 : ∀ t, Steps p.tables e below (s₁.setTop (mkF m 0 #[.val (.ref a1), .val (.ref x2)] [])) t → Steps p.tables e below (s₁.setTop (entryFrame m #[(.ref a1), (.ref x2)] 2)) t := fun t k => castTop (ef_25_RR m a1 x2) k
  obtain ⟨_, _, ⟨T1, L1, k1, n1⟩, -, X1, ⟨Lc1, hQ1, l1, y1, z1⟩, st1⟩ := X0.specialBack hx (y := (⟨"java/util/ImmutableCollections$AbstractImmutableList", "<init>", "()V"⟩ : MethodName)) rfl hown (mvT hZ (hw _ (List.mem_of_getElem? (i := 205) rfl))) (mvT hZ (hw _ (List.mem_of_getElem? (i := 206) rfl))) (mvT hZ (hw _ (List.mem_of_getElem? (i := 210) rfl))) (by decide) (backOf (W := 0) (sup_26 l Z a0 hw [] a1 h0 n0 Z0 ) hZ (hw _ (List.mem_of_getElem? (i := 210) rfl)) (hw _ (List.mem_of_getElem? (i := 209) rfl)) (by decide) (by decide)) (g := (mkF m 1 #[.val (.ref a1), .val (.ref x2)] [(.ref a1)])) rfl (by rw [hml]; rfl) (Steps.refl _) (a := a1) (argsL := []) (rest := []) (lenOf pd___V rfl) rfl (by show 2 * 0 + _ ≤ _; exact Nat.le_of_eq rfl) (hb hby d25_1) (fun _ _ => ⟨rfl, e0, (by decide : 0 + 0 ≤ _), (by decide : 0 + 0 ≤ _)⟩)
  dsimp only [Pt.U, Pt.locs, Pt.cells, Pt.slots] at X1 l1 y1 z1 st1 hQ1
  subst l1 y1 z1
  obtain ⟨rfl, N1q, e1⟩ := hQ1
  have N1 := Fr.app N0 N1q
  obtain ⟨_, _, ⟨T2, L2, k2, n2⟩, -, X2, ⟨Lc2, hQ2, l2, y2, z2⟩, st2⟩ := Jvm.LawKit.callS X1 hx (y := (⟨"java/util/Objects", "requireNonNull", "(Ljava/lang/Object;)Ljava/lang/Object;"⟩ : MethodName)) hown (mvT hZ (hw _ (List.mem_of_getElem? (i := 219) rfl))) (mvT hZ (hw _ (List.mem_of_getElem? (i := 29) rfl))) (mvT hZ (hw _ (List.mem_of_getElem? (i := 30) rfl))) (mvT hZ (hw _ (List.mem_of_getElem? (i := 31) rfl))) (by decide) (backOf (W := 1) (rnn l Z a0 hw [] x2 h0 n0 Z0 ) hZ (hw _ (List.mem_of_getElem? (i := 31) rfl)) (hw _ (List.mem_of_getElem? (i := 30) rfl)) (by decide) (by decide)) (g := (mkF m 6 #[.val (.ref a1), .val (.ref x2)] [(.ref x2), (.ref a1)])) rfl (by rw [hml]; rfl) (argsL := [(.ref x2)]) (rest := [(.ref a1)]) (lenOf pd__Ljava_lang_Object__Ljava_lang_Object_ rfl) rfl (by show 2 * 0 + _ ≤ _; exact Nat.le_of_eq rfl) (hb hby d25_6) (fun _ _ => ⟨rfl, e1, (by decide : 0 + 0 ≤ _), (by decide : 0 + 0 ≤ _)⟩)
  dsimp only [Pt.U, Pt.locs, Pt.cells, Pt.slots] at X2 l2 y2 z2 st2 hQ2
  subst l2 y2 z2
  obtain ⟨rfl, N2q, e2⟩ := hQ2
  have N2 := Fr.app N1 N2q
  obtain ⟨T3, h3, X3, e3, W3, st3⟩ := putF X2 hx hZ hown (host := "") (Or.inl (hw _ (List.mem_of_getElem? (i := 220) rfl))) Via.refl e2 F_e0 E_a1 (Or.inr ⟨(hw _ (List.mem_of_getElem? (i := 221) rfl)), rfl, hnm⟩) (hw _ (List.mem_of_getElem? (i := 199) rfl)) (ty := (.object "java/lang/Object")) (by decide) rfl rfl (g := (mkF m 9 #[.val (.ref a1), .val (.ref x2)] [(.ref x2), (.ref a1)])) rfl rfl (hb hby d25_9)
  have F3_e0 := F_e0.same W3
  have F3_e1 := F_e1.other W3 (Or.inr (slot_ne (Or.inr (hw _ (List.mem_of_getElem? (i := 224) rfl))) (Or.inr (hw _ (List.mem_of_getElem? (i := 221) rfl))) (by decide) (t := (.object "java/lang/Object")) (t' := (.object "java/lang/Object")) (by decide) (by decide)))
  have E3_a1 := E_a1.wr W3
  have K3 : Keep h0 h3 [a1] := (Keep.refl h0 [a1]).wr W3 (Or.inl (List.mem_of_getElem? (i := 0) rfl))
  have N3 := Fr.snoc X3 N2 g_a1
  obtain ⟨T4, X4, e4, st4⟩ := getS2 X3 hx hZ hown (Or.inr (hw _ (List.mem_of_getElem? (i := 222) rfl))) Via.refl e3 (own_sta_keep1 S_em E_a1 K3) (g := (mkF m 13 #[.val (.ref a1), .val (.ref x2)] [(.ref a1)])) rfl (hb hby d25_13)
  obtain ⟨T5, h5, X5, e5, W5, st5⟩ := putF X4 hx hZ hown (host := "") (Or.inl (hw _ (List.mem_of_getElem? (i := 223) rfl))) Via.refl e4 F3_e1 E3_a1 (Or.inr ⟨(hw _ (List.mem_of_getElem? (i := 224) rfl)), rfl, hnm⟩) (hw _ (List.mem_of_getElem? (i := 199) rfl)) (ty := (.object "java/lang/Object")) (by decide) rfl rfl (g := (mkF m 16 #[.val (.ref a1), .val (.ref x2)] [(.ref w_em), (.ref a1)])) rfl rfl (hb hby d25_16)
  have F5_e0 := F3_e0.other W5 (Or.inr (slot_ne (Or.inr (hw _ (List.mem_of_getElem? (i := 221) rfl))) (Or.inr (hw _ (List.mem_of_getElem? (i := 224) rfl))) (by decide) (t := (.object "java/lang/Object")) (t' := (.object "java/lang/Object")) (by decide) (by decide)))
  have F5_e1 := F3_e1.same W5
  have E5_a1 := E3_a1.wr W5
  have K5 : Keep h0 h5 [a1] := K3.wr W5 (Or.inl (List.mem_of_getElem? (i := 0) rfl))
  have N5 := Fr.snoc X5 N3 g_a1
  obtain ⟨fs, hr, hrun, hended, hW, hsame⟩ := X5.leave (v := none) (fun _ => rfl)
  refine ⟨_, _, pre0 _ ?_, hrun, hended, _, _, rfl, ?_, ⟨_, rfl⟩, hW, hsame.mono (by decide) (by decide)⟩
  · show Steps p.tables e below (s₁.setTop (mkF m 0 #[.val (.ref a1), .val (.ref x2)] [])) _
    refine XS.aloadN X0.here hx rfl (hb hby d25_0) rfl rfl ?_
    show Steps p.tables e below (s₁.setTop (mkF m 1 #[.val (.ref a1), .val (.ref x2)] [(.ref a1)])) _
    refine st1.trans ?_
    show Steps p.tables e below (T1.setTop (mkF m 4 #[.val (.ref a1), .val (.ref x2)] [])) _
    refine XS.aloadN X1.here hx rfl (hb hby d25_4) rfl rfl ?_
    show Steps p.tables e below (T1.setTop (mkF m 5 #[.val (.ref a1), .val (.ref x2)] [(.ref a1)])) _
    refine XS.aloadN X1.here hx rfl (hb hby d25_5) rfl rfl ?_
    show Steps p.tables e below (T1.setTop (mkF m 6 #[.val (.ref a1), .val (.ref x2)] [(.ref x2), (.ref a1)])) _
    refine st2 _ ?_
    show Steps p.tables e below (T2.setTop (mkF m 9 #[.val (.ref a1), .val (.ref x2)] [(.ref x2), (.ref a1)])) _
    refine st3 _ ?_
    show Steps p.tables e below (T3.setTop (mkF m 12 #[.val (.ref a1), .val (.ref x2)] [])) _
    refine XS.aloadN X3.here hx rfl (hb hby d25_12) rfl rfl ?_
    show Steps p.tables e below (T3.setTop (mkF m 13 #[.val (.ref a1), .val (.ref x2)] [(.ref a1)])) _
    refine st4 _ ?_
    show Steps p.tables e below (T4.setTop (mkF m 16 #[.val (.ref a1), .val (.ref x2)] [(.ref w_em), (.ref a1)])) _
    refine st5 _ ?_
    show Steps p.tables e below (T5.setTop (mkF m 19 #[.val (.ref a1), .val (.ref x2)] [])) _
    exact X5.returnOut hx Bd.returns (hb hby d25_19) hr
  · show QTw Z a1 w_em h0 n0 _ T5.heap _
    rw [e5]
    exact ⟨rfl, N5, K5, E5_a1, F5_e1⟩
theorem d24_0 : decode jdk_40_method_47_code 0 = .ok (.aload_n 0, 1) := by decide +kernel
theorem d24_1 : decode jdk_40_method_47_code 1 = .ok (.arraylength, 1) := by decide +kernel
theorem d24_2 : decode jdk_40_method_47_code 2 = .ok (.tableswitch 57 0 2 #[26, 32, 43], 26) := by decide +kernel
theorem d24_34 : decode jdk_40_method_47_code 34 = .ok (.new 96, 3) := by decide +kernel
theorem d24_37 : decode jdk_40_method_47_code 37 = .ok (.dup, 1) := by decide +kernel
theorem d24_38 : decode jdk_40_method_47_code 38 = .ok (.aload_n 0, 1) := by decide +kernel
theorem d24_39 : decode jdk_40_method_47_code 39 = .ok (.iconst 0, 1) := by decide +kernel
theorem d24_40 : decode jdk_40_method_47_code 40 = .ok (.aaload, 1) := by decide +kernel
theorem d24_41 : decode jdk_40_method_47_code 41 = .ok (.invokespecial 98, 3) := by decide +kernel
theorem pd__Ljava_lang_Object__V : parseMethodDescriptor "(Ljava/lang/Object;)V" = some ⟨[(.object "java/lang/Object")], none⟩ := by decide +kernel
theorem d24_44 : decode jdk_40_method_47_code 44 = .ok (.areturn, 1) := by decide +kernel
theorem ef_24_R (m : MethodId) (x0 : Addr) : entryFrame m #[(.ref x0)] 2 = mkF m 0 #[.val (.ref x0), .unset] [] := by first | (simp [entryFrame, mkF, argsToLocals, Value.category]; done) | (simp [entryFrame, mkF, argsToLocals, own_cr, own_ci, own_cj]; done) | rfl
set_option maxRecDepth 65536 in
set_option maxHeartbeats 40000000 in
theorem list_of1 (l : Launch) (Z : State) (a0 : Array Value) (hw : ∀ d ∈ tables_1, d.before a0 Z = true) (ws : List Jvm.Cond) (y1 x2 w_em : Addr) (k1 : ClassId) (h0 : Heap) (n0 : Nat) (Z0 : n0 ≤ h0.size) (V_y1 : Arv Z h0 y1 k1 (.object "java/lang/Object") (1 : Int32) [.ref x2] .null) (S_em : Sta Z h0 "java/util/ImmutableCollections" "EMPTY" "Ljava/lang/Object;" (.ref w_em)) :
    MetFree l (⟨"java/util/List", "of", "([Ljava/lang/Object;)Ljava/util/List;"⟩ : MethodName) (head1 (Jvm.Cond.code (⟨"java/util/List", "of", "([Ljava/lang/Object;)Ljava/util/List;"⟩ : MethodName) jdk_40_method_47_code 2 (some (.object "java/util/List")) :: ws) ({ frames := 5, cells := 1, slots := 2, locals := 62 } : Room)) (fun a U => a = #[(.ref y1)] ∧ Z.Warmed39 U.vm ∧ U.heap = h0) (fun _ _ _ _ _ => True) (fun _ U o U' => ∃ v L, o = .returned v ∧ QLo Z w_em h0 n0 v U'.heap L ∧ FrameEnd U o U' L ({ frames := 5, cells := 1, slots := 2, locals := 62 } : Room).cells ({ frames := 5, cells := 1, slots := 2, locals := 62 } : Room).slots) := by
  refine MetFree.of_bodySF (plainFor_of_name pn_java_util_List) hisR ?_
  intro p e s m args below meth c s₁ Bd hml0 hP hK
  obtain ⟨rfl, hZ, hh⟩ := hP
  have hx := Bd.exec
  have hby := Bd.bytes
  have hml : c.maxLocals = 2 := hml0
  have hown : s.vm.findClass "java/util/List" = some m.cls := findClass_of_methodNamed Bd.named
  have hnm := (name_of_methodNamed Bd.named Bd.method).1
  have X0 : Stand p l e ({ frames := 5, cells := 1, slots := 2, locals := 62 } : Room) s m #[(.ref y1)] below meth c s₁ [] 0 0 := Stand.of_body Bd
  have e0 : s₁.heap = h0 := by rw [← hh, Bd.state]; rfl
  have N0 := Fr.nil n0
  have pre0 : ∀ t, Steps p.tables e below (s₁.setTop (mkF m 0 #[.val (.ref y1), .unset] [])) t → Steps p.tables e below (s₁.setTop (entryFrame m #[(.ref y1)] 2)) t := fun t k => castTop (ef_24_R m y1) k
  obtain ⟨cl1, Ar1, q1, s1, m1, H1, F1⟩ := (id V_y1)
  obtain ⟨T2, h2, X2, e2, E2, A2, D2, -, st2⟩ := newO X0 hx hZ hown (hw _ (List.mem_of_getElem? (i := 198) rfl)) (hw _ (List.mem_of_getElem? (i := 199) rfl)) (hw _ (List.mem_of_getElem? (i := 200) rfl)) e0 (g := (mkF m 34 #[.val (.ref y1), .unset] [])) rfl (hb hby d24_34) (by decide) (by decide)
  obtain ⟨b2, gg2⟩ : ∃ z, z = h0.size := ⟨_, rfl⟩
  rw [← gg2] at A2 D2 st2
  have sz_b2 : h0.size ≤ b2 := Nat.le_of_eq gg2.symm
  have sz0_b2 : h0.size ≤ b2 := Nat.le_trans (Keep.refl h0 []).1 sz_b2
  have g_b2 : n0 ≤ b2 := Nat.le_trans Z0 sz0_b2
  have K2q : Keep h0 h2 [] := (Keep.refl _ []).ext E2
  have K2 : Keep h0 h2 [] := (Keep.refl h0 []).ext E2
  have F2_e0 : Fld Z h2 b2 "java/util/ImmutableCollections$List12" "e0" "Ljava/lang/Object;" .null := D2 (Or.inr (hw _ (List.mem_of_getElem? (i := 221) rfl))) (ty := (.object "java/lang/Object")) (by decide)
  have F2_e1 : Fld Z h2 b2 "java/util/ImmutableCollections$List12" "e1" "Ljava/lang/Object;" .null := D2 (Or.inr (hw _ (List.mem_of_getElem? (i := 224) rfl))) (ty := (.object "java/lang/Object")) (by decide)
  obtain ⟨cl3, Ar3, q3, s3, m3, H3, F3⟩ := (id (V_y1.keep K2q nin0))
  have hin3 : ¬ ((0 : Int32) < 0 ∨ cl3.slots.size ≤ ((0 : Int32)).toNatClampNeg) := inb_of s3 ⟨by decide, by decide⟩
  have hat3 : cl3.slots[((0 : Int32)).toNatClampNeg]? = some (.ref x2) := H3.at hin3 rfl
  obtain ⟨_, _, ⟨T4, L4, k4, n4⟩, -, X4, ⟨Lc4, hQ4, l4, y4, z4⟩, st4⟩ := X2.specialBack hx (y := (⟨"java/util/ImmutableCollections$List12", "<init>", "(Ljava/lang/Object;)V"⟩ : MethodName)) rfl hown (mvT hZ (hw _ (List.mem_of_getElem? (i := 201) rfl))) (mvT hZ (hw _ (List.mem_of_getElem? (i := 202) rfl))) (mvT hZ (hw _ (List.mem_of_getElem? (i := 204) rfl))) (by decide) (backOf (W := 1) (l12_init l Z a0 hw [] b2 x2 w_em h2 n0 (Nat.le_trans Z0 K2.1) F2_e0 F2_e1 A2 g_b2 (own_sta_keep S_em K2)) hZ (hw _ (List.mem_of_getElem? (i := 204) rfl)) (hw _ (List.mem_of_getElem? (i := 200) rfl)) (by decide) (by decide)) (g := (mkF m 41 #[.val (.ref y1), .unset] [(.ref x2), (.ref b2), (.ref b2)])) rfl (by rw [hml]; rfl) (Steps.refl _) (a := b2) (argsL := [(.ref x2)]) (rest := [(.ref b2)]) (lenOf pd__Ljava_lang_Object__V rfl) rfl (by show 2 * 0 + _ ≤ _; exact Nat.le_of_eq rfl) (hb hby d24_41) (fun _ _ => ⟨rfl, e2, (by decide : 1 + 0 ≤ _), (by decide : 2 + 0 ≤ _)⟩)
  dsimp only [Pt.U, Pt.locs, Pt.cells, Pt.slots] at X4 l4 y4 z4 st4 hQ4
  subst l4 y4 z4
  obtain ⟨rfl, N4q, K4q, E4q, F4q⟩ := hQ4
  have N4 := Fr.app N0 N4q
  have K4 : Keep h0 T4.heap [] := K2.trans K4q (allS (Or.inr sz0_b2) all0)
  obtain ⟨fs, hr, hrun, hended, hW, hsame⟩ := X4.leave (v := some (.ref b2)) (fun h => by rw [Bd.returns] at h; cases h)
  refine ⟨_, _, pre0 _ ?_, hrun, hended, _, _, rfl, ?_, ⟨_, rfl⟩, hW, hsame.mono (by decide) (by decide)⟩
  · show Steps p.tables e below (s₁.setTop (mkF m 0 #[.val (.ref y1), .unset] [])) _
    refine XS.aloadN X0.here hx rfl (hb hby d24_0) rfl rfl ?_
    show Steps p.tables e below (s₁.setTop (mkF m 1 #[.val (.ref y1), .unset] [(.ref y1)])) _
    refine X0.arraylength hx (by rw [e0]; exact Ar1.1) (State.isArrayOf_alike hZ.alike Ar1.2.1) (g := (mkF m 1 #[.val (.ref y1), .unset] [(.ref y1)])) rfl rfl (hb hby d24_1) _ ?_
    rw [len_of s1 m1]
    show Steps p.tables e below (s₁.setTop (mkF m 2 #[.val (.ref y1), .unset] [(.int (1 : Int32))])) _
    refine XS.tswIn X0.here hx rfl (pc0 := 2) (pc' := 34) rfl (hb hby d24_2) rfl (by decide) (o := 32) (by decide) (by decide) (by decide) ?_
    show Steps p.tables e below (s₁.setTop (mkF m 34 #[.val (.ref y1), .unset] [])) _
    refine st2 _ ?_
    show Steps p.tables e below (T2.setTop (mkF m 37 #[.val (.ref y1), .unset] [(.ref b2)])) _
    refine XS.dup X2.here hx rfl (hb hby d24_37) rfl rfl ?_
    show Steps p.tables e below (T2.setTop (mkF m 38 #[.val (.ref y1), .unset] [(.ref b2), (.ref b2)])) _
    refine XS.aloadN X2.here hx rfl (hb hby d24_38) rfl rfl ?_
    show Steps p.tables e below (T2.setTop (mkF m 39 #[.val (.ref y1), .unset] [(.ref y1), (.ref b2), (.ref b2)])) _
    refine XS.iconst X2.here hx rfl (hb hby d24_39) ?_
    show Steps p.tables e below (T2.setTop (mkF m 40 #[.val (.ref y1), .unset] [(.int (0 : Int32)), (.ref y1), (.ref b2), (.ref b2)])) _
    refine X2.aaload hx (j := (0 : Int32)) (v := (.ref x2)) (by rw [e2]; exact Ar3.1) (State.isArrayOf_alike hZ.alike Ar3.2.1) rfl Ar3.2.2 hin3 hat3 (g := (mkF m 40 #[.val (.ref y1), .unset] [(.int (0 : Int32)), (.ref y1), (.ref b2), (.ref b2)])) rfl rfl (hb hby d24_40) _ ?_
    show Steps p.tables e below (T2.setTop (mkF m 41 #[.val (.ref y1), .unset] [(.ref x2), (.ref b2), (.ref b2)])) _
    refine st4.trans ?_
    show Steps p.tables e below (T4.setTop (mkF m 44 #[.val (.ref y1), .unset] [(.ref b2)])) _
    exact retOut X4 hx Bd.returns rfl (Or.inr (Or.inr (Or.inr (Or.inr ⟨rfl, rfl, rfl⟩)))) (hb hby d24_44) hr
  · show QLo Z w_em h0 n0 _ T4.heap _
    exact ⟨_, rfl, N4, K4, sz0_b2, E4q, F4q⟩
theorem d10_44 : decode jdk_56_method_3_code 44 = .ok (.aload_n 0, 1) := by decide +kernel
theorem d10_45 : decode jdk_56_method_3_code 45 = .ok (.invokeinterface 30 1, 5) := by decide +kernel
theorem d10_50 : decode jdk_56_method_3_code 50 = .ok (.invokestatic 34, 3) := by decide +kernel
theorem pd___Ljava_lang_Object__Ljava_util_List_ : parseMethodDescriptor "([Ljava/lang/Object;)Ljava/util/List;" = some ⟨[(.array (.object "java/lang/Object"))], some (.object "java/util/List")⟩ := by decide +kernel
theorem d10_53 : decode jdk_56_method_3_code 53 = .ok (.areturn, 1) := by decide +kernel
set_option maxRecDepth 65536 in
set_option maxHeartbeats 40000000 in
theorem list_copy1 (l : Launch) (Z : State) (a0 : Array Value) (hw : ∀ d ∈ tables_1, d.before a0 Z = true) (ws : List Jvm.Cond) (a1 : Addr) (x1 x2 m_o w_em : Addr) (k1 : ClassId) (h0 : Heap) (n0 : Nat) (Z0 : n0 ≤ h0.size) (E_a1 : Exa Z h0 a1 "java/util/ArrayList") (F_elementData : Fld Z h0 a1 "java/util/ArrayList" "elementData" "[Ljava/lang/Object;" (.ref x1)) (F_size : Fld Z h0 a1 "java/util/ArrayList" "size" "I" (.int (1 : Int32))) (V_x1 : Arv Z h0 x1 k1 (.object "java/lang/Object") (10 : Int32) [.ref x2, .null, .null, .null, .null, .null, .null, .null, .null, .null] .null) (O_x2 : Obj Z h0 (.ref x2)) (M_o : Mir Z "[Ljava/lang/Object;" m_o) (E_x1 : Exa Z h0 x1 "[Ljava/lang/Object;") (S_em : Sta Z h0 "java/util/ImmutableCollections" "EMPTY" "Ljava/lang/Object;" (.ref w_em)) :
    MetFree l (⟨"java/util/ImmutableCollections", "listCopy", "(Ljava/util/Collection;)Ljava/util/List;"⟩ : MethodName) (head1 (Jvm.Cond.code (⟨"java/util/ImmutableCollections", "listCopy", "(Ljava/util/Collection;)Ljava/util/List;"⟩ : MethodName) jdk_56_method_3_code 2 (some (.object "java/util/List")) :: ws) ({ frames := 6, cells := 2, slots := 3, locals := 75 } : Room)) (fun a U => a = #[(.ref a1)] ∧ Z.Warmed39 U.vm ∧ U.heap = h0) (fun _ _ _ _ _ => True) (fun _ U o U' => ∃ v L, o = .returned v ∧ QLo Z w_em h0 n0 v U'.heap L ∧ FrameEnd U o U' L ({ frames := 6, cells := 2, slots := 3, locals := 75 } : Room).cells ({ frames := 6, cells := 2, slots := 3, locals := 75 } : Room).slots) := by
  refine MetFree.of_bodySF (plainFor_of_name pn_java_util_ImmutableCollections) hisR ?_
  intro p e s m args below meth c s₁ Bd hml0 hP hK
  obtain ⟨rfl, hZ, hh⟩ := hP
  have hx := Bd.exec
  have hby := Bd.bytes
  have hml : c.maxLocals = 2 := hml0
  have hown : s.vm.findClass "java/util/ImmutableCollections" = some m.cls := findClass_of_methodNamed Bd.named
  have hnm := (name_of_methodNamed Bd.named Bd.method).1
  have X0 : Stand p l e ({ frames := 6, cells := 2, slots := 3, locals := 75 } : Room) s m #[(.ref a1)] below meth c s₁ [] 0 0 := Stand.of_body Bd
  have e0 : s₁.heap = h0 := by rw [← hh, Bd.state]; rfl
  have N0 := Fr.nil n0
  have pre0 : ∀ t, Steps p.tables e below (s₁.setTop (mkF m 0 #[.val (.ref a1), .unset] [])) t → Steps p.tables e below (s₁.setTop (entryFrame m #[(.ref a1)] 2)) t := fun t k => castTop (ef_10_R m a1) k
  obtain ⟨T1, X1, e1, st1⟩ := instNo X0 hx hZ hown (hw _ (List.mem_of_getElem? (i := 77) rfl)) e0 E_a1 (own_not12 hw) (g := (mkF m 1 #[.val (.ref a1), .unset] [(.ref a1)])) rfl rfl (hb hby d10_1)
  obtain ⟨T2, X2, e2, st2⟩ := instNo X1 hx hZ hown (hw _ (List.mem_of_getElem? (i := 82) rfl)) e1 E_a1 (own_notN hw) (g := (mkF m 8 #[.val (.ref a1), .unset] [(.ref a1)])) rfl rfl (hb hby d10_8)
  obtain ⟨cq3, kq3, q3a, q3b, q3c⟩ := isOf hZ e2 E_a1
  obtain ⟨_, _, ⟨T3, L3, k3, n3⟩, -, X3, ⟨Lc3, hQ3, l3, y3, z3⟩, st3⟩ := X2.interfaceBack hx (xi := (⟨"java/util/Collection", "isEmpty", "()Z"⟩ : MethodName)) (y := (⟨"java/util/ArrayList", "isEmpty", "()Z"⟩ : MethodName)) hown (mvT hZ (hw _ (List.mem_of_getElem? (i := 83) rfl))) (mvT hZ (hw _ (List.mem_of_getElem? (i := 84) rfl))) (mvT hZ (hw _ (List.mem_of_getElem? (i := 85) rfl))) (mvT hZ (hw _ (List.mem_of_getElem? (i := 86) rfl))) (mvT hZ (hw _ (List.mem_of_getElem? (i := 87) rfl))) (mvT hZ (hw _ (List.mem_of_getElem? (i := 88) rfl))) (mvT hZ (hw _ (List.mem_of_getElem? (i := 89) rfl))) (mvT hZ (hw _ (List.mem_of_getElem? (i := 90) rfl))) (by decide) (backOf (W := 0) (is_empty1 l Z a0 hw [] a1 h0 n0 Z0 F_size) hZ (hw _ (List.mem_of_getElem? (i := 91) rfl)) (hw _ (List.mem_of_getElem? (i := 42) rfl)) (by decide) (by decide)) q3a q3b q3c (g := (mkF m 32 #[.val (.ref a1), .unset] [(.ref a1)])) rfl (by rw [hml]; rfl) (Steps.refl _) (argsL := []) (rest := []) (lenOf pd___Z rfl) rfl (by show 2 * 0 + _ ≤ _; exact Nat.le_of_eq rfl) (hb hby d10_32) (fun _ _ => ⟨rfl, e2, (by decide : 0 + 0 ≤ _), (by decide : 0 + 0 ≤ _)⟩)
  dsimp only [Pt.U, Pt.locs, Pt.cells, Pt.slots] at X3 l3 y3 z3 st3 hQ3
  subst l3 y3 z3
  obtain ⟨rfl, N3q, e3⟩ := hQ3
  have N3 := Fr.app N0 N3q
  obtain ⟨cq4, kq4, q4a, q4b, q4c⟩ := isOf hZ e3 E_a1
  obtain ⟨_, _, ⟨T4, L4, k4, n4⟩, -, X4, ⟨Lc4, hQ4, l4, y4, z4⟩, st4⟩ := X3.interfaceBack hx (xi := (⟨"java/util/Collection", "toArray", "()[Ljava/lang/Object;"⟩ : MethodName)) (y := (⟨"java/util/ArrayList", "toArray", "()[Ljava/lang/Object;"⟩ : MethodName)) hown (mvT hZ (hw _ (List.mem_of_getElem? (i := 165) rfl))) (mvT hZ (hw _ (List.mem_of_getElem? (i := 166) rfl))) (mvT hZ (hw _ (List.mem_of_getElem? (i := 167) rfl))) (mvT hZ (hw _ (List.mem_of_getElem? (i := 168) rfl))) (mvT hZ (hw _ (List.mem_of_getElem? (i := 169) rfl))) (mvT hZ (hw _ (List.mem_of_getElem? (i := 170) rfl))) (mvT hZ (hw _ (List.mem_of_getElem? (i := 171) rfl))) (mvT hZ (hw _ (List.mem_of_getElem? (i := 90) rfl))) (by decide) (backOf (W := 0) (to_array l Z a0 hw [] a1 x1 x2 m_o k1 h0 n0 Z0 F_elementData F_size V_x1 O_x2 M_o E_x1) hZ (hw _ (List.mem_of_getElem? (i := 172) rfl)) (hw _ (List.mem_of_getElem? (i := 42) rfl)) (by decide) (by decide)) q4a q4b q4c (g := (mkF m 45 #[.val (.ref a1), .unset] [(.ref a1)])) rfl (by rw [hml]; rfl) (Steps.refl _) (argsL := []) (rest := []) (lenOf pd____Ljava_lang_Object_ rfl) rfl (by show 2 * 0 + _ ≤ _; exact Nat.le_of_eq rfl) (hb hby d10_45) (fun _ _ => ⟨rfl, e3, (by decide : 0 + 1 ≤ _), (by decide : 0 + 1 ≤ _)⟩)
  dsimp only [Pt.U, Pt.locs, Pt.cells, Pt.slots] at X4 l4 y4 z4 st4 hQ4
  subst l4 y4 z4
  obtain ⟨r4, k4r, rfl, N4q, K4q, sz_r4, V4q⟩ := hQ4
  have sz0_r4 : h0.size ≤ r4 := Nat.le_trans (Keep.refl h0 []).1 sz_r4
  have N4 := Fr.app N3 N4q
  have K4 : Keep h0 T4.heap [] := (Keep.refl h0 []).trans K4q all0
  obtain ⟨_, _, ⟨T5, L5, k5, n5⟩, -, X5, ⟨Lc5, hQ5, l5, y5, z5⟩, st5⟩ := Jvm.LawKit.callS X4 hx (y := (⟨"java/util/List", "of", "([Ljava/lang/Object;)Ljava/util/List;"⟩ : MethodName)) hown (mvT hZ (hw _ (List.mem_of_getElem? (i := 195) rfl))) (mvT hZ (hw _ (List.mem_of_getElem? (i := 196) rfl))) (mvT hZ (hw _ (List.mem_of_getElem? (i := 71) rfl))) (mvT hZ (hw _ (List.mem_of_getElem? (i := 197) rfl))) (by decide) (backOf (W := 0) (list_of1 l Z a0 hw [] r4 x2 w_em k4r T4.heap n0 (Nat.le_trans Z0 K4.1) V4q (own_sta_keep S_em K4)) hZ (hw _ (List.mem_of_getElem? (i := 197) rfl)) (hw _ (List.mem_of_getElem? (i := 71) rfl)) (by decide) (by decide)) (g := (mkF m 50 #[.val (.ref a1), .unset] [(.ref r4)])) rfl (by rw [hml]; rfl) (argsL := [(.ref r4)]) (rest := []) (lenOf pd___Ljava_lang_Object__Ljava_util_List_ rfl) rfl (by show 2 * 0 + _ ≤ _; exact Nat.le_of_eq rfl) (hb hby d10_50) (fun _ _ => ⟨rfl, rfl, (by decide : 1 + 1 ≤ _), (by decide : 1 + 2 ≤ _)⟩)
  dsimp only [Pt.U, Pt.locs, Pt.cells, Pt.slots] at X5 l5 y5 z5 st5 hQ5
  subst l5 y5 z5
  obtain ⟨r5, rfl, N5q, K5q, sz_r5, E5q, F5q⟩ := hQ5
  have sz0_r5 : h0.size ≤ r5 := Nat.le_trans K4.1 sz_r5
  have N5 := Fr.app N4 N5q
  have K5 : Keep h0 T5.heap [] := K4.trans K5q all0
  obtain ⟨fs, hr, hrun, hended, hW, hsame⟩ := X5.leave (v := some (.ref r5)) (fun h => by rw [Bd.returns] at h; cases h)
  refine ⟨_, _, pre0 _ ?_, hrun, hended, _, _, rfl, ?_, ⟨_, rfl⟩, hW, hsame.mono (by decide) (by decide)⟩
  · show Steps p.tables e below (s₁.setTop (mkF m 0 #[.val (.ref a1), .unset] [])) _
    refine XS.aloadN X0.here hx rfl (hb hby d10_0) rfl rfl ?_
    show Steps p.tables e below (s₁.setTop (mkF m 1 #[.val (.ref a1), .unset] [(.ref a1)])) _
    refine st1 _ ?_
    show Steps p.tables e below (T1.setTop (mkF m 4 #[.val (.ref a1), .unset] [(.int (0 : Int32))])) _
    refine XS.ifNo X1.here hx rfl (hb hby d10_4) rfl ((if0 _ _).trans (teq (by decide : (0 : Int32) = (0 : Int32))).2) ?_
    show Steps p.tables e below (T1.setTop (mkF m 7 #[.val (.ref a1), .unset] [])) _
    refine XS.aloadN X1.here hx rfl (hb hby d10_7) rfl rfl ?_
    show Steps p.tables e below (T1.setTop (mkF m 8 #[.val (.ref a1), .unset] [(.ref a1)])) _
    refine st2 _ ?_
    show Steps p.tables e below (T2.setTop (mkF m 11 #[.val (.ref a1), .unset] [(.int (0 : Int32))])) _
    refine XS.ifYes X2.here hx rfl (pc0 := 11) (pc' := 31) rfl (hb hby d10_11) rfl ((if0 _ _).trans (teq (by decide : (0 : Int32) = (0 : Int32))).1) (by decide) (by decide) ?_
    show Steps p.tables e below (T2.setTop (mkF m 31 #[.val (.ref a1), .unset] [])) _
    refine XS.aloadN X2.here hx rfl (hb hby d10_31) rfl rfl ?_
    show Steps p.tables e below (T2.setTop (mkF m 32 #[.val (.ref a1), .unset] [(.ref a1)])) _
    refine st3.trans ?_
    show Steps p.tables e below (T3.setTop (mkF m 37 #[.val (.ref a1), .unset] [(.int (0 : Int32))])) _
    refine XS.ifYes X3.here hx rfl (pc0 := 37) (pc' := 44) rfl (hb hby d10_37) rfl ((if0 _ _).trans (teq (by decide : (0 : Int32) = (0 : Int32))).1) (by decide) (by decide) ?_
    show Steps p.tables e below (T3.setTop (mkF m 44 #[.val (.ref a1), .unset] [])) _
    refine XS.aloadN X3.here hx rfl (hb hby d10_44) rfl rfl ?_
    show Steps p.tables e below (T3.setTop (mkF m 45 #[.val (.ref a1), .unset] [(.ref a1)])) _
    refine st4.trans ?_
    show Steps p.tables e below (T4.setTop (mkF m 50 #[.val (.ref a1), .unset] [(.ref r4)])) _
    refine st5 _ ?_
    show Steps p.tables e below (T5.setTop (mkF m 53 #[.val (.ref a1), .unset] [(.ref r5)])) _
    exact retOut X5 hx Bd.returns rfl (Or.inr (Or.inr (Or.inr (Or.inr ⟨rfl, rfl, rfl⟩)))) (hb hby d10_53) hr
  · show QLo Z w_em h0 n0 _ T5.heap _
    exact ⟨_, rfl, N5, K5, sz0_r5, E5q, F5q⟩
set_option maxRecDepth 65536 in
set_option maxHeartbeats 40000000 in
theorem copy_of1 (l : Launch) (Z : State) (a0 : Array Value) (hw : ∀ d ∈ tables_1, d.before a0 Z = true) (ws : List Jvm.Cond) (a1 : Addr) (x1 x2 m_o w_em : Addr) (k1 : ClassId) (h0 : Heap) (n0 : Nat) (Z0 : n0 ≤ h0.size) (E_a1 : Exa Z h0 a1 "java/util/ArrayList") (F_elementData : Fld Z h0 a1 "java/util/ArrayList" "elementData" "[Ljava/lang/Object;" (.ref x1)) (F_size : Fld Z h0 a1 "java/util/ArrayList" "size" "I" (.int (1 : Int32))) (V_x1 : Arv Z h0 x1 k1 (.object "java/lang/Object") (10 : Int32) [.ref x2, .null, .null, .null, .null, .null, .null, .null, .null, .null] .null) (O_x2 : Obj Z h0 (.ref x2)) (M_o : Mir Z "[Ljava/lang/Object;" m_o) (E_x1 : Exa Z h0 x1 "[Ljava/lang/Object;") (S_em : Sta Z h0 "java/util/ImmutableCollections" "EMPTY" "Ljava/lang/Object;" (.ref w_em)) :
    MetFree l (⟨"java/util/List", "copyOf", "(Ljava/util/Collection;)Ljava/util/List;"⟩ : MethodName) (head1 (Jvm.Cond.code (⟨"java/util/List", "copyOf", "(Ljava/util/Collection;)Ljava/util/List;"⟩ : MethodName) jdk_40_method_48_code 1 (some (.object "java/util/List")) :: ws) ({ frames := 7, cells := 2, slots := 3, locals := 88 } : Room)) (fun a U => a = #[(.ref a1)] ∧ Z.Warmed39 U.vm ∧ U.heap = h0) (fun _ _ _ _ _ => True) (fun _ U o U' => ∃ v L, o = .returned v ∧ QLo Z w_em h0 n0 v U'.heap L ∧ FrameEnd U o U' L ({ frames := 7, cells := 2, slots := 3, locals := 88 } : Room).cells ({ frames := 7, cells := 2, slots := 3, locals := 88 } : Room).slots) := by
  refine MetFree.of_bodySF (plainFor_of_name pn_java_util_List) hisR ?_
  intro p e s m args below meth c s₁ Bd hml0 hP hK
  obtain ⟨rfl, hZ, hh⟩ := hP
  have hx := Bd.exec
  have hby := Bd.bytes
  have hml : c.maxLocals = 1 := hml0
  have hown : s.vm.findClass "java/util/List" = some m.cls := findClass_of_methodNamed Bd.named
  have hnm := (name_of_methodNamed Bd.named Bd.method).1
  have X0 : Stand p l e ({ frames := 7, cells := 2, slots := 3, locals := 88 } : Room) s m #[(.ref a1)] below meth c s₁ [] 0 0 := Stand.of_body Bd
  have e0 : s₁.heap = h0 := by rw [← hh, Bd.state]; rfl
  have N0 := Fr.nil n0
  have pre0 : ∀ t, Steps p.tables e below (s₁.setTop (mkF m 0 #[.val (.ref a1)] [])) t → Steps p.tables e below (s₁.setTop (entryFrame m #[(.ref a1)] 1)) t := fun t k => castTop (ef_9_R m a1) k
  obtain ⟨_, _, ⟨T1, L1, k1, n1⟩, -, X1, ⟨Lc1, hQ1, l1, y1, z1⟩, st1⟩ := Jvm.LawKit.callS X0 hx (y := (⟨"java/util/ImmutableCollections", "listCopy", "(Ljava/util/Collection;)Ljava/util/List;"⟩ : MethodName)) hown (mvT hZ (hw _ (List.mem_of_getElem? (i := 73) rfl))) (mvT hZ (hw _ (List.mem_of_getElem? (i := 74) rfl))) (mvT hZ (hw _ (List.mem_of_getElem? (i := 75) rfl))) (mvT hZ (hw _ (List.mem_of_getElem? (i := 76) rfl))) (by decide) (backOf (W := 0) (list_copy1 l Z a0 hw [] a1 x1 x2 m_o w_em k1 h0 n0 Z0 E_a1 F_elementData F_size V_x1 O_x2 M_o E_x1 S_em) hZ (hw _ (List.mem_of_getElem? (i := 76) rfl)) (hw _ (List.mem_of_getElem? (i := 75) rfl)) (by decide) (by decide)) (g := (mkF m 1 #[.val (.ref a1)] [(.ref a1)])) rfl (by rw [hml]; rfl) (argsL := [(.ref a1)]) (rest := []) (lenOf pd__Ljava_util_Collection__Ljava_util_List_ rfl) rfl (by show 2 * 0 + _ ≤ _; exact Nat.le_of_eq rfl) (hb hby d9_1) (fun _ _ => ⟨rfl, e0, (by decide : 0 + 2 ≤ _), (by decide : 0 + 3 ≤ _)⟩)
  dsimp only [Pt.U, Pt.locs, Pt.cells, Pt.slots] at X1 l1 y1 z1 st1 hQ1
  subst l1 y1 z1
  obtain ⟨r1, rfl, N1q, K1q, sz_r1, E1q, F1q⟩ := hQ1
  have sz0_r1 : h0.size ≤ r1 := Nat.le_trans (Keep.refl h0 []).1 sz_r1
  have N1 := Fr.app N0 N1q
  have K1 : Keep h0 T1.heap [] := (Keep.refl h0 []).trans K1q all0
  obtain ⟨fs, hr, hrun, hended, hW, hsame⟩ := X1.leave (v := some (.ref r1)) (fun h => by rw [Bd.returns] at h; cases h)
  refine ⟨_, _, pre0 _ ?_, hrun, hended, _, _, rfl, ?_, ⟨_, rfl⟩, hW, hsame.mono (by decide) (by decide)⟩
  · show Steps p.tables e below (s₁.setTop (mkF m 0 #[.val (.ref a1)] [])) _
    refine XS.aloadN X0.here hx rfl (hb hby d9_0) rfl rfl ?_
    show Steps p.tables e below (s₁.setTop (mkF m 1 #[.val (.ref a1)] [(.ref a1)])) _
    refine st1 _ ?_
    show Steps p.tables e below (T1.setTop (mkF m 4 #[.val (.ref a1)] [(.ref r1)])) _
    exact retOut X1 hx Bd.returns rfl (Or.inr (Or.inr (Or.inr (Or.inr ⟨rfl, rfl, rfl⟩)))) (hb hby d9_4) hr
  · show QLo Z w_em h0 n0 _ T1.heap _
    exact ⟨_, rfl, N1, K1, sz0_r1, E1q, F1q⟩
theorem d28_0 : decode jdk_44_method_3_code 0 = .ok (.aload_n 0, 1) := by decide +kernel
theorem d28_1 : decode jdk_44_method_3_code 1 = .ok (.getfield 24, 3) := by decide +kernel
theorem d28_4 : decode jdk_44_method_3_code 4 = .ok (.getstatic 19, 3) := by decide +kernel
theorem d28_7 : decode jdk_44_method_3_code 7 = .ok (.if_acmp .eq 7, 3) := by decide +kernel
theorem d28_14 : decode jdk_44_method_3_code 14 = .ok (.iconst 1, 1) := by decide +kernel
theorem d28_15 : decode jdk_44_method_3_code 15 = .ok (.ireturn, 1) := by decide +kernel
theorem ef_28_R (m : MethodId) (x0 : Addr) : entryFrame m #[(.ref x0)] 1 = mkF m 0 #[.val (.ref x0)] [] := by first | (simp [entryFrame, mkF, argsToLocals, Value.category]; done) | (simp [entryFrame, mkF, argsToLocals, own_cr, own_ci, own_cj]; done) | rfl
set_option maxRecDepth 65536 in
set_option maxHeartbeats 40000000 in
theorem size12 (l : Launch) (Z : State) (a0 : Array Value) (hw : ∀ d ∈ tables_1, d.before a0 Z = true) (ws : List Jvm.Cond) (a1 w_em : Addr) (h0 : Heap) (n0 : Nat) (Z0 : n0 ≤ h0.size) (F_e1 : Fld Z h0 a1 "java/util/ImmutableCollections$List12" "e1" "Ljava/lang/Object;" (.ref w_em)) (S_em : Sta Z h0 "java/util/ImmutableCollections" "EMPTY" "Ljava/lang/Object;" (.ref w_em)) :
    MetFree l (⟨"java/util/ImmutableCollections$List12", "size", "()I"⟩ : MethodName) (head1 (Jvm.Cond.code (⟨"java/util/ImmutableCollections$List12", "size", "()I"⟩ : MethodName) jdk_44_method_3_code 1 (some .int) :: ws) ({ frames := 0, cells := 0, slots := 0, locals := 0 } : Room)) (fun a U => a = #[(.ref a1)] ∧ Z.Warmed39 U.vm ∧ U.heap = h0) (fun _ _ _ _ _ => True) (fun _ U o U' => ∃ v L, o = .returned v ∧ QG (.int (1 : Int32)) h0 n0 v U'.heap L ∧ FrameEnd U o U' L ({ frames := 0, cells := 0, slots := 0, locals := 0 } : Room).cells ({ frames := 0, cells := 0, slots := 0, locals := 0 } : Room).slots) := by
  refine MetFree.of_bodySF (plainFor_of_name pn_java_util_ImmutableCollections_List12) hisR ?_
  intro p e s m args below meth c s₁ Bd hml0 hP hK
  obtain ⟨rfl, hZ, hh⟩ := hP
  have hx := Bd.exec
  have hby := Bd.bytes
  have hml : c.maxLocals = 1 := hml0
  have hown : s.vm.findClass "java/util/ImmutableCollections$List12" = some m.cls := findClass_of_methodNamed Bd.named
  have hnm := (name_of_methodNamed Bd.named Bd.method).1
  have X0 : Stand p l e ({ frames := 0, cells := 0, slots := 0, locals := 0 } : Room) s m #[(.ref a1)] below meth c s₁ [] 0 0 := Stand.of_body Bd
  have e0 : s₁.heap = h0 := by rw [← hh, Bd.state]; rfl
  have N0 := Fr.nil n0
  have pre0 : ∀ t, Steps p.tables e below (s₁.setTop (mkF m 0 #[.val (.ref a1)] [])) t → Steps p.tables e below (s₁.setTop (entryFrame m #[(.ref a1)] 1)) t := fun t k => castTop (ef_28_R m a1) k
  obtain ⟨T1, X1, e1, st1⟩ := getF X0 hx hZ hown (host := "") (Or.inl (hw _ (List.mem_of_getElem? (i := 223) rfl))) Via.refl e0 F_e1 (g := (mkF m 1 #[.val (.ref a1)] [(.ref a1)])) rfl rfl (hb hby d28_1)
  obtain ⟨T2, X2, e2, st2⟩ := getS2 X1 hx hZ hown (Or.inr (hw _ (List.mem_of_getElem? (i := 222) rfl))) Via.refl e1 S_em (g := (mkF m 4 #[.val (.ref a1)] [(.ref w_em)])) rfl (hb hby d28_4)
  obtain ⟨fs, hr, hrun, hended, hW, hsame⟩ := X2.leave (v := some (.int (1 : Int32))) (fun h => by rw [Bd.returns] at h; cases h)
  refine ⟨_, _, pre0 _ ?_, hrun, hended, _, _, rfl, ?_, ⟨_, rfl⟩, hW, hsame.mono (by decide) (by decide)⟩
  · show Steps p.tables e below (s₁.setTop (mkF m 0 #[.val (.ref a1)] [])) _
    refine XS.aloadN X0.here hx rfl (hb hby d28_0) rfl rfl ?_
    show Steps p.tables e below (s₁.setTop (mkF m 1 #[.val (.ref a1)] [(.ref a1)])) _
    refine st1 _ ?_
    show Steps p.tables e below (T1.setTop (mkF m 4 #[.val (.ref a1)] [(.ref w_em)])) _
    refine st2 _ ?_
    show Steps p.tables e below (T2.setTop (mkF m 7 #[.val (.ref a1)] [(.ref w_em), (.ref w_em)])) _
    refine Jvm.RoadKit.acmp (g := (mkF m 7 #[.val (.ref a1)] [(.ref w_em), (.ref w_em)])) X2 hx rfl rfl rfl (pc0 := 7) (pc' := 14) (same := true) rfl (hb hby d28_7) rfl (decide_eq_true rfl) (by decide) (by decide) ?_
    show Steps p.tables e below (T2.setTop (mkF m 14 #[.val (.ref a1)] [])) _
    refine XS.iconst X2.here hx rfl (hb hby d28_14) ?_
    show Steps p.tables e below (T2.setTop (mkF m 15 #[.val (.ref a1)] [(.int (1 : Int32))])) _
    exact retOut X2 hx Bd.returns rfl (Or.inl ⟨rfl, Or.inl rfl, _, rfl⟩) (hb hby d28_15) hr
  · show QG (.int (1 : Int32)) h0 n0 _ T2.heap _
    rw [e2]
    exact ⟨rfl, N0, rfl⟩
theorem d30_0 : decode jdk_45_method_3_code 0 = .ok (.aload_n 0, 1) := by decide +kernel
theorem d30_1 : decode jdk_45_method_3_code 1 = .ok (.getfield 7, 3) := by decide +kernel
theorem d30_4 : decode jdk_45_method_3_code 4 = .ok (.arraylength, 1) := by decide +kernel
theorem d30_5 : decode jdk_45_method_3_code 5 = .ok (.ireturn, 1) := by decide +kernel
theorem ef_30_R (m : MethodId) (x0 : Addr) : entryFrame m #[(.ref x0)] 1 = mkF m 0 #[.val (.ref x0)] [] := by first | (simp [entryFrame, mkF, argsToLocals, Value.category]; done) | (simp [entryFrame, mkF, argsToLocals, own_cr, own_ci, own_cj]; done) | rfl
theorem pn_java_util_ImmutableCollections_ListN : plainName "java/util/ImmutableCollections$ListN" = true := by first | (simp [plainName, overriddenIn]; done) | decide +kernel
set_option maxRecDepth 65536 in
set_option maxHeartbeats 40000000 in
theorem sizeN (l : Launch) (Z : State) (a0 : Array Value) (hw : ∀ d ∈ tables_1, d.before a0 Z = true) (ws : List Jvm.Cond) (w_el w_ee : Addr) (k_ee : ClassId) (h0 : Heap) (n0 : Nat) (Z0 : n0 ≤ h0.size) (F_el : Fld Z h0 w_el "java/util/ImmutableCollections$ListN" "elements" "[Ljava/lang/Object;" (.ref w_ee)) (V_ee : Arv Z h0 w_ee k_ee (.object "java/lang/Object") (0 : Int32) [] .null) :
    MetFree l (⟨"java/util/ImmutableCollections$ListN", "size", "()I"⟩ : MethodName) (head1 (Jvm.Cond.code (⟨"java/util/ImmutableCollections$ListN", "size", "()I"⟩ : MethodName) jdk_45_method_3_code 1 (some .int) :: ws) ({ frames := 0, cells := 0, slots := 0, locals := 0 } : Room)) (fun a U => a = #[(.ref w_el)] ∧ Z.Warmed39 U.vm ∧ U.heap = h0) (fun _ _ _ _ _ => True) (fun _ U o U' => ∃ v L, o = .returned v ∧ QG (.int (0 : Int32)) h0 n0 v U'.heap L ∧ FrameEnd U o U' L ({ frames := 0, cells := 0, slots := 0, locals := 0 } : Room).cells ({ frames := 0, cells := 0, slots := 0, locals := 0 } : Room).slots) := by
  refine MetFree.of_bodySF (plainFor_of_name pn_java_util_ImmutableCollections_ListN) hisR ?_
  intro p e s m args below meth c s₁ Bd hml0 hP hK
  obtain ⟨rfl, hZ, hh⟩ := hP
  have hx := Bd.exec
  have hby := Bd.bytes
  have hml : c.maxLocals = 1 := hml0
  have hown : s.vm.findClass "java/util/ImmutableCollections$ListN" = some m.cls := findClass_of_methodNamed Bd.named
  have hnm := (name_of_methodNamed Bd.named Bd.method).1
  have X0 : Stand p l e ({ frames := 0, cells := 0, slots := 0, locals := 0 } : Room) s m #[(.ref w_el)] below meth c s₁ [] 0 0 := Stand.of_body Bd
  have e0 : s₁.heap = h0 := by rw [← hh, Bd.state]; rfl
  have N0 := Fr.nil n0
  have pre0 : ∀ t, Steps p.tables e below (s₁.setTop (mkF m 0 #[.val (.ref w_el)] [])) t → Steps p.tables e below (s₁.setTop (entryFrame m #[(.ref w_el)] 1)) t := fun t k => castTop (ef_30_R m w_el) k
  obtain ⟨T1, X1, e1, st1⟩ := getF X0 hx hZ hown (host := "") (Or.inl (hw _ (List.mem_of_getElem? (i := 246) rfl))) Via.refl e0 F_el (g := (mkF m 1 #[.val (.ref w_el)] [(.ref w_el)])) rfl rfl (hb hby d30_1)
  obtain ⟨cl2, Ar2, q2, s2, m2, H2, F2⟩ := (id V_ee)
  obtain ⟨fs, hr, hrun, hended, hW, hsame⟩ := X1.leave (v := some (.int (0 : Int32))) (fun h => by rw [Bd.returns] at h; cases h)
  refine ⟨_, _, pre0 _ ?_, hrun, hended, _, _, rfl, ?_, ⟨_, rfl⟩, hW, hsame.mono (by decide) (by decide)⟩
  · show Steps p.tables e below (s₁.setTop (mkF m 0 #[.val (.ref w_el)] [])) _
    refine XS.aloadN X0.here hx rfl (hb hby d30_0) rfl rfl ?_
    show Steps p.tables e below (s₁.setTop (mkF m 1 #[.val (.ref w_el)] [(.ref w_el)])) _
    refine st1 _ ?_
    show Steps p.tables e below (T1.setTop (mkF m 4 #[.val (.ref w_el)] [(.ref w_ee)])) _
    refine X1.arraylength hx (by rw [e1]; exact Ar2.1) (State.isArrayOf_alike hZ.alike Ar2.2.1) (g := (mkF m 4 #[.val (.ref w_el)] [(.ref w_ee)])) rfl rfl (hb hby d30_4) _ ?_
    rw [len_of s2 m2]
    show Steps p.tables e below (T1.setTop (mkF m 5 #[.val (.ref w_el)] [(.int (0 : Int32))])) _
    exact retOut X1 hx Bd.returns rfl (Or.inl ⟨rfl, Or.inl rfl, _, rfl⟩) (hb hby d30_5) hr
  · show QG (.int (0 : Int32)) h0 n0 _ T1.heap _
    rw [e1]
    exact ⟨rfl, N0, rfl⟩
theorem d29_0 : decode prog_49_method_7_code 0 = .ok (.aload_n 0, 1) := by decide +kernel
theorem d29_1 : decode prog_49_method_7_code 1 = .ok (.getfield 29, 3) := by decide +kernel
theorem d29_4 : decode prog_49_method_7_code 4 = .ok (.areturn, 1) := by decide +kernel
theorem ef_29_R (m : MethodId) (x0 : Addr) : entryFrame m #[(.ref x0)] 1 = mkF m 0 #[.val (.ref x0)] [] := by first | (simp [entryFrame, mkF, argsToLocals, Value.category]; done) | (simp [entryFrame, mkF, argsToLocals, own_cr, own_ci, own_cj]; done) | rfl
set_option maxRecDepth 65536 in
set_option maxHeartbeats 40000000 in
theorem tr_hops (l : Launch) (Z : State) (a0 : Array Value) (hw : ∀ d ∈ tables_1, d.before a0 Z = true) (ws : List Jvm.Cond) (a1 w_el : Addr) (h0 : Heap) (n0 : Nat) (Z0 : n0 ≤ h0.size) (F_hops : Fld Z h0 a1 "com/example/refleash/refleash/heap/Trace" "hops" "Ljava/util/List;" (.ref w_el)) :
    MetFree l (⟨"com/example/refleash/refleash/heap/Trace", "hops", "()Ljava/util/List;"⟩ : MethodName) (head1 (Jvm.Cond.code (⟨"com/example/refleash/refleash/heap/Trace", "hops", "()Ljava/util/List;"⟩ : MethodName) prog_49_method_7_code 1 (some (.object "java/util/List")) :: ws) ({ frames := 0, cells := 0, slots := 0, locals := 0 } : Room)) (fun a U => a = #[(.ref a1)] ∧ Z.Warmed39 U.vm ∧ U.heap = h0) (fun _ _ _ _ _ => True) (fun _ U o U' => ∃ v L, o = .returned v ∧ QG (.ref w_el) h0 n0 v U'.heap L ∧ FrameEnd U o U' L ({ frames := 0, cells := 0, slots := 0, locals := 0 } : Room).cells ({ frames := 0, cells := 0, slots := 0, locals := 0 } : Room).slots) := by
  refine MetFree.of_bodySF (plainFor_of_name pn_com_example_refleash_refleash_heap_Trace) hisR ?_
  intro p e s m args below meth c s₁ Bd hml0 hP hK
  obtain ⟨rfl, hZ, hh⟩ := hP
  have hx := Bd.exec
  have hby := Bd.bytes
  have hml : c.maxLocals = 1 := hml0
  have hown : s.vm.findClass "com/example/refleash/refleash/heap/Trace" = some m.cls := findClass_of_methodNamed Bd.named
  have hnm := (name_of_methodNamed Bd.named Bd.method).1
  have X0 : Stand p l e ({ frames := 0, cells := 0, slots := 0, locals := 0 } : Room) s m #[(.ref a1)] below meth c s₁ [] 0 0 := Stand.of_body Bd
  have e0 : s₁.heap = h0 := by rw [← hh, Bd.state]; rfl
  have N0 := Fr.nil n0
  have pre0 : ∀ t, Steps p.tables e below (s₁.setTop (mkF m 0 #[.val (.ref a1)] [])) t → Steps p.tables e below (s₁.setTop (entryFrame m #[(.ref a1)] 1)) t := fun t k => castTop (ef_29_R m a1) k
  obtain ⟨T1, X1, e1, st1⟩ := getF X0 hx hZ hown (host := "") (Or.inl (hw _ (List.mem_of_getElem? (i := 102) rfl))) Via.refl e0 F_hops (g := (mkF m 1 #[.val (.ref a1)] [(.ref a1)])) rfl rfl (hb hby d29_1)
  obtain ⟨fs, hr, hrun, hended, hW, hsame⟩ := X1.leave (v := some (.ref w_el)) (fun h => by rw [Bd.returns] at h; cases h)
  refine ⟨_, _, pre0 _ ?_, hrun, hended, _, _, rfl, ?_, ⟨_, rfl⟩, hW, hsame.mono (by decide) (by decide)⟩
  · show Steps p.tables e below (s₁.setTop (mkF m 0 #[.val (.ref a1)] [])) _
    refine XS.aloadN X0.here hx rfl (hb hby d29_0) rfl rfl ?_
    show Steps p.tables e below (s₁.setTop (mkF m 1 #[.val (.ref a1)] [(.ref a1)])) _
    refine st1 _ ?_
    show Steps p.tables e below (T1.setTop (mkF m 4 #[.val (.ref a1)] [(.ref w_el)])) _
    exact retOut X1 hx Bd.returns rfl (Or.inr (Or.inr (Or.inr (Or.inr ⟨rfl, rfl, rfl⟩)))) (hb hby d29_4) hr
  · show QG (.ref w_el) h0 n0 _ T1.heap _
    rw [e1]
    exact ⟨rfl, N0, rfl⟩
theorem d19_0 : decode prog_33_method_1_code 0 = .ok (.aload_n 0, 1) := by decide +kernel
theorem d19_1 : decode prog_33_method_1_code 1 = .ok (.invokespecial 1, 3) := by decide +kernel
theorem d19_4 : decode prog_33_method_1_code 4 = .ok (.aload_n 1, 1) := by decide +kernel
theorem d19_5 : decode prog_33_method_1_code 5 = .ok (.invokestatic 7, 3) := by decide +kernel
theorem d19_8 : decode prog_33_method_1_code 8 = .ok (.pop, 1) := by decide +kernel
theorem d19_9 : decode prog_33_method_1_code 9 = .ok (.aload 4, 2) := by decide +kernel
theorem d19_11 : decode prog_33_method_1_code 11 = .ok (.invokestatic 7, 3) := by decide +kernel
theorem d19_14 : decode prog_33_method_1_code 14 = .ok (.pop, 1) := by decide +kernel
theorem d19_15 : decode prog_33_method_1_code 15 = .ok (.aload 5, 2) := by decide +kernel
theorem d19_17 : decode prog_33_method_1_code 17 = .ok (.invokestatic 13, 3) := by decide +kernel
theorem d19_20 : decode prog_33_method_1_code 20 = .ok (.astore 5, 2) := by decide +kernel
theorem d19_22 : decode prog_33_method_1_code 22 = .ok (.aload 8, 2) := by decide +kernel
theorem d19_24 : decode prog_33_method_1_code 24 = .ok (.invokestatic 13, 3) := by decide +kernel
theorem d19_27 : decode prog_33_method_1_code 27 = .ok (.astore 8, 2) := by decide +kernel
theorem d19_29 : decode prog_33_method_1_code 29 = .ok (.aload 5, 2) := by decide +kernel
theorem d19_31 : decode prog_33_method_1_code 31 = .ok (.invokeinterface 19 1, 5) := by decide +kernel
theorem pd___I : parseMethodDescriptor "()I" = some ⟨[], some .int⟩ := by decide +kernel
theorem d19_36 : decode prog_33_method_1_code 36 = .ok (.aload 4, 2) := by decide +kernel
theorem d19_38 : decode prog_33_method_1_code 38 = .ok (.invokevirtual 23, 3) := by decide +kernel
theorem d19_41 : decode prog_33_method_1_code 41 = .ok (.invokeinterface 19 1, 5) := by decide +kernel
theorem d19_46 : decode prog_33_method_1_code 46 = .ok (.iconst 1, 1) := by decide +kernel
theorem d19_47 : decode prog_33_method_1_code 47 = .ok (.iadd, 1) := by decide +kernel
theorem d19_48 : decode prog_33_method_1_code 48 = .ok (.if_icmp .eq 33, 3) := by decide +kernel
theorem d19_81 : decode prog_33_method_1_code 81 = .ok (.aload_n 0, 1) := by decide +kernel
theorem d19_82 : decode prog_33_method_1_code 82 = .ok (.aload_n 1, 1) := by decide +kernel
theorem d19_83 : decode prog_33_method_1_code 83 = .ok (.putfield 38, 3) := by decide +kernel
theorem d19_86 : decode prog_33_method_1_code 86 = .ok (.aload_n 0, 1) := by decide +kernel
theorem d19_87 : decode prog_33_method_1_code 87 = .ok (.lload_n 2, 1) := by decide +kernel
theorem d19_88 : decode prog_33_method_1_code 88 = .ok (.putfield 44, 3) := by decide +kernel
theorem d19_91 : decode prog_33_method_1_code 91 = .ok (.aload_n 0, 1) := by decide +kernel
theorem d19_92 : decode prog_33_method_1_code 92 = .ok (.aload 4, 2) := by decide +kernel
theorem d19_94 : decode prog_33_method_1_code 94 = .ok (.putfield 48, 3) := by decide +kernel
theorem d19_97 : decode prog_33_method_1_code 97 = .ok (.aload_n 0, 1) := by decide +kernel
theorem d19_98 : decode prog_33_method_1_code 98 = .ok (.aload 5, 2) := by decide +kernel
theorem d19_100 : decode prog_33_method_1_code 100 = .ok (.putfield 52, 3) := by decide +kernel
theorem d19_103 : decode prog_33_method_1_code 103 = .ok (.aload_n 0, 1) := by decide +kernel
theorem d19_104 : decode prog_33_method_1_code 104 = .ok (.iload 6, 2) := by decide +kernel
theorem d19_106 : decode prog_33_method_1_code 106 = .ok (.putfield 56, 3) := by decide +kernel
theorem d19_109 : decode prog_33_method_1_code 109 = .ok (.aload_n 0, 1) := by decide +kernel
theorem d19_110 : decode prog_33_method_1_code 110 = .ok (.iload 7, 2) := by decide +kernel
theorem d19_112 : decode prog_33_method_1_code 112 = .ok (.putfield 60, 3) := by decide +kernel
theorem d19_115 : decode prog_33_method_1_code 115 = .ok (.aload_n 0, 1) := by decide +kernel
theorem d19_116 : decode prog_33_method_1_code 116 = .ok (.aload 8, 2) := by decide +kernel
theorem d19_118 : decode prog_33_method_1_code 118 = .ok (.putfield 63, 3) := by decide +kernel
theorem d19_121 : decode prog_33_method_1_code 121 = .ok (.return_, 1) := by decide +kernel
theorem ef_19_RRJRRIIR (m : MethodId) (x0 : Addr) (x1 : Addr) (x2 : Int64) (x3 : Addr) (x4 : Addr) (x5 : Int32) (x6 : Int32) (x7 : Addr) : entryFrame m #[(.ref x0), (.ref x1), (.long x2), (.ref x3), (.ref x4), (.int x5), (.int x6), (.ref x7)] 9 = mkF m 0 #[.val (.ref x0), .val (.ref x1), .val (.long x2), .second, .val (.ref x3), .val (.ref x4), .val (.int x5), .val (.int x6), .val (.ref x7)] [] := by first | (simp [entryFrame, mkF, argsToLocals, Value.category]; done) | (simp [entryFrame, mkF, argsToLocals, own_cr, own_ci, own_cj]; done) | rfl
theorem pn_com_example_refleash_refleash_heap_Leak : plainName "com/example/refleash/refleash/heap/Leak" = true := by first | (simp [plainName, overriddenIn]; done) | decide +kernel
set_option maxRecDepth 65536 in
set_option maxHeartbeats 40000000 in
theorem leak_init (l : Launch) (Z : State) (a0 : Array Value) (hw : ∀ d ∈ tables_1, d.before a0 Z = true) (ws : List Jvm.Cond) (a1 y1 : Addr) (u2 : Int64) (x4 x5 : Addr) (p6 p7 : Int32) (x8 : Addr) (x1 x2 m_o w_el w_em w_ee : Addr) (k1 k_ee : ClassId) (h0 : Heap) (n0 : Nat) (Z0 : n0 ≤ h0.size) (F_signature : Fld Z h0 a1 "com/example/refleash/refleash/heap/Leak" "signature" "Ljava/lang/String;" .null) (F_retainedBytes : Fld Z h0 a1 "com/example/refleash/refleash/heap/Leak" "retainedBytes" "J" (.long (0 : Int64))) (F_trace : Fld Z h0 a1 "com/example/refleash/refleash/heap/Leak" "trace" "Lcom/example/refleash/refleash/heap/Trace;" .null) (F_nodes : Fld Z h0 a1 "com/example/refleash/refleash/heap/Leak" "nodes" "Ljava/util/List;" .null) (F_firstSuspect : Fld Z h0 a1 "com/example/refleash/refleash/heap/Leak" "firstSuspect" "I" (.int (0 : Int32))) (F_endSuspect : Fld Z h0 a1 "com/example/refleash/refleash/heap/Leak" "endSuspect" "I" (.int (0 : Int32))) (F_objects : Fld Z h0 a1 "com/example/refleash/refleash/heap/Leak" "objects" "Ljava/util/List;" .null) (E_a1 : Exa Z h0 a1 "com/example/refleash/refleash/heap/Leak") (g_a1 : n0 ≤ a1) (E_x4 : Exa Z h0 x4 "com/example/refleash/refleash/heap/Trace") (F_hops : Fld Z h0 x4 "com/example/refleash/refleash/heap/Trace" "hops" "Ljava/util/List;" (.ref w_el)) (E_x5 : Exa Z h0 x5 "java/util/ArrayList") (F_x5e : Fld Z h0 x5 "java/util/ArrayList" "elementData" "[Ljava/lang/Object;" (.ref x1)) (F_x5s : Fld Z h0 x5 "java/util/ArrayList" "size" "I" (.int (1 : Int32))) (E_x1 : Exa Z h0 x1 "[Ljava/lang/Object;") (V_x1 : Arv Z h0 x1 k1 (.object "java/lang/Object") (10 : Int32) [.ref x2, .null, .null, .null, .null, .null, .null, .null, .null, .null] .null) (O_x2 : Obj Z h0 (.ref x2)) (E_x8 : Exa Z h0 x8 "java/util/ArrayList") (F_x8s : Fld Z h0 x8 "java/util/ArrayList" "size" "I" (.int (0 : Int32))) (S_el : Sta Z h0 "java/util/ImmutableCollections" "EMPTY_LIST" "Ljava/util/ImmutableCollections$ListN;" (.ref w_el)) (S_em : Sta Z h0 "java/util/ImmutableCollections" "EMPTY" "Ljava/lang/Object;" (.ref w_em)) (E_el : Exa Z h0 w_el "java/util/ImmutableCollections$ListN") (F_el : Fld Z h0 w_el "java/util/ImmutableCollections$ListN" "elements" "[Ljava/lang/Object;" (.ref w_ee)) (V_ee : Arv Z h0 w_ee k_ee (.object "java/lang/Object") (0 : Int32) [] .null) (M_o : Mir Z "[Ljava/lang/Object;" m_o) :
    MetFree l (⟨"com/example/refleash/refleash/heap/Leak", "<init>", "(Ljava/lang/String;JLcom/example/refleash/refleash/heap/Trace;Ljava/util/List;IILjava/util/List;)V"⟩ : MethodName) (head1 (Jvm.Cond.code (⟨"com/example/refleash/refleash/heap/Leak", "<init>", "(Ljava/lang/String;JLcom/example/refleash/refleash/heap/Trace;Ljava/util/List;IILjava/util/List;)V"⟩ : MethodName) prog_33_method_1_code 9 none :: ws) ({ frames := 8, cells := 2, slots := 3, locals := 100 } : Room)) (fun a U => a = #[(.ref a1), (.ref y1), (.long u2), (.ref x4), (.ref x5), (.int p6), (.int p7), (.ref x8)] ∧ Z.Warmed39 U.vm ∧ U.heap = h0) (fun _ _ _ _ _ => True) (fun _ U o U' => ∃ v L, o = .returned v ∧ QLk Z a1 p6 p7 h0 n0 v U'.heap L ∧ FrameEnd U o U' L ({ frames := 8, cells := 2, slots := 3, locals := 100 } : Room).cells ({ frames := 8, cells := 2, slots := 3, locals := 100 } : Room).slots) := by
  refine MetFree.of_bodySF (plainFor_of_name pn_com_example_refleash_refleash_heap_Leak) hisR ?_
  intro p e s m args below meth c s₁ Bd hml0 hP hK
  obtain ⟨rfl, hZ, hh⟩ := hP
  have hx := Bd.exec
  have hby := Bd.bytes
  have hml : c.maxLocals = 9 := hml0
  have hown : s.vm.findClass "com/example/refleash/refleash/heap/Leak" = some m.cls := findClass_of_methodNamed Bd.named
  have hnm := (name_of_methodNamed Bd.named Bd.method).1
  have X0 : Stand p l e ({ frames := 8, cells := 2, slots := 3, locals := 100 } : Room) s m #[(.ref a1), (.ref y1), (.long u2), (.ref x4), (.ref x5), (.int p6), (.int p7), (.ref x8)] below meth c s₁ [] 0 0 := Stand.of_body Bd
  have e0 : s₁.heap = h0 := by rw [← hh, Bd.state]; rfl
  have N0 := Fr.nil n0
  have pre0 : ∀ t, Steps p.tables e below (s₁.setTop (mkF m 0 #[.val (.ref a1), .val (.ref y1), .val (.long u2), .second, .val (.ref x4), .val (.ref x5), .val (.int p6), .val (.int p7), .val (.ref x8)] [])) t → Steps p.tables e below (s₁.setTop (entryFrame m #[(.ref a1), (.ref y1), (.long u2), (.ref x4), (.ref x5), (.int p6), (.int p7), (.ref x8)] 9)) t := fun t k => castTop (ef_19_RRJRRIIR m a1 y1 u2 x4 x5 p6 p7 x8) k
  obtain ⟨_, _, ⟨T1, L1, k1, n1⟩, -, X1, ⟨Lc1, hQ1, l1, y1, z1⟩, st1⟩ := X0.specialBack hx (y := (⟨"java/lang/Record", "<init>", "()V"⟩ : MethodName)) rfl hown (mvT hZ (hw _ (List.mem_of_getElem? (i := 162) rfl))) (mvT hZ (hw _ (List.mem_of_getElem? (i := 21) rfl))) (mvT hZ (hw _ (List.mem_of_getElem? (i := 24) rfl))) (by decide) (backOf (W := 0) (sup_2 l Z a0 hw [] a1 h0 n0 Z0 ) hZ (hw _ (List.mem_of_getElem? (i := 24) rfl)) (hw _ (List.mem_of_getElem? (i := 23) rfl)) (by decide) (by decide)) (g := (mkF m 1 #[.val (.ref a1), .val (.ref y1), .val (.long u2), .second, .val (.ref x4), .val (.ref x5), .val (.int p6), .val (.int p7), .val (.ref x8)] [(.ref a1)])) rfl (by rw [hml]; rfl) (Steps.refl _) (a := a1) (argsL := []) (rest := []) (lenOf pd___V rfl) rfl (by show 2 * 0 + _ ≤ _; exact Nat.le_of_eq rfl) (hb hby d19_1) (fun _ _ => ⟨rfl, e0, (by decide : 0 + 0 ≤ _), (by decide : 0 + 0 ≤ _)⟩)
  dsimp only [Pt.U, Pt.locs, Pt.cells, Pt.slots] at X1 l1 y1 z1 st1 hQ1
  subst l1 y1 z1
  obtain ⟨rfl, N1q, e1⟩ := hQ1
  have N1 := Fr.app N0 N1q
  obtain ⟨_, _, ⟨T2, L2, k2, n2⟩, -, X2, ⟨Lc2, hQ2, l2, y2, z2⟩, st2⟩ := Jvm.LawKit.callS X1 hx (y := (⟨"java/util/Objects", "requireNonNull", "(Ljava/lang/Object;)Ljava/lang/Object;"⟩ : MethodName)) hown (mvT hZ (hw _ (List.mem_of_getElem? (i := 163) rfl))) (mvT hZ (hw _ (List.mem_of_getElem? (i := 29) rfl))) (mvT hZ (hw _ (List.mem_of_getElem? (i := 30) rfl))) (mvT hZ (hw _ (List.mem_of_getElem? (i := 31) rfl))) (by decide) (backOf (W := 0) (rnn l Z a0 hw [] y1 h0 n0 Z0 ) hZ (hw _ (List.mem_of_getElem? (i := 31) rfl)) (hw _ (List.mem_of_getElem? (i := 30) rfl)) (by decide) (by decide)) (g := (mkF m 5 #[.val (.ref a1), .val (.ref y1), .val (.long u2), .second, .val (.ref x4), .val (.ref x5), .val (.int p6), .val (.int p7), .val (.ref x8)] [(.ref y1)])) rfl (by rw [hml]; rfl) (argsL := [(.ref y1)]) (rest := []) (lenOf pd__Ljava_lang_Object__Ljava_lang_Object_ rfl) rfl (by show 2 * 0 + _ ≤ _; exact Nat.le_of_eq rfl) (hb hby d19_5) (fun _ _ => ⟨rfl, e1, (by decide : 0 + 0 ≤ _), (by decide : 0 + 0 ≤ _)⟩)
  dsimp only [Pt.U, Pt.locs, Pt.cells, Pt.slots] at X2 l2 y2 z2 st2 hQ2
  subst l2 y2 z2
  obtain ⟨rfl, N2q, e2⟩ := hQ2
  have N2 := Fr.app N1 N2q
  obtain ⟨_, _, ⟨T3, L3, k3, n3⟩, -, X3, ⟨Lc3, hQ3, l3, y3, z3⟩, st3⟩ := Jvm.LawKit.callS X2 hx (y := (⟨"java/util/Objects", "requireNonNull", "(Ljava/lang/Object;)Ljava/lang/Object;"⟩ : MethodName)) hown (mvT hZ (hw _ (List.mem_of_getElem? (i := 163) rfl))) (mvT hZ (hw _ (List.mem_of_getElem? (i := 29) rfl))) (mvT hZ (hw _ (List.mem_of_getElem? (i := 30) rfl))) (mvT hZ (hw _ (List.mem_of_getElem? (i := 31) rfl))) (by decide) (backOf (W := 0) (rnn l Z a0 hw [] x4 h0 n0 Z0 ) hZ (hw _ (List.mem_of_getElem? (i := 31) rfl)) (hw _ (List.mem_of_getElem? (i := 30) rfl)) (by decide) (by decide)) (g := (mkF m 11 #[.val (.ref a1), .val (.ref y1), .val (.long u2), .second, .val (.ref x4), .val (.ref x5), .val (.int p6), .val (.int p7), .val (.ref x8)] [(.ref x4)])) rfl (by rw [hml]; rfl) (argsL := [(.ref x4)]) (rest := []) (lenOf pd__Ljava_lang_Object__Ljava_lang_Object_ rfl) rfl (by show 2 * 0 + _ ≤ _; exact Nat.le_of_eq rfl) (hb hby d19_11) (fun _ _ => ⟨rfl, e2, (by decide : 0 + 0 ≤ _), (by decide : 0 + 0 ≤ _)⟩)
  dsimp only [Pt.U, Pt.locs, Pt.cells, Pt.slots] at X3 l3 y3 z3 st3 hQ3
  subst l3 y3 z3
  obtain ⟨rfl, N3q, e3⟩ := hQ3
  have N3 := Fr.app N2 N3q
  obtain ⟨_, _, ⟨T4, L4, k4, n4⟩, -, X4, ⟨Lc4, hQ4, l4, y4, z4⟩, st4⟩ := Jvm.LawKit.callS X3 hx (y := (⟨"java/util/List", "copyOf", "(Ljava/util/Collection;)Ljava/util/List;"⟩ : MethodName)) hown (mvT hZ (hw _ (List.mem_of_getElem? (i := 164) rfl))) (mvT hZ (hw _ (List.mem_of_getElem? (i := 70) rfl))) (mvT hZ (hw _ (List.mem_of_getElem? (i := 71) rfl))) (mvT hZ (hw _ (List.mem_of_getElem? (i := 72) rfl))) (by decide) (backOf (W := 0) (copy_of1 l Z a0 hw [] x5 x1 x2 m_o w_em k1 h0 n0 Z0 E_x5 F_x5e F_x5s V_x1 O_x2 M_o E_x1 S_em) hZ (hw _ (List.mem_of_getElem? (i := 72) rfl)) (hw _ (List.mem_of_getElem? (i := 71) rfl)) (by decide) (by decide)) (g := (mkF m 17 #[.val (.ref a1), .val (.ref y1), .val (.long u2), .second, .val (.ref x4), .val (.ref x5), .val (.int p6), .val (.int p7), .val (.ref x8)] [(.ref x5)])) rfl (by rw [hml]; rfl) (argsL := [(.ref x5)]) (rest := []) (lenOf pd__Ljava_util_Collection__Ljava_util_List_ rfl) rfl (by show 2 * 0 + _ ≤ _; exact Nat.le_of_eq rfl) (hb hby d19_17) (fun _ _ => ⟨rfl, e3, (by decide : 0 + 2 ≤ _), (by decide : 0 + 3 ≤ _)⟩)
  dsimp only [Pt.U, Pt.locs, Pt.cells, Pt.slots] at X4 l4 y4 z4 st4 hQ4
  subst l4 y4 z4
  obtain ⟨r4, rfl, N4q, K4q, sz_r4, E4q, F4q⟩ := hQ4
  have sz0_r4 : h0.size ≤ r4 := Nat.le_trans (Keep.refl h0 [a1]).1 sz_r4
  have N4 := Fr.app N3 N4q
  have K4 : Keep h0 T4.heap [a1] := (Keep.refl h0 [a1]).trans K4q all0
  obtain ⟨_, _, ⟨T5, L5, k5, n5⟩, -, X5, ⟨Lc5, hQ5, l5, y5, z5⟩, st5⟩ := Jvm.LawKit.callS X4 hx (y := (⟨"java/util/List", "copyOf", "(Ljava/util/Collection;)Ljava/util/List;"⟩ : MethodName)) hown (mvT hZ (hw _ (List.mem_of_getElem? (i := 164) rfl))) (mvT hZ (hw _ (List.mem_of_getElem? (i := 70) rfl))) (mvT hZ (hw _ (List.mem_of_getElem? (i := 71) rfl))) (mvT hZ (hw _ (List.mem_of_getElem? (i := 72) rfl))) (by decide) (backOf (W := 0) (copy_of0 l Z a0 hw [] x8 w_el T4.heap n0 (Nat.le_trans Z0 K4.1) (E_x8.keep K4q) (F_x8s.keep K4q nin0) (own_sta_keep1 S_el E_a1 K4)) hZ (hw _ (List.mem_of_getElem? (i := 72) rfl)) (hw _ (List.mem_of_getElem? (i := 71) rfl)) (by decide) (by decide)) (g := (mkF m 24 #[.val (.ref a1), .val (.ref y1), .val (.long u2), .second, .val (.ref x4), .val (.ref r4), .val (.int p6), .val (.int p7), .val (.ref x8)] [(.ref x8)])) rfl (by rw [hml]; rfl) (argsL := [(.ref x8)]) (rest := []) (lenOf pd__Ljava_util_Collection__Ljava_util_List_ rfl) rfl (by show 2 * 0 + _ ≤ _; exact Nat.le_of_eq rfl) (hb hby d19_24) (fun _ _ => ⟨rfl, rfl, (by decide : 2 + 0 ≤ _), (by decide : 3 + 0 ≤ _)⟩)
  dsimp only [Pt.U, Pt.locs, Pt.cells, Pt.slots] at X5 l5 y5 z5 st5 hQ5
  subst l5 y5 z5
  obtain ⟨rfl, N5q, e5⟩ := hQ5
  have N5 := Fr.app N4 N5q
  obtain ⟨cq6, kq6, q6a, q6b, q6c⟩ := isOf hZ e5 E4q
  obtain ⟨_, _, ⟨T6, L6, k6, n6⟩, -, X6, ⟨Lc6, hQ6, l6, y6, z6⟩, st6⟩ := X5.interfaceBack hx (xi := (⟨"java/util/List", "size", "()I"⟩ : MethodName)) (y := (⟨"java/util/ImmutableCollections$List12", "size", "()I"⟩ : MethodName)) hown (mvT hZ (hw _ (List.mem_of_getElem? (i := 225) rfl))) (mvT hZ (hw _ (List.mem_of_getElem? (i := 226) rfl))) (mvT hZ (hw _ (List.mem_of_getElem? (i := 227) rfl))) (mvT hZ (hw _ (List.mem_of_getElem? (i := 228) rfl))) (mvT hZ (hw _ (List.mem_of_getElem? (i := 229) rfl))) (mvT hZ (hw _ (List.mem_of_getElem? (i := 230) rfl))) (mvT hZ (hw _ (List.mem_of_getElem? (i := 231) rfl))) (mvT hZ (hw _ (List.mem_of_getElem? (i := 232) rfl))) (by decide) (backOf (W := 0) (size12 l Z a0 hw [] r4 w_em T4.heap n0 (Nat.le_trans Z0 K4.1) F4q (own_sta_keep1 S_em E_a1 K4)) hZ (hw _ (List.mem_of_getElem? (i := 233) rfl)) (hw _ (List.mem_of_getElem? (i := 200) rfl)) (by decide) (by decide)) q6a q6b q6c (g := (mkF m 31 #[.val (.ref a1), .val (.ref y1), .val (.long u2), .second, .val (.ref x4), .val (.ref r4), .val (.int p6), .val (.int p7), .val (.ref w_el)] [(.ref r4)])) rfl (by rw [hml]; rfl) (Steps.refl _) (argsL := []) (rest := []) (lenOf pd___I rfl) rfl (by show 2 * 0 + _ ≤ _; exact Nat.le_of_eq rfl) (hb hby d19_31) (fun _ _ => ⟨rfl, e5, (by decide : 2 + 0 ≤ _), (by decide : 3 + 0 ≤ _)⟩)
  dsimp only [Pt.U, Pt.locs, Pt.cells, Pt.slots] at X6 l6 y6 z6 st6 hQ6
  subst l6 y6 z6
  obtain ⟨rfl, N6q, e6⟩ := hQ6
  have N6 := Fr.app N5 N6q
  obtain ⟨cq7, kq7, q7a, q7b, q7c⟩ := isOf hZ e6 (E_x4.keep K4q)
  obtain ⟨_, _, ⟨T7, L7, k7, n7⟩, -, X7, ⟨Lc7, hQ7, l7, y7, z7⟩, st7⟩ := X6.virtualBack hx (y := (⟨"com/example/refleash/refleash/heap/Trace", "hops", "()Ljava/util/List;"⟩ : MethodName)) (z := (⟨"com/example/refleash/refleash/heap/Trace", "hops", "()Ljava/util/List;"⟩ : MethodName)) hown (mvT hZ (hw _ (List.mem_of_getElem? (i := 234) rfl))) (mvT hZ (hw _ (List.mem_of_getElem? (i := 235) rfl))) (notFace_of_selects (args := #[]) (mvT hZ (hw _ (List.mem_of_getElem? (i := 237) rfl)))) (mvT hZ (hw _ (List.mem_of_getElem? (i := 237) rfl))) (mvT hZ (hw _ (List.mem_of_getElem? (i := 236) rfl))) (by decide) (backOf (W := 1) (tr_hops l Z a0 hw [] x4 w_el T4.heap n0 (Nat.le_trans Z0 K4.1) (F_hops.keep K4q nin0)) hZ (hw _ (List.mem_of_getElem? (i := 238) rfl)) (hw _ (List.mem_of_getElem? (i := 2) rfl)) (by decide) (by decide)) q7a q7c (g := (mkF m 38 #[.val (.ref a1), .val (.ref y1), .val (.long u2), .second, .val (.ref x4), .val (.ref r4), .val (.int p6), .val (.int p7), .val (.ref w_el)] [(.ref x4), (.int (1 : Int32))])) rfl (by rw [hml]; rfl) (Steps.refl _) (argsL := []) (rest := [(.int (1 : Int32))]) (lenOf pd___Ljava_util_List_ rfl) rfl (by show 2 * 0 + _ ≤ _; exact Nat.le_of_eq rfl) (hb hby d19_38) (fun _ _ => ⟨rfl, e6, (by decide : 2 + 0 ≤ _), (by decide : 3 + 0 ≤ _)⟩)
  dsimp only [Pt.U, Pt.locs, Pt.cells, Pt.slots] at X7 l7 y7 z7 st7 hQ7
  subst l7 y7 z7
  obtain ⟨rfl, N7q, e7⟩ := hQ7
  have N7 := Fr.app N6 N7q
  obtain ⟨cq8, kq8, q8a, q8b, q8c⟩ := isOf hZ e7 (E_el.keep K4q)
  obtain ⟨_, _, ⟨T8, L8, k8, n8⟩, -, X8, ⟨Lc8, hQ8, l8, y8, z8⟩, st8⟩ := X7.interfaceBack hx (xi := (⟨"java/util/List", "size", "()I"⟩ : MethodName)) (y := (⟨"java/util/ImmutableCollections$ListN", "size", "()I"⟩ : MethodName)) hown (mvT hZ (hw _ (List.mem_of_getElem? (i := 225) rfl))) (mvT hZ (hw _ (List.mem_of_getElem? (i := 226) rfl))) (mvT hZ (hw _ (List.mem_of_getElem? (i := 227) rfl))) (mvT hZ (hw _ (List.mem_of_getElem? (i := 239) rfl))) (mvT hZ (hw _ (List.mem_of_getElem? (i := 240) rfl))) (mvT hZ (hw _ (List.mem_of_getElem? (i := 241) rfl))) (mvT hZ (hw _ (List.mem_of_getElem? (i := 242) rfl))) (mvT hZ (hw _ (List.mem_of_getElem? (i := 243) rfl))) (by decide) (backOf (W := 1) (sizeN l Z a0 hw [] w_el w_ee k_ee T4.heap n0 (Nat.le_trans Z0 K4.1) (F_el.keep K4q nin0) (V_ee.keep K4q nin0)) hZ (hw _ (List.mem_of_getElem? (i := 245) rfl)) (hw _ (List.mem_of_getElem? (i := 244) rfl)) (by decide) (by decide)) q8a q8b q8c (g := (mkF m 41 #[.val (.ref a1), .val (.ref y1), .val (.long u2), .second, .val (.ref x4), .val (.ref r4), .val (.int p6), .val (.int p7), .val (.ref w_el)] [(.ref w_el), (.int (1 : Int32))])) rfl (by rw [hml]; rfl) (Steps.refl _) (argsL := []) (rest := [(.int (1 : Int32))]) (lenOf pd___I rfl) rfl (by show 2 * 0 + _ ≤ _; exact Nat.le_of_eq rfl) (hb hby d19_41) (fun _ _ => ⟨rfl, e7, (by decide : 2 + 0 ≤ _), (by decide : 3 + 0 ≤ _)⟩)
  dsimp only [Pt.U, Pt.locs, Pt.cells, Pt.slots] at X8 l8 y8 z8 st8 hQ8
  subst l8 y8 z8
  obtain ⟨rfl, N8q, e8⟩ := hQ8
  have N8 := Fr.app N7 N8q
  obtain ⟨T9, h9, X9, e9, W9, st9⟩ := putF X8 hx hZ hown (host := "") (Or.inl (hw _ (List.mem_of_getElem? (i := 248) rfl))) Via.refl e8 (F_signature.keep K4q nin0) (E_a1.keep K4q) (Or.inr ⟨(hw _ (List.mem_of_getElem? (i := 249) rfl)), rfl, hnm⟩) (hw _ (List.mem_of_getElem? (i := 156) rfl)) (ty := (.object "java/lang/String")) (by decide) rfl rfl (g := (mkF m 83 #[.val (.ref a1), .val (.ref y1), .val (.long u2), .second, .val (.ref x4), .val (.ref r4), .val (.int p6), .val (.int p7), .val (.ref w_el)] [(.ref y1), (.ref a1)])) rfl rfl (hb hby d19_83)
  have F9_signature := (F_signature.keep K4q nin0).same W9
  have F9_retainedBytes := (F_retainedBytes.keep K4q nin0).other W9 (Or.inr (slot_ne (Or.inr (hw _ (List.mem_of_getElem? (i := 251) rfl))) (Or.inr (hw _ (List.mem_of_getElem? (i := 249) rfl))) (by decide) (t := .long) (t' := (.object "java/lang/String")) (by decide) (by decide)))
  have F9_trace := (F_trace.keep K4q nin0).other W9 (Or.inr (slot_ne (Or.inr (hw _ (List.mem_of_getElem? (i := 253) rfl))) (Or.inr (hw _ (List.mem_of_getElem? (i := 249) rfl))) (by decide) (t := (.object "com/example/refleash/refleash/heap/Trace")) (t' := (.object "java/lang/String")) (by decide) (by decide)))
  have F9_nodes := (F_nodes.keep K4q nin0).other W9 (Or.inr (slot_ne (Or.inr (hw _ (List.mem_of_getElem? (i := 255) rfl))) (Or.inr (hw _ (List.mem_of_getElem? (i := 249) rfl))) (by decide) (t := (.object "java/util/List")) (t' := (.object "java/lang/String")) (by decide) (by decide)))
  have F9_firstSuspect := (F_firstSuspect.keep K4q nin0).other W9 (Or.inr (slot_ne (Or.inr (hw _ (List.mem_of_getElem? (i := 257) rfl))) (Or.inr (hw _ (List.mem_of_getElem? (i := 249) rfl))) (by decide) (t := .int) (t' := (.object "java/lang/String")) (by decide) (by decide)))
  have F9_endSuspect := (F_endSuspect.keep K4q nin0).other W9 (Or.inr (slot_ne (Or.inr (hw _ (List.mem_of_getElem? (i := 259) rfl))) (Or.inr (hw _ (List.mem_of_getElem? (i := 249) rfl))) (by decide) (t := .int) (t' := (.object "java/lang/String")) (by decide) (by decide)))
  have F9_objects := (F_objects.keep K4q nin0).other W9 (Or.inr (slot_ne (Or.inr (hw _ (List.mem_of_getElem? (i := 261) rfl))) (Or.inr (hw _ (List.mem_of_getElem? (i := 249) rfl))) (by decide) (t := (.object "java/util/List")) (t' := (.object "java/lang/String")) (by decide) (by decide)))
  have E9_a1 := (E_a1.keep K4q).wr W9
  have K9 : Keep h0 h9 [a1] := K4.wr W9 (Or.inl (List.mem_of_getElem? (i := 0) rfl))
  have N9 := Fr.snoc X9 N8 g_a1
  obtain ⟨T10, h10, X10, e10, W10, st10⟩ := putF X9 hx hZ hown (host := "") (Or.inl (hw _ (List.mem_of_getElem? (i := 250) rfl))) Via.refl e9 F9_retainedBytes E9_a1 (Or.inr ⟨(hw _ (List.mem_of_getElem? (i := 251) rfl)), rfl, hnm⟩) (hw _ (List.mem_of_getElem? (i := 156) rfl)) (ty := .long) (by decide) rfl rfl (g := (mkF m 88 #[.val (.ref a1), .val (.ref y1), .val (.long u2), .second, .val (.ref x4), .val (.ref r4), .val (.int p6), .val (.int p7), .val (.ref w_el)] [(.long u2), (.ref a1)])) rfl rfl (hb hby d19_88)
  have F10_signature := F9_signature.other W10 (Or.inr (slot_ne (Or.inr (hw _ (List.mem_of_getElem? (i := 249) rfl))) (Or.inr (hw _ (List.mem_of_getElem? (i := 251) rfl))) (by decide) (t := (.object "java/lang/String")) (t' := .long) (by decide) (by decide)))
  have F10_retainedBytes := F9_retainedBytes.same W10
  have F10_trace := F9_trace.other W10 (Or.inr (slot_ne (Or.inr (hw _ (List.mem_of_getElem? (i := 253) rfl))) (Or.inr (hw _ (List.mem_of_getElem? (i := 251) rfl))) (by decide) (t := (.object "com/example/refleash/refleash/heap/Trace")) (t' := .long) (by decide) (by decide)))
  have F10_nodes := F9_nodes.other W10 (Or.inr (slot_ne (Or.inr (hw _ (List.mem_of_getElem? (i := 255) rfl))) (Or.inr (hw _ (List.mem_of_getElem? (i := 251) rfl))) (by decide) (t := (.object "java/util/List")) (t' := .long) (by decide) (by decide)))
  have F10_firstSuspect := F9_firstSuspect.other W10 (Or.inr (slot_ne (Or.inr (hw _ (List.mem_of_getElem? (i := 257) rfl))) (Or.inr (hw _ (List.mem_of_getElem? (i := 251) rfl))) (by decide) (t := .int) (t' := .long) (by decide) (by decide)))
  have F10_endSuspect := F9_endSuspect.other W10 (Or.inr (slot_ne (Or.inr (hw _ (List.mem_of_getElem? (i := 259) rfl))) (Or.inr (hw _ (List.mem_of_getElem? (i := 251) rfl))) (by decide) (t := .int) (t' := .long) (by decide) (by decide)))
  have F10_objects := F9_objects.other W10 (Or.inr (slot_ne (Or.inr (hw _ (List.mem_of_getElem? (i := 261) rfl))) (Or.inr (hw _ (List.mem_of_getElem? (i := 251) rfl))) (by decide) (t := (.object "java/util/List")) (t' := .long) (by decide) (by decide)))
  have E10_a1 := E9_a1.wr W10
  have K10 : Keep h0 h10 [a1] := K9.wr W10 (Or.inl (List.mem_of_getElem? (i := 0) rfl))
  have N10 := Fr.snoc X10 N9 g_a1
  obtain ⟨T11, h11, X11, e11, W11, st11⟩ := putF X10 hx hZ hown (host := "") (Or.inl (hw _ (List.mem_of_getElem? (i := 252) rfl))) Via.refl e10 F10_trace E10_a1 (Or.inr ⟨(hw _ (List.mem_of_getElem? (i := 253) rfl)), rfl, hnm⟩) (hw _ (List.mem_of_getElem? (i := 156) rfl)) (ty := (.object "com/example/refleash/refleash/heap/Trace")) (by decide) rfl rfl (g := (mkF m 94 #[.val (.ref a1), .val (.ref y1), .val (.long u2), .second, .val (.ref x4), .val (.ref r4), .val (.int p6), .val (.int p7), .val (.ref w_el)] [(.ref x4), (.ref a1)])) rfl rfl (hb hby d19_94)
  have F11_signature := F10_signature.other W11 (Or.inr (slot_ne (Or.inr (hw _ (List.mem_of_getElem? (i := 249) rfl))) (Or.inr (hw _ (List.mem_of_getElem? (i := 253) rfl))) (by decide) (t := (.object "java/lang/String")) (t' := (.object "com/example/refleash/refleash/heap/Trace")) (by decide) (by decide)))
  have F11_retainedBytes := F10_retainedBytes.other W11 (Or.inr (slot_ne (Or.inr (hw _ (List.mem_of_getElem? (i := 251) rfl))) (Or.inr (hw _ (List.mem_of_getElem? (i := 253) rfl))) (by decide) (t := .long) (t' := (.object "com/example/refleash/refleash/heap/Trace")) (by decide) (by decide)))
  have F11_trace := F10_trace.same W11
  have F11_nodes := F10_nodes.other W11 (Or.inr (slot_ne (Or.inr (hw _ (List.mem_of_getElem? (i := 255) rfl))) (Or.inr (hw _ (List.mem_of_getElem? (i := 253) rfl))) (by decide) (t := (.object "java/util/List")) (t' := (.object "com/example/refleash/refleash/heap/Trace")) (by decide) (by decide)))
  have F11_firstSuspect := F10_firstSuspect.other W11 (Or.inr (slot_ne (Or.inr (hw _ (List.mem_of_getElem? (i := 257) rfl))) (Or.inr (hw _ (List.mem_of_getElem? (i := 253) rfl))) (by decide) (t := .int) (t' := (.object "com/example/refleash/refleash/heap/Trace")) (by decide) (by decide)))
  have F11_endSuspect := F10_endSuspect.other W11 (Or.inr (slot_ne (Or.inr (hw _ (List.mem_of_getElem? (i := 259) rfl))) (Or.inr (hw _ (List.mem_of_getElem? (i := 253) rfl))) (by decide) (t := .int) (t' := (.object "com/example/refleash/refleash/heap/Trace")) (by decide) (by decide)))
  have F11_objects := F10_objects.other W11 (Or.inr (slot_ne (Or.inr (hw _ (List.mem_of_getElem? (i := 261) rfl))) (Or.inr (hw _ (List.mem_of_getElem? (i := 253) rfl))) (by decide) (t := (.object "java/util/List")) (t' := (.object "com/example/refleash/refleash/heap/Trace")) (by decide) (by decide)))
  have E11_a1 := E10_a1.wr W11
  have K11 : Keep h0 h11 [a1] := K10.wr W11 (Or.inl (List.mem_of_getElem? (i := 0) rfl))
  have N11 := Fr.snoc X11 N10 g_a1
  obtain ⟨T12, h12, X12, e12, W12, st12⟩ := putF X11 hx hZ hown (host := "") (Or.inl (hw _ (List.mem_of_getElem? (i := 254) rfl))) Via.refl e11 F11_nodes E11_a1 (Or.inr ⟨(hw _ (List.mem_of_getElem? (i := 255) rfl)), rfl, hnm⟩) (hw _ (List.mem_of_getElem? (i := 156) rfl)) (ty := (.object "java/util/List")) (by decide) rfl rfl (g := (mkF m 100 #[.val (.ref a1), .val (.ref y1), .val (.long u2), .second, .val (.ref x4), .val (.ref r4), .val (.int p6), .val (.int p7), .val (.ref w_el)] [(.ref r4), (.ref a1)])) rfl rfl (hb hby d19_100)
  have F12_signature := F11_signature.other W12 (Or.inr (slot_ne (Or.inr (hw _ (List.mem_of_getElem? (i := 249) rfl))) (Or.inr (hw _ (List.mem_of_getElem? (i := 255) rfl))) (by decide) (t := (.object "java/lang/String")) (t' := (.object "java/util/List")) (by decide) (by decide)))
  have F12_retainedBytes := F11_retainedBytes.other W12 (Or.inr (slot_ne (Or.inr (hw _ (List.mem_of_getElem? (i := 251) rfl))) (Or.inr (hw _ (List.mem_of_getElem? (i := 255) rfl))) (by decide) (t := .long) (t' := (.object "java/util/List")) (by decide) (by decide)))
  have F12_trace := F11_trace.other W12 (Or.inr (slot_ne (Or.inr (hw _ (List.mem_of_getElem? (i := 253) rfl))) (Or.inr (hw _ (List.mem_of_getElem? (i := 255) rfl))) (by decide) (t := (.object "com/example/refleash/refleash/heap/Trace")) (t' := (.object "java/util/List")) (by decide) (by decide)))
  have F12_nodes := F11_nodes.same W12
  have F12_firstSuspect := F11_firstSuspect.other W12 (Or.inr (slot_ne (Or.inr (hw _ (List.mem_of_getElem? (i := 257) rfl))) (Or.inr (hw _ (List.mem_of_getElem? (i := 255) rfl))) (by decide) (t := .int) (t' := (.object "java/util/List")) (by decide) (by decide)))
  have F12_endSuspect := F11_endSuspect.other W12 (Or.inr (slot_ne (Or.inr (hw _ (List.mem_of_getElem? (i := 259) rfl))) (Or.inr (hw _ (List.mem_of_getElem? (i := 255) rfl))) (by decide) (t := .int) (t' := (.object "java/util/List")) (by decide) (by decide)))
  have F12_objects := F11_objects.other W12 (Or.inr (slot_ne (Or.inr (hw _ (List.mem_of_getElem? (i := 261) rfl))) (Or.inr (hw _ (List.mem_of_getElem? (i := 255) rfl))) (by decide) (t := (.object "java/util/List")) (t' := (.object "java/util/List")) (by decide) (by decide)))
  have E12_a1 := E11_a1.wr W12
  have K12 : Keep h0 h12 [a1] := K11.wr W12 (Or.inl (List.mem_of_getElem? (i := 0) rfl))
  have N12 := Fr.snoc X12 N11 g_a1
  obtain ⟨T13, h13, X13, e13, W13, st13⟩ := putF X12 hx hZ hown (host := "") (Or.inl (hw _ (List.mem_of_getElem? (i := 256) rfl))) Via.refl e12 F12_firstSuspect E12_a1 (Or.inr ⟨(hw _ (List.mem_of_getElem? (i := 257) rfl)), rfl, hnm⟩) (hw _ (List.mem_of_getElem? (i := 156) rfl)) (ty := .int) (by decide) rfl rfl (g := (mkF m 106 #[.val (.ref a1), .val (.ref y1), .val (.long u2), .second, .val (.ref x4), .val (.ref r4), .val (.int p6), .val (.int p7), .val (.ref w_el)] [(.int p6), (.ref a1)])) rfl rfl (hb hby d19_106)
  have F13_signature := F12_signature.other W13 (Or.inr (slot_ne (Or.inr (hw _ (List.mem_of_getElem? (i := 249) rfl))) (Or.inr (hw _ (List.mem_of_getElem? (i := 257) rfl))) (by decide) (t := (.object "java/lang/String")) (t' := .int) (by decide) (by decide)))
  have F13_retainedBytes := F12_retainedBytes.other W13 (Or.inr (slot_ne (Or.inr (hw _ (List.mem_of_getElem? (i := 251) rfl))) (Or.inr (hw _ (List.mem_of_getElem? (i := 257) rfl))) (by decide) (t := .long) (t' := .int) (by decide) (by decide)))
  have F13_trace := F12_trace.other W13 (Or.inr (slot_ne (Or.inr (hw _ (List.mem_of_getElem? (i := 253) rfl))) (Or.inr (hw _ (List.mem_of_getElem? (i := 257) rfl))) (by decide) (t := (.object "com/example/refleash/refleash/heap/Trace")) (t' := .int) (by decide) (by decide)))
  have F13_nodes := F12_nodes.other W13 (Or.inr (slot_ne (Or.inr (hw _ (List.mem_of_getElem? (i := 255) rfl))) (Or.inr (hw _ (List.mem_of_getElem? (i := 257) rfl))) (by decide) (t := (.object "java/util/List")) (t' := .int) (by decide) (by decide)))
  have F13_firstSuspect := F12_firstSuspect.same W13
  have F13_endSuspect := F12_endSuspect.other W13 (Or.inr (slot_ne (Or.inr (hw _ (List.mem_of_getElem? (i := 259) rfl))) (Or.inr (hw _ (List.mem_of_getElem? (i := 257) rfl))) (by decide) (t := .int) (t' := .int) (by decide) (by decide)))
  have F13_objects := F12_objects.other W13 (Or.inr (slot_ne (Or.inr (hw _ (List.mem_of_getElem? (i := 261) rfl))) (Or.inr (hw _ (List.mem_of_getElem? (i := 257) rfl))) (by decide) (t := (.object "java/util/List")) (t' := .int) (by decide) (by decide)))
  have E13_a1 := E12_a1.wr W13
  have K13 : Keep h0 h13 [a1] := K12.wr W13 (Or.inl (List.mem_of_getElem? (i := 0) rfl))
  have N13 := Fr.snoc X13 N12 g_a1
  obtain ⟨T14, h14, X14, e14, W14, st14⟩ := putF X13 hx hZ hown (host := "") (Or.inl (hw _ (List.mem_of_getElem? (i := 258) rfl))) Via.refl e13 F13_endSuspect E13_a1 (Or.inr ⟨(hw _ (List.mem_of_getElem? (i := 259) rfl)), rfl, hnm⟩) (hw _ (List.mem_of_getElem? (i := 156) rfl)) (ty := .int) (by decide) rfl rfl (g := (mkF m 112 #[.val (.ref a1), .val (.ref y1), .val (.long u2), .second, .val (.ref x4), .val (.ref r4), .val (.int p6), .val (.int p7), .val (.ref w_el)] [(.int p7), (.ref a1)])) rfl rfl (hb hby d19_112)
  have F14_signature := F13_signature.other W14 (Or.inr (slot_ne (Or.inr (hw _ (List.mem_of_getElem? (i := 249) rfl))) (Or.inr (hw _ (List.mem_of_getElem? (i := 259) rfl))) (by decide) (t := (.object "java/lang/String")) (t' := .int) (by decide) (by decide)))
  have F14_retainedBytes := F13_retainedBytes.other W14 (Or.inr (slot_ne (Or.inr (hw _ (List.mem_of_getElem? (i := 251) rfl))) (Or.inr (hw _ (List.mem_of_getElem? (i := 259) rfl))) (by decide) (t := .long) (t' := .int) (by decide) (by decide)))
  have F14_trace := F13_trace.other W14 (Or.inr (slot_ne (Or.inr (hw _ (List.mem_of_getElem? (i := 253) rfl))) (Or.inr (hw _ (List.mem_of_getElem? (i := 259) rfl))) (by decide) (t := (.object "com/example/refleash/refleash/heap/Trace")) (t' := .int) (by decide) (by decide)))
  have F14_nodes := F13_nodes.other W14 (Or.inr (slot_ne (Or.inr (hw _ (List.mem_of_getElem? (i := 255) rfl))) (Or.inr (hw _ (List.mem_of_getElem? (i := 259) rfl))) (by decide) (t := (.object "java/util/List")) (t' := .int) (by decide) (by decide)))
  have F14_firstSuspect := F13_firstSuspect.other W14 (Or.inr (slot_ne (Or.inr (hw _ (List.mem_of_getElem? (i := 257) rfl))) (Or.inr (hw _ (List.mem_of_getElem? (i := 259) rfl))) (by decide) (t := .int) (t' := .int) (by decide) (by decide)))
  have F14_endSuspect := F13_endSuspect.same W14
  have F14_objects := F13_objects.other W14 (Or.inr (slot_ne (Or.inr (hw _ (List.mem_of_getElem? (i := 261) rfl))) (Or.inr (hw _ (List.mem_of_getElem? (i := 259) rfl))) (by decide) (t := (.object "java/util/List")) (t' := .int) (by decide) (by decide)))
  have E14_a1 := E13_a1.wr W14
  have K14 : Keep h0 h14 [a1] := K13.wr W14 (Or.inl (List.mem_of_getElem? (i := 0) rfl))
  have N14 := Fr.snoc X14 N13 g_a1
  obtain ⟨T15, h15, X15, e15, W15, st15⟩ := putF X14 hx hZ hown (host := "") (Or.inl (hw _ (List.mem_of_getElem? (i := 260) rfl))) Via.refl e14 F14_objects E14_a1 (Or.inr ⟨(hw _ (List.mem_of_getElem? (i := 261) rfl)), rfl, hnm⟩) (hw _ (List.mem_of_getElem? (i := 156) rfl)) (ty := (.object "java/util/List")) (by decide) rfl rfl (g := (mkF m 118 #[.val (.ref a1), .val (.ref y1), .val (.long u2), .second, .val (.ref x4), .val (.ref r4), .val (.int p6), .val (.int p7), .val (.ref w_el)] [(.ref w_el), (.ref a1)])) rfl rfl (hb hby d19_118)
  have F15_signature := F14_signature.other W15 (Or.inr (slot_ne (Or.inr (hw _ (List.mem_of_getElem? (i := 249) rfl))) (Or.inr (hw _ (List.mem_of_getElem? (i := 261) rfl))) (by decide) (t := (.object "java/lang/String")) (t' := (.object "java/util/List")) (by decide) (by decide)))
  have F15_retainedBytes := F14_retainedBytes.other W15 (Or.inr (slot_ne (Or.inr (hw _ (List.mem_of_getElem? (i := 251) rfl))) (Or.inr (hw _ (List.mem_of_getElem? (i := 261) rfl))) (by decide) (t := .long) (t' := (.object "java/util/List")) (by decide) (by decide)))
  have F15_trace := F14_trace.other W15 (Or.inr (slot_ne (Or.inr (hw _ (List.mem_of_getElem? (i := 253) rfl))) (Or.inr (hw _ (List.mem_of_getElem? (i := 261) rfl))) (by decide) (t := (.object "com/example/refleash/refleash/heap/Trace")) (t' := (.object "java/util/List")) (by decide) (by decide)))
  have F15_nodes := F14_nodes.other W15 (Or.inr (slot_ne (Or.inr (hw _ (List.mem_of_getElem? (i := 255) rfl))) (Or.inr (hw _ (List.mem_of_getElem? (i := 261) rfl))) (by decide) (t := (.object "java/util/List")) (t' := (.object "java/util/List")) (by decide) (by decide)))
  have F15_firstSuspect := F14_firstSuspect.other W15 (Or.inr (slot_ne (Or.inr (hw _ (List.mem_of_getElem? (i := 257) rfl))) (Or.inr (hw _ (List.mem_of_getElem? (i := 261) rfl))) (by decide) (t := .int) (t' := (.object "java/util/List")) (by decide) (by decide)))
  have F15_endSuspect := F14_endSuspect.other W15 (Or.inr (slot_ne (Or.inr (hw _ (List.mem_of_getElem? (i := 259) rfl))) (Or.inr (hw _ (List.mem_of_getElem? (i := 261) rfl))) (by decide) (t := .int) (t' := (.object "java/util/List")) (by decide) (by decide)))
  have F15_objects := F14_objects.same W15
  have E15_a1 := E14_a1.wr W15
  have K15 : Keep h0 h15 [a1] := K14.wr W15 (Or.inl (List.mem_of_getElem? (i := 0) rfl))
  have N15 := Fr.snoc X15 N14 g_a1
  obtain ⟨fs, hr, hrun, hended, hW, hsame⟩ := X15.leave (v := none) (fun _ => rfl)
  refine ⟨_, _, pre0 _ ?_, hrun, hended, _, _, rfl, ?_, ⟨_, rfl⟩, hW, hsame.mono (by decide) (by decide)⟩
  · show Steps p.tables e below (s₁.setTop (mkF m 0 #[.val (.ref a1), .val (.ref y1), .val (.long u2), .second, .val (.ref x4), .val (.ref x5), .val (.int p6), .val (.int p7), .val (.ref x8)] [])) _
    refine XS.aloadN X0.here hx rfl (hb hby d19_0) rfl rfl ?_
    show Steps p.tables e below (s₁.setTop (mkF m 1 #[.val (.ref a1), .val (.ref y1), .val (.long u2), .second, .val (.ref x4), .val (.ref x5), .val (.int p6), .val (.int p7), .val (.ref x8)] [(.ref a1)])) _
    refine st1.trans ?_
    show Steps p.tables e below (T1.setTop (mkF m 4 #[.val (.ref a1), .val (.ref y1), .val (.long u2), .second, .val (.ref x4), .val (.ref x5), .val (.int p6), .val (.int p7), .val (.ref x8)] [])) _
    refine XS.aloadN X1.here hx rfl (hb hby d19_4) rfl rfl ?_
    show Steps p.tables e below (T1.setTop (mkF m 5 #[.val (.ref a1), .val (.ref y1), .val (.long u2), .second, .val (.ref x4), .val (.ref x5), .val (.int p6), .val (.int p7), .val (.ref x8)] [(.ref y1)])) _
    refine st2 _ ?_
    show Steps p.tables e below (T2.setTop (mkF m 8 #[.val (.ref a1), .val (.ref y1), .val (.long u2), .second, .val (.ref x4), .val (.ref x5), .val (.int p6), .val (.int p7), .val (.ref x8)] [(.ref y1)])) _
    refine XS.pop X2.here hx rfl (hb hby d19_8) rfl rfl ?_
    show Steps p.tables e below (T2.setTop (mkF m 9 #[.val (.ref a1), .val (.ref y1), .val (.long u2), .second, .val (.ref x4), .val (.ref x5), .val (.int p6), .val (.int p7), .val (.ref x8)] [])) _
    refine XS.aload X2.here hx rfl (hb hby d19_9) rfl rfl ?_
    show Steps p.tables e below (T2.setTop (mkF m 11 #[.val (.ref a1), .val (.ref y1), .val (.long u2), .second, .val (.ref x4), .val (.ref x5), .val (.int p6), .val (.int p7), .val (.ref x8)] [(.ref x4)])) _
    refine st3 _ ?_
    show Steps p.tables e below (T3.setTop (mkF m 14 #[.val (.ref a1), .val (.ref y1), .val (.long u2), .second, .val (.ref x4), .val (.ref x5), .val (.int p6), .val (.int p7), .val (.ref x8)] [(.ref x4)])) _
    refine XS.pop X3.here hx rfl (hb hby d19_14) rfl rfl ?_
    show Steps p.tables e below (T3.setTop (mkF m 15 #[.val (.ref a1), .val (.ref y1), .val (.long u2), .second, .val (.ref x4), .val (.ref x5), .val (.int p6), .val (.int p7), .val (.ref x8)] [])) _
    refine XS.aload X3.here hx rfl (hb hby d19_15) rfl rfl ?_
    show Steps p.tables e below (T3.setTop (mkF m 17 #[.val (.ref a1), .val (.ref y1), .val (.long u2), .second, .val (.ref x4), .val (.ref x5), .val (.int p6), .val (.int p7), .val (.ref x8)] [(.ref x5)])) _
    refine st4 _ ?_
    show Steps p.tables e below (T4.setTop (mkF m 20 #[.val (.ref a1), .val (.ref y1), .val (.long u2), .second, .val (.ref x4), .val (.ref x5), .val (.int p6), .val (.int p7), .val (.ref x8)] [(.ref r4)])) _
    refine XS.astore X4.here hx rfl (hb hby d19_20) rfl rfl (l' := #[.val (.ref a1), .val (.ref y1), .val (.long u2), .second, .val (.ref x4), .val (.ref r4), .val (.int p6), .val (.int p7), .val (.ref x8)]) rfl ?_
    show Steps p.tables e below (T4.setTop (mkF m 22 #[.val (.ref a1), .val (.ref y1), .val (.long u2), .second, .val (.ref x4), .val (.ref r4), .val (.int p6), .val (.int p7), .val (.ref x8)] [])) _
    refine XS.aload X4.here hx rfl (hb hby d19_22) rfl rfl ?_
    show Steps p.tables e below (T4.setTop (mkF m 24 #[.val (.ref a1), .val (.ref y1), .val (.long u2), .second, .val (.ref x4), .val (.ref r4), .val (.int p6), .val (.int p7), .val (.ref x8)] [(.ref x8)])) _
    refine st5 _ ?_
    show Steps p.tables e below (T5.setTop (mkF m 27 #[.val (.ref a1), .val (.ref y1), .val (.long u2), .second, .val (.ref x4), .val (.ref r4), .val (.int p6), .val (.int p7), .val (.ref x8)] [(.ref w_el)])) _
    refine XS.astore X5.here hx rfl (hb hby d19_27) rfl rfl (l' := #[.val (.ref a1), .val (.ref y1), .val (.long u2), .second, .val (.ref x4), .val (.ref r4), .val (.int p6), .val (.int p7), .val (.ref w_el)]) rfl ?_
    show Steps p.tables e below (T5.setTop (mkF m 29 #[.val (.ref a1), .val (.ref y1), .val (.long u2), .second, .val (.ref x4), .val (.ref r4), .val (.int p6), .val (.int p7), .val (.ref w_el)] [])) _
    refine XS.aload X5.here hx rfl (hb hby d19_29) rfl rfl ?_
    show Steps p.tables e below (T5.setTop (mkF m 31 #[.val (.ref a1), .val (.ref y1), .val (.long u2), .second, .val (.ref x4), .val (.ref r4), .val (.int p6), .val (.int p7), .val (.ref w_el)] [(.ref r4)])) _
    refine st6.trans ?_
    show Steps p.tables e below (T6.setTop (mkF m 36 #[.val (.ref a1), .val (.ref y1), .val (.long u2), .second, .val (.ref x4), .val (.ref r4), .val (.int p6), .val (.int p7), .val (.ref w_el)] [(.int (1 : Int32))])) _
    refine XS.aload X6.here hx rfl (hb hby d19_36) rfl rfl ?_
    show Steps p.tables e below (T6.setTop (mkF m 38 #[.val (.ref a1), .val (.ref y1), .val (.long u2), .second, .val (.ref x4), .val (.ref r4), .val (.int p6), .val (.int p7), .val (.ref w_el)] [(.ref x4), (.int (1 : Int32))])) _
    refine st7.trans ?_
    show Steps p.tables e below (T7.setTop (mkF m 41 #[.val (.ref a1), .val (.ref y1), .val (.long u2), .second, .val (.ref x4), .val (.ref r4), .val (.int p6), .val (.int p7), .val (.ref w_el)] [(.ref w_el), (.int (1 : Int32))])) _
    refine st8.trans ?_
    show Steps p.tables e below (T8.setTop (mkF m 46 #[.val (.ref a1), .val (.ref y1), .val (.long u2), .second, .val (.ref x4), .val (.ref r4), .val (.int p6), .val (.int p7), .val (.ref w_el)] [(.int (0 : Int32)), (.int (1 : Int32))])) _
    refine XS.iconst X8.here hx rfl (hb hby d19_46) ?_
    show Steps p.tables e below (T8.setTop (mkF m 47 #[.val (.ref a1), .val (.ref y1), .val (.long u2), .second, .val (.ref x4), .val (.ref r4), .val (.int p6), .val (.int p7), .val (.ref w_el)] [(.int (1 : Int32)), (.int (0 : Int32)), (.int (1 : Int32))])) _
    refine XS.iadd X8.here hx rfl (hb hby d19_47) rfl ?_
    show Steps p.tables e below (T8.setTop (mkF m 48 #[.val (.ref a1), .val (.ref y1), .val (.long u2), .second, .val (.ref x4), .val (.ref r4), .val (.int p6), .val (.int p7), .val (.ref w_el)] [(.int ((0 : Int32) + (1 : Int32))), (.int (1 : Int32))])) _
    rw [show ((0 : Int32) + (1 : Int32)) = (1 : Int32) from by decide]
    show Steps p.tables e below (T8.setTop (mkF m 48 #[.val (.ref a1), .val (.ref y1), .val (.long u2), .second, .val (.ref x4), .val (.ref r4), .val (.int p6), .val (.int p7), .val (.ref w_el)] [(.int (1 : Int32)), (.int (1 : Int32))])) _
    refine XS.icmpYes X8.here hx rfl (pc0 := 48) (pc' := 81) rfl (hb hby d19_48) rfl (teq (by decide : (1 : Int32) = (1 : Int32))).1 (by decide) (by decide) ?_
    show Steps p.tables e below (T8.setTop (mkF m 81 #[.val (.ref a1), .val (.ref y1), .val (.long u2), .second, .val (.ref x4), .val (.ref r4), .val (.int p6), .val (.int p7), .val (.ref w_el)] [])) _
    refine XS.aloadN X8.here hx rfl (hb hby d19_81) rfl rfl ?_
    show Steps p.tables e below (T8.setTop (mkF m 82 #[.val (.ref a1), .val (.ref y1), .val (.long u2), .second, .val (.ref x4), .val (.ref r4), .val (.int p6), .val (.int p7), .val (.ref w_el)] [(.ref a1)])) _
    refine XS.aloadN X8.here hx rfl (hb hby d19_82) rfl rfl ?_
    show Steps p.tables e below (T8.setTop (mkF m 83 #[.val (.ref a1), .val (.ref y1), .val (.long u2), .second, .val (.ref x4), .val (.ref r4), .val (.int p6), .val (.int p7), .val (.ref w_el)] [(.ref y1), (.ref a1)])) _
    refine st9 _ ?_
    show Steps p.tables e below (T9.setTop (mkF m 86 #[.val (.ref a1), .val (.ref y1), .val (.long u2), .second, .val (.ref x4), .val (.ref r4), .val (.int p6), .val (.int p7), .val (.ref w_el)] [])) _
    refine XS.aloadN X9.here hx rfl (hb hby d19_86) rfl rfl ?_
    show Steps p.tables e below (T9.setTop (mkF m 87 #[.val (.ref a1), .val (.ref y1), .val (.long u2), .second, .val (.ref x4), .val (.ref r4), .val (.int p6), .val (.int p7), .val (.ref w_el)] [(.ref a1)])) _
    refine XS.lloadN X9.here hx rfl (hb hby d19_87) rfl ?_
    show Steps p.tables e below (T9.setTop (mkF m 88 #[.val (.ref a1), .val (.ref y1), .val (.long u2), .second, .val (.ref x4), .val (.ref r4), .val (.int p6), .val (.int p7), .val (.ref w_el)] [(.long u2), (.ref a1)])) _
    refine st10 _ ?_
    show Steps p.tables e below (T10.setTop (mkF m 91 #[.val (.ref a1), .val (.ref y1), .val (.long u2), .second, .val (.ref x4), .val (.ref r4), .val (.int p6), .val (.int p7), .val (.ref w_el)] [])) _
    refine XS.aloadN X10.here hx rfl (hb hby d19_91) rfl rfl ?_
    show Steps p.tables e below (T10.setTop (mkF m 92 #[.val (.ref a1), .val (.ref y1), .val (.long u2), .second, .val (.ref x4), .val (.ref r4), .val (.int p6), .val (.int p7), .val (.ref w_el)] [(.ref a1)])) _
    refine XS.aload X10.here hx rfl (hb hby d19_92) rfl rfl ?_
    show Steps p.tables e below (T10.setTop (mkF m 94 #[.val (.ref a1), .val (.ref y1), .val (.long u2), .second, .val (.ref x4), .val (.ref r4), .val (.int p6), .val (.int p7), .val (.ref w_el)] [(.ref x4), (.ref a1)])) _
    refine st11 _ ?_
    show Steps p.tables e below (T11.setTop (mkF m 97 #[.val (.ref a1), .val (.ref y1), .val (.long u2), .second, .val (.ref x4), .val (.ref r4), .val (.int p6), .val (.int p7), .val (.ref w_el)] [])) _
    refine XS.aloadN X11.here hx rfl (hb hby d19_97) rfl rfl ?_
    show Steps p.tables e below (T11.setTop (mkF m 98 #[.val (.ref a1), .val (.ref y1), .val (.long u2), .second, .val (.ref x4), .val (.ref r4), .val (.int p6), .val (.int p7), .val (.ref w_el)] [(.ref a1)])) _
    refine XS.aload X11.here hx rfl (hb hby d19_98) rfl rfl ?_
    show Steps p.tables e below (T11.setTop (mkF m 100 #[.val (.ref a1), .val (.ref y1), .val (.long u2), .second, .val (.ref x4), .val (.ref r4), .val (.int p6), .val (.int p7), .val (.ref w_el)] [(.ref r4), (.ref a1)])) _
    refine st12 _ ?_
    show Steps p.tables e below (T12.setTop (mkF m 103 #[.val (.ref a1), .val (.ref y1), .val (.long u2), .second, .val (.ref x4), .val (.ref r4), .val (.int p6), .val (.int p7), .val (.ref w_el)] [])) _
    refine XS.aloadN X12.here hx rfl (hb hby d19_103) rfl rfl ?_
    show Steps p.tables e below (T12.setTop (mkF m 104 #[.val (.ref a1), .val (.ref y1), .val (.long u2), .second, .val (.ref x4), .val (.ref r4), .val (.int p6), .val (.int p7), .val (.ref w_el)] [(.ref a1)])) _
    refine XS.iload X12.here hx rfl (hb hby d19_104) rfl ?_
    show Steps p.tables e below (T12.setTop (mkF m 106 #[.val (.ref a1), .val (.ref y1), .val (.long u2), .second, .val (.ref x4), .val (.ref r4), .val (.int p6), .val (.int p7), .val (.ref w_el)] [(.int p6), (.ref a1)])) _
    refine st13 _ ?_
    show Steps p.tables e below (T13.setTop (mkF m 109 #[.val (.ref a1), .val (.ref y1), .val (.long u2), .second, .val (.ref x4), .val (.ref r4), .val (.int p6), .val (.int p7), .val (.ref w_el)] [])) _
    refine XS.aloadN X13.here hx rfl (hb hby d19_109) rfl rfl ?_
    show Steps p.tables e below (T13.setTop (mkF m 110 #[.val (.ref a1), .val (.ref y1), .val (.long u2), .second, .val (.ref x4), .val (.ref r4), .val (.int p6), .val (.int p7), .val (.ref w_el)] [(.ref a1)])) _
    refine XS.iload X13.here hx rfl (hb hby d19_110) rfl ?_
    show Steps p.tables e below (T13.setTop (mkF m 112 #[.val (.ref a1), .val (.ref y1), .val (.long u2), .second, .val (.ref x4), .val (.ref r4), .val (.int p6), .val (.int p7), .val (.ref w_el)] [(.int p7), (.ref a1)])) _
    refine st14 _ ?_
    show Steps p.tables e below (T14.setTop (mkF m 115 #[.val (.ref a1), .val (.ref y1), .val (.long u2), .second, .val (.ref x4), .val (.ref r4), .val (.int p6), .val (.int p7), .val (.ref w_el)] [])) _
    refine XS.aloadN X14.here hx rfl (hb hby d19_115) rfl rfl ?_
    show Steps p.tables e below (T14.setTop (mkF m 116 #[.val (.ref a1), .val (.ref y1), .val (.long u2), .second, .val (.ref x4), .val (.ref r4), .val (.int p6), .val (.int p7), .val (.ref w_el)] [(.ref a1)])) _
    refine XS.aload X14.here hx rfl (hb hby d19_116) rfl rfl ?_
    show Steps p.tables e below (T14.setTop (mkF m 118 #[.val (.ref a1), .val (.ref y1), .val (.long u2), .second, .val (.ref x4), .val (.ref r4), .val (.int p6), .val (.int p7), .val (.ref w_el)] [(.ref w_el), (.ref a1)])) _
    refine st15 _ ?_
    show Steps p.tables e below (T15.setTop (mkF m 121 #[.val (.ref a1), .val (.ref y1), .val (.long u2), .second, .val (.ref x4), .val (.ref r4), .val (.int p6), .val (.int p7), .val (.ref w_el)] [])) _
    exact X15.returnOut hx Bd.returns (hb hby d19_121) hr
  · show QLk Z a1 p6 p7 h0 n0 _ T15.heap _
    rw [e15]
    exact ⟨rfl, N15, K15, E15_a1, F15_firstSuspect, F15_endSuspect⟩
theorem d31_0 : decode prog_33_method_3_code 0 = .ok (.iload_n 1, 1) := by decide +kernel
theorem d31_1 : decode prog_33_method_3_code 1 = .ok (.aload_n 0, 1) := by decide +kernel
theorem d31_2 : decode prog_33_method_3_code 2 = .ok (.getfield 56, 3) := by decide +kernel
theorem d31_5 : decode prog_33_method_3_code 5 = .ok (.if_icmp .lt 15, 3) := by decide +kernel
theorem d31_20 : decode prog_33_method_3_code 20 = .ok (.iconst 0, 1) := by decide +kernel
theorem d31_21 : decode prog_33_method_3_code 21 = .ok (.ireturn, 1) := by decide +kernel
theorem ef_31_RI (m : MethodId) (x0 : Addr) (x1 : Int32) : entryFrame m #[(.ref x0), (.int x1)] 2 = mkF m 0 #[.val (.ref x0), .val (.int x1)] [] := by first | (simp [entryFrame, mkF, argsToLocals, Value.category]; done) | (simp [entryFrame, mkF, argsToLocals, own_cr, own_ci, own_cj]; done) | rfl
set_option maxRecDepth 65536 in
set_option maxHeartbeats 40000000 in
theorem susp_a (l : Launch) (Z : State) (a0 : Array Value) (hw : ∀ d ∈ tables_1, d.before a0 Z = true) (ws : List Jvm.Cond) (a1 : Addr) (p1 p6 p7 : Int32) (h0 : Heap) (n0 : Nat) (Z0 : n0 ≤ h0.size) (F_f : Fld Z h0 a1 "com/example/refleash/refleash/heap/Leak" "firstSuspect" "I" (.int p6)) (F_e : Fld Z h0 a1 "com/example/refleash/refleash/heap/Leak" "endSuspect" "I" (.int p7)) (hA : p1 < p6) :
    MetFree l (⟨"com/example/refleash/refleash/heap/Leak", "isSuspect", "(I)Z"⟩ : MethodName) (head1 (Jvm.Cond.code (⟨"com/example/refleash/refleash/heap/Leak", "isSuspect", "(I)Z"⟩ : MethodName) prog_33_method_3_code 2 (some .boolean) :: ws) ({ frames := 0, cells := 0, slots := 0, locals := 0 } : Room)) (fun a U => a = #[(.ref a1), (.int p1)] ∧ Z.Warmed39 U.vm ∧ U.heap = h0) (fun _ _ _ _ _ => True) (fun _ U o U' => ∃ v L, o = .returned v ∧ QG (.int (0 : Int32)) h0 n0 v U'.heap L ∧ FrameEnd U o U' L ({ frames := 0, cells := 0, slots := 0, locals := 0 } : Room).cells ({ frames := 0, cells := 0, slots := 0, locals := 0 } : Room).slots) := by
  refine MetFree.of_bodySF (plainFor_of_name pn_com_example_refleash_refleash_heap_Leak) hisR ?_
  intro p e s m args below meth c s₁ Bd hml0 hP hK
  obtain ⟨rfl, hZ, hh⟩ := hP
  have hx := Bd.exec
  have hby := Bd.bytes
  have hml : c.maxLocals = 2 := hml0
  have hown : s.vm.findClass "com/example/refleash/refleash/heap/Leak" = some m.cls := findClass_of_methodNamed Bd.named
  have hnm := (name_of_methodNamed Bd.named Bd.method).1
  have X0 : Stand p l e ({ frames := 0, cells := 0, slots := 0, locals := 0 } : Room) s m #[(.ref a1), (.int p1)] below meth c s₁ [] 0 0 := Stand.of_body Bd
  have e0 : s₁.heap = h0 := by rw [← hh, Bd.state]; rfl
  have N0 := Fr.nil n0
  have pre0 : ∀ t, Steps p.tables e below (s₁.setTop (mkF m 0 #[.val (.ref a1), .val (.int p1)] [])) t → Steps p.tables e below (s₁.setTop (entryFrame m #[(.ref a1), (.int p1)] 2)) t := fun t k => castTop (ef_31_RI m a1 p1) k
  obtain ⟨T1, X1, e1, st1⟩ := getF X0 hx hZ hown (host := "") (Or.inl (hw _ (List.mem_of_getElem? (i := 256) rfl))) Via.refl e0 F_f (g := (mkF m 2 #[.val (.ref a1), .val (.int p1)] [(.ref a1), (.int p1)])) rfl rfl (hb hby d31_2)
  obtain ⟨fs, hr, hrun, hended, hW, hsame⟩ := X1.leave (v := some (.int (0 : Int32))) (fun h => by rw [Bd.returns] at h; cases h)
  refine ⟨_, _, pre0 _ ?_, hrun, hended, _, _, rfl, ?_, ⟨_, rfl⟩, hW, hsame.mono (by decide) (by decide)⟩
  · show Steps p.tables e below (s₁.setTop (mkF m 0 #[.val (.ref a1), .val (.int p1)] [])) _
    refine XS.iloadN X0.here hx rfl (hb hby d31_0) rfl ?_
    show Steps p.tables e below (s₁.setTop (mkF m 1 #[.val (.ref a1), .val (.int p1)] [(.int p1)])) _
    refine XS.aloadN X0.here hx rfl (hb hby d31_1) rfl rfl ?_
    show Steps p.tables e below (s₁.setTop (mkF m 2 #[.val (.ref a1), .val (.int p1)] [(.ref a1), (.int p1)])) _
    refine st1 _ ?_
    show Steps p.tables e below (T1.setTop (mkF m 5 #[.val (.ref a1), .val (.int p1)] [(.int p6), (.int p1)])) _
    refine XS.icmpYes X1.here hx rfl (pc0 := 5) (pc' := 20) rfl (hb hby d31_5) rfl (tlt (hA : p1 < p6)).1 (by decide) (by decide) ?_
    show Steps p.tables e below (T1.setTop (mkF m 20 #[.val (.ref a1), .val (.int p1)] [])) _
    refine XS.iconst X1.here hx rfl (hb hby d31_20) ?_
    show Steps p.tables e below (T1.setTop (mkF m 21 #[.val (.ref a1), .val (.int p1)] [(.int (0 : Int32))])) _
    exact retOut X1 hx Bd.returns rfl (Or.inl ⟨rfl, Or.inr (Or.inl rfl), _, rfl⟩) (hb hby d31_21) hr
  · show QG (.int (0 : Int32)) h0 n0 _ T1.heap _
    rw [e1]
    exact ⟨rfl, N0, rfl⟩
theorem d31_8 : decode prog_33_method_3_code 8 = .ok (.iload_n 1, 1) := by decide +kernel
theorem d31_9 : decode prog_33_method_3_code 9 = .ok (.aload_n 0, 1) := by decide +kernel
theorem d31_10 : decode prog_33_method_3_code 10 = .ok (.getfield 60, 3) := by decide +kernel
theorem d31_13 : decode prog_33_method_3_code 13 = .ok (.if_icmp .ge 7, 3) := by decide +kernel
set_option maxRecDepth 65536 in
set_option maxHeartbeats 40000000 in
theorem susp_b (l : Launch) (Z : State) (a0 : Array Value) (hw : ∀ d ∈ tables_1, d.before a0 Z = true) (ws : List Jvm.Cond) (a1 : Addr) (p1 p6 p7 : Int32) (h0 : Heap) (n0 : Nat) (Z0 : n0 ≤ h0.size) (F_f : Fld Z h0 a1 "com/example/refleash/refleash/heap/Leak" "firstSuspect" "I" (.int p6)) (F_e : Fld Z h0 a1 "com/example/refleash/refleash/heap/Leak" "endSuspect" "I" (.int p7)) (hA : ¬ (p1 < p6)) (hB : ¬ (p1 < p7)) :
    MetFree l (⟨"com/example/refleash/refleash/heap/Leak", "isSuspect", "(I)Z"⟩ : MethodName) (head1 (Jvm.Cond.code (⟨"com/example/refleash/refleash/heap/Leak", "isSuspect", "(I)Z"⟩ : MethodName) prog_33_method_3_code 2 (some .boolean) :: ws) ({ frames := 0, cells := 0, slots := 0, locals := 0 } : Room)) (fun a U => a = #[(.ref a1), (.int p1)] ∧ Z.Warmed39 U.vm ∧ U.heap = h0) (fun _ _ _ _ _ => True) (fun _ U o U' => ∃ v L, o = .returned v ∧ QG (.int (0 : Int32)) h0 n0 v U'.heap L ∧ FrameEnd U o U' L ({ frames := 0, cells := 0, slots := 0, locals := 0 } : Room).cells ({ frames := 0, cells := 0, slots := 0, locals := 0 } : Room).slots) := by
  refine MetFree.of_bodySF (plainFor_of_name pn_com_example_refleash_refleash_heap_Leak) hisR ?_
  intro p e s m args below meth c s₁ Bd hml0 hP hK
  obtain ⟨rfl, hZ, hh⟩ := hP
  have hx := Bd.exec
  have hby := Bd.bytes
  have hml : c.maxLocals = 2 := hml0
  have hown : s.vm.findClass "com/example/refleash/refleash/heap/Leak" = some m.cls := findClass_of_methodNamed Bd.named
  have hnm := (name_of_methodNamed Bd.named Bd.method).1
  have X0 : Stand p l e ({ frames := 0, cells := 0, slots := 0, locals := 0 } : Room) s m #[(.ref a1), (.int p1)] below meth c s₁ [] 0 0 := Stand.of_body Bd
  have e0 : s₁.heap = h0 := by rw [← hh, Bd.state]; rfl
  have N0 := Fr.nil n0
  have pre0 : ∀ t, Steps p.tables e below (s₁.setTop (mkF m 0 #[.val (.ref a1), .val (.int p1)] [])) t → Steps p.tables e below (s₁.setTop (entryFrame m #[(.ref a1), (.int p1)] 2)) t := fun t k => castTop (ef_31_RI m a1 p1) k
  obtain ⟨T1, X1, e1, st1⟩ := getF X0 hx hZ hown (host := "") (Or.inl (hw _ (List.mem_of_getElem? (i := 256) rfl))) Via.refl e0 F_f (g := (mkF m 2 #[.val (.ref a1), .val (.int p1)] [(.ref a1), (.int p1)])) rfl rfl (hb hby d31_2)
  obtain ⟨T2, X2, e2, st2⟩ := getF X1 hx hZ hown (host := "") (Or.inl (hw _ (List.mem_of_getElem? (i := 258) rfl))) Via.refl e1 F_e (g := (mkF m 10 #[.val (.ref a1), .val (.int p1)] [(.ref a1), (.int p1)])) rfl rfl (hb hby d31_10)
  obtain ⟨fs, hr, hrun, hended, hW, hsame⟩ := X2.leave (v := some (.int (0 : Int32))) (fun h => by rw [Bd.returns] at h; cases h)
  refine ⟨_, _, pre0 _ ?_, hrun, hended, _, _, rfl, ?_, ⟨_, rfl⟩, hW, hsame.mono (by decide) (by decide)⟩
  · show Steps p.tables e below (s₁.setTop (mkF m 0 #[.val (.ref a1), .val (.int p1)] [])) _
    refine XS.iloadN X0.here hx rfl (hb hby d31_0) rfl ?_
    show Steps p.tables e below (s₁.setTop (mkF m 1 #[.val (.ref a1), .val (.int p1)] [(.int p1)])) _
    refine XS.aloadN X0.here hx rfl (hb hby d31_1) rfl rfl ?_
    show Steps p.tables e below (s₁.setTop (mkF m 2 #[.val (.ref a1), .val (.int p1)] [(.ref a1), (.int p1)])) _
    refine st1 _ ?_
    show Steps p.tables e below (T1.setTop (mkF m 5 #[.val (.ref a1), .val (.int p1)] [(.int p6), (.int p1)])) _
    refine XS.icmpNo X1.here hx rfl (hb hby d31_5) rfl (flt (hA : ¬ (p1 < p6))).1 ?_
    show Steps p.tables e below (T1.setTop (mkF m 8 #[.val (.ref a1), .val (.int p1)] [])) _
    refine XS.iloadN X1.here hx rfl (hb hby d31_8) rfl ?_
    show Steps p.tables e below (T1.setTop (mkF m 9 #[.val (.ref a1), .val (.int p1)] [(.int p1)])) _
    refine XS.aloadN X1.here hx rfl (hb hby d31_9) rfl rfl ?_
    show Steps p.tables e below (T1.setTop (mkF m 10 #[.val (.ref a1), .val (.int p1)] [(.ref a1), (.int p1)])) _
    refine st2 _ ?_
    show Steps p.tables e below (T2.setTop (mkF m 13 #[.val (.ref a1), .val (.int p1)] [(.int p7), (.int p1)])) _
    refine XS.icmpYes X2.here hx rfl (pc0 := 13) (pc' := 20) rfl (hb hby d31_13) rfl (flt (hB : ¬ (p1 < p7))).2.1 (by decide) (by decide) ?_
    show Steps p.tables e below (T2.setTop (mkF m 20 #[.val (.ref a1), .val (.int p1)] [])) _
    refine XS.iconst X2.here hx rfl (hb hby d31_20) ?_
    show Steps p.tables e below (T2.setTop (mkF m 21 #[.val (.ref a1), .val (.int p1)] [(.int (0 : Int32))])) _
    exact retOut X2 hx Bd.returns rfl (Or.inl ⟨rfl, Or.inr (Or.inl rfl), _, rfl⟩) (hb hby d31_21) hr
  · show QG (.int (0 : Int32)) h0 n0 _ T2.heap _
    rw [e2]
    exact ⟨rfl, N0, rfl⟩
theorem d31_16 : decode prog_33_method_3_code 16 = .ok (.iconst 1, 1) := by decide +kernel
theorem d31_17 : decode prog_33_method_3_code 17 = .ok (.goto 4, 3) := by decide +kernel
set_option maxRecDepth 65536 in
set_option maxHeartbeats 40000000 in
theorem susp_1 (l : Launch) (Z : State) (a0 : Array Value) (hw : ∀ d ∈ tables_1, d.before a0 Z = true) (ws : List Jvm.Cond) (a1 : Addr) (p1 p6 p7 : Int32) (h0 : Heap) (n0 : Nat) (Z0 : n0 ≤ h0.size) (F_f : Fld Z h0 a1 "com/example/refleash/refleash/heap/Leak" "firstSuspect" "I" (.int p6)) (F_e : Fld Z h0 a1 "com/example/refleash/refleash/heap/Leak" "endSuspect" "I" (.int p7)) (hA : ¬ (p1 < p6)) (hB : p1 < p7) :
    MetFree l (⟨"com/example/refleash/refleash/heap/Leak", "isSuspect", "(I)Z"⟩ : MethodName) (head1 (Jvm.Cond.code (⟨"com/example/refleash/refleash/heap/Leak", "isSuspect", "(I)Z"⟩ : MethodName) prog_33_method_3_code 2 (some .boolean) :: ws) ({ frames := 0, cells := 0, slots := 0, locals := 0 } : Room)) (fun a U => a = #[(.ref a1), (.int p1)] ∧ Z.Warmed39 U.vm ∧ U.heap = h0) (fun _ _ _ _ _ => True) (fun _ U o U' => ∃ v L, o = .returned v ∧ QG (.int (1 : Int32)) h0 n0 v U'.heap L ∧ FrameEnd U o U' L ({ frames := 0, cells := 0, slots := 0, locals := 0 } : Room).cells ({ frames := 0, cells := 0, slots := 0, locals := 0 } : Room).slots) := by
  refine MetFree.of_bodySF (plainFor_of_name pn_com_example_refleash_refleash_heap_Leak) hisR ?_
  intro p e s m args below meth c s₁ Bd hml0 hP hK
  obtain ⟨rfl, hZ, hh⟩ := hP
  have hx := Bd.exec
  have hby := Bd.bytes
  have hml : c.maxLocals = 2 := hml0
  have hown : s.vm.findClass "com/example/refleash/refleash/heap/Leak" = some m.cls := findClass_of_methodNamed Bd.named
  have hnm := (name_of_methodNamed Bd.named Bd.method).1
  have X0 : Stand p l e ({ frames := 0, cells := 0, slots := 0, locals := 0 } : Room) s m #[(.ref a1), (.int p1)] below meth c s₁ [] 0 0 := Stand.of_body Bd
  have e0 : s₁.heap = h0 := by rw [← hh, Bd.state]; rfl
  have N0 := Fr.nil n0
  have pre0 : ∀ t, Steps p.tables e below (s₁.setTop (mkF m 0 #[.val (.ref a1), .val (.int p1)] [])) t → Steps p.tables e below (s₁.setTop (entryFrame m #[(.ref a1), (.int p1)] 2)) t := fun t k => castTop (ef_31_RI m a1 p1) k
  obtain ⟨T1, X1, e1, st1⟩ := getF X0 hx hZ hown (host := "") (Or.inl (hw _ (List.mem_of_getElem? (i := 256) rfl))) Via.refl e0 F_f (g := (mkF m 2 #[.val (.ref a1), .val (.int p1)] [(.ref a1), (.int p1)])) rfl rfl (hb hby d31_2)
  obtain ⟨T2, X2, e2, st2⟩ := getF X1 hx hZ hown (host := "") (Or.inl (hw _ (List.mem_of_getElem? (i := 258) rfl))) Via.refl e1 F_e (g := (mkF m 10 #[.val (.ref a1), .val (.int p1)] [(.ref a1), (.int p1)])) rfl rfl (hb hby d31_10)
  obtain ⟨fs, hr, hrun, hended, hW, hsame⟩ := X2.leave (v := some (.int (1 : Int32))) (fun h => by rw [Bd.returns] at h; cases h)
  refine ⟨_, _, pre0 _ ?_, hrun, hended, _, _, rfl, ?_, ⟨_, rfl⟩, hW, hsame.mono (by decide) (by decide)⟩
  · show Steps p.tables e below (s₁.setTop (mkF m 0 #[.val (.ref a1), .val (.int p1)] [])) _
    refine XS.iloadN X0.here hx rfl (hb hby d31_0) rfl ?_
    show Steps p.tables e below (s₁.setTop (mkF m 1 #[.val (.ref a1), .val (.int p1)] [(.int p1)])) _
    refine XS.aloadN X0.here hx rfl (hb hby d31_1) rfl rfl ?_
    show Steps p.tables e below (s₁.setTop (mkF m 2 #[.val (.ref a1), .val (.int p1)] [(.ref a1), (.int p1)])) _
    refine st1 _ ?_
    show Steps p.tables e below (T1.setTop (mkF m 5 #[.val (.ref a1), .val (.int p1)] [(.int p6), (.int p1)])) _
    refine XS.icmpNo X1.here hx rfl (hb hby d31_5) rfl (flt (hA : ¬ (p1 < p6))).1 ?_
    show Steps p.tables e below (T1.setTop (mkF m 8 #[.val (.ref a1), .val (.int p1)] [])) _
    refine XS.iloadN X1.here hx rfl (hb hby d31_8) rfl ?_
    show Steps p.tables e below (T1.setTop (mkF m 9 #[.val (.ref a1), .val (.int p1)] [(.int p1)])) _
    refine XS.aloadN X1.here hx rfl (hb hby d31_9) rfl rfl ?_
    show Steps p.tables e below (T1.setTop (mkF m 10 #[.val (.ref a1), .val (.int p1)] [(.ref a1), (.int p1)])) _
    refine st2 _ ?_
    show Steps p.tables e below (T2.setTop (mkF m 13 #[.val (.ref a1), .val (.int p1)] [(.int p7), (.int p1)])) _
    refine XS.icmpNo X2.here hx rfl (hb hby d31_13) rfl (tlt (hB : p1 < p7)).2.1 ?_
    show Steps p.tables e below (T2.setTop (mkF m 16 #[.val (.ref a1), .val (.int p1)] [])) _
    refine XS.iconst X2.here hx rfl (hb hby d31_16) ?_
    show Steps p.tables e below (T2.setTop (mkF m 17 #[.val (.ref a1), .val (.int p1)] [(.int (1 : Int32))])) _
    refine XS.goto X2.here hx rfl (pc0 := 17) (pc' := 21) rfl (hb hby d31_17) (by decide) (by decide) ?_
    show Steps p.tables e below (T2.setTop (mkF m 21 #[.val (.ref a1), .val (.int p1)] [(.int (1 : Int32))])) _
    exact retOut X2 hx Bd.returns rfl (Or.inl ⟨rfl, Or.inr (Or.inl rfl), _, rfl⟩) (hb hby d31_21) hr
  · show QG (.int (1 : Int32)) h0 n0 _ T2.heap _
    rw [e2]
    exact ⟨rfl, N0, rfl⟩
theorem susp_0 (l : Launch) (Z : State) (a0 : Array Value) (hw : ∀ d ∈ tables_1, d.before a0 Z = true) (ws : List Jvm.Cond) (a1 : Addr) (p1 p6 p7 : Int32) (h0 : Heap) (n0 : Nat) (Z0 : n0 ≤ h0.size) (F_f : Fld Z h0 a1 "com/example/refleash/refleash/heap/Leak" "firstSuspect" "I" (.int p6)) (F_e : Fld Z h0 a1 "com/example/refleash/refleash/heap/Leak" "endSuspect" "I" (.int p7)) (hO : p1 < p6 ∨ ¬ (p1 < p7)) :
    MetFree l (⟨"com/example/refleash/refleash/heap/Leak", "isSuspect", "(I)Z"⟩ : MethodName) (head1 (Jvm.Cond.code (⟨"com/example/refleash/refleash/heap/Leak", "isSuspect", "(I)Z"⟩ : MethodName) prog_33_method_3_code 2 (some .boolean) :: ws) ({ frames := 0, cells := 0, slots := 0, locals := 0 } : Room)) (fun a U => a = #[(.ref a1), (.int p1)] ∧ Z.Warmed39 U.vm ∧ U.heap = h0) (fun _ _ _ _ _ => True) (fun _ U o U' => ∃ v L, o = .returned v ∧ QG (.int (0 : Int32)) h0 n0 v U'.heap L ∧ FrameEnd U o U' L ({ frames := 0, cells := 0, slots := 0, locals := 0 } : Room).cells ({ frames := 0, cells := 0, slots := 0, locals := 0 } : Room).slots) := by
  by_cases hA : p1 < p6
  · exact susp_a l Z a0 hw ws a1 p1 p6 p7 h0 n0 Z0 F_f F_e hA
  · exact susp_b l Z a0 hw ws a1 p1 p6 p7 h0 n0 Z0 F_f F_e hA (hO.resolve_left hA)
theorem own_sub (a b : Int32) : (a.toInt64 - b.toInt64).toInt = a.toInt - b.toInt := by
  have h := c_lsub a.toInt64 b.toInt64
  have r := rng64 (a.toInt64 - b.toInt64)
  have ra := rng32 a
  have rb := rng32 b
  rw [c_i2l, c_i2l] at h
  omega
theorem own_neg (a b : Int32) : (a.toInt64 - b.toInt64) < (0 : Int64) ↔ a < b := by
  rw [Int64.lt_iff_toInt_lt, Int32.lt_iff_toInt_lt, own_sub]
  have z : (0 : Int64).toInt = 0 := by decide
  rw [z]; omega
theorem own_pos (a b : Int32) : (0 : Int64) < (a.toInt64 - b.toInt64) ↔ b < a := by
  rw [Int64.lt_iff_toInt_lt, Int32.lt_iff_toInt_lt, own_sub]
  have z : (0 : Int64).toInt = 0 := by decide
  rw [z]; omega
theorem own_cmp (a b f : Int32) : (a.toInt64 - f.toInt64) < (b.toInt64 - f.toInt64) ↔ a < b := by
  rw [Int64.lt_iff_toInt_lt, Int32.lt_iff_toInt_lt, own_sub, own_sub]; omega
theorem own_irr (a : Int32) : ¬ (a < a) := by rw [Int32.lt_iff_toInt_lt]; omega
theorem pd__Lcom_example_refleash_refleash_heap_Trace_Root_Kind_Ljava_lang_String_Ljava_lang_String_Ljava_lang_String__V : parseMethodDescriptor "(Lcom/example/refleash/refleash/heap/Trace$Root$Kind;Ljava/lang/String;Ljava/lang/String;Ljava/lang/String;)V" = some ⟨[(.object "com/example/refleash/refleash/heap/Trace$Root$Kind"), (.object "java/lang/String"), (.object "java/lang/String"), (.object "java/lang/String")], none⟩ := by decide +kernel
theorem pd__JLcom_example_refleash_refleash_heap_Trace_Root_Ljava_util_List_JJ_V : parseMethodDescriptor "(JLcom/example/refleash/refleash/heap/Trace$Root;Ljava/util/List;JJ)V" = some ⟨[.long, (.object "com/example/refleash/refleash/heap/Trace$Root"), (.object "java/util/List"), .long, .long], none⟩ := by decide +kernel
theorem pd__Ljava_lang_String_Lcom_example_refleash_refleash_heap_Leak_Status_Ljava_lang_String__V : parseMethodDescriptor "(Ljava/lang/String;Lcom/example/refleash/refleash/heap/Leak$Status;Ljava/lang/String;)V" = some ⟨[(.object "java/lang/String"), (.object "com/example/refleash/refleash/heap/Leak$Status"), (.object "java/lang/String")], none⟩ := by decide +kernel
theorem pd__Ljava_lang_Object__Z : parseMethodDescriptor "(Ljava/lang/Object;)Z" = some ⟨[(.object "java/lang/Object")], some .boolean⟩ := by decide +kernel
theorem pd__Ljava_lang_String_JLcom_example_refleash_refleash_heap_Trace_Ljava_util_List_IILjava_util_List__V : parseMethodDescriptor "(Ljava/lang/String;JLcom/example/refleash/refleash/heap/Trace;Ljava/util/List;IILjava/util/List;)V" = some ⟨[(.object "java/lang/String"), .long, (.object "com/example/refleash/refleash/heap/Trace"), (.object "java/util/List"), .int, .int, (.object "java/util/List")], none⟩ := by decide +kernel
theorem pd__I_Z : parseMethodDescriptor "(I)Z" = some ⟨[.int], some .boolean⟩ := by decide +kernel
theorem ef_0_III (m : MethodId) (x0 : Int32) (x1 : Int32) (x2 : Int32) : entryFrame m #[(.int x0), (.int x1), (.int x2)] maxLocals = mkF m 0 #[.val (.int x0), .val (.int x1), .val (.int x2), .unset, .unset, .unset, .unset, .unset, .unset, .unset, .unset] [] := by first | (simp [entryFrame, mkF, argsToLocals, Value.category, maxLocals]; done) | (simp [entryFrame, mkF, argsToLocals, own_cr, own_ci, own_cj, maxLocals]; done) | rfl
theorem pn_com_example_refleash_refleash_heap_LeakIsSuspectPinLaw : plainName "com/example/refleash/refleash/heap/LeakIsSuspectPinLaw" = true := by first | (simp [plainName, overriddenIn]; done) | decide +kernel
set_option maxRecDepth 65536 in
set_option maxHeartbeats 40000000 in
theorem law_ay (l : Launch) (Z : State) (a0 : Array Value) (hw : ∀ d ∈ tables_1, d.before a0 Z = true) (ws : List Jvm.Cond) (p0 p1 p2 : Int32) (w_dc w_el w_em w_ee m_o w_CLASS w_UNKNOWN : Addr) (k_dc k_ee : ClassId) (h0 : Heap) (n0 : Nat) (Z0 : n0 ≤ h0.size) (S_dc : Sta Z h0 "java/util/ArrayList" "DEFAULTCAPACITY_EMPTY_ELEMENTDATA" "[Ljava/lang/Object;" (.ref w_dc)) (V_dc : Arv Z h0 w_dc k_dc (.object "java/lang/Object") (0 : Int32) [] .null) (S_el : Sta Z h0 "java/util/ImmutableCollections" "EMPTY_LIST" "Ljava/util/ImmutableCollections$ListN;" (.ref w_el)) (S_em : Sta Z h0 "java/util/ImmutableCollections" "EMPTY" "Ljava/lang/Object;" (.ref w_em)) (E_el : Exa Z h0 w_el "java/util/ImmutableCollections$ListN") (F_el : Fld Z h0 w_el "java/util/ImmutableCollections$ListN" "elements" "[Ljava/lang/Object;" (.ref w_ee)) (V_ee : Arv Z h0 w_ee k_ee (.object "java/lang/Object") (0 : Int32) [] .null) (M_o : Mir Z "[Ljava/lang/Object;" m_o) (S_w_CLASS : Sta Z h0 "com/example/refleash/refleash/heap/Trace$Root$Kind" "CLASS" "Lcom/example/refleash/refleash/heap/Trace$Root$Kind;" (.ref w_CLASS)) (S_w_UNKNOWN : Sta Z h0 "com/example/refleash/refleash/heap/Leak$Status" "UNKNOWN" "Lcom/example/refleash/refleash/heap/Leak$Status;" (.ref w_UNKNOWN)) (hA : p2 < p0) (hD : p0 < p1) :
    MetFree l x (head1 (Jvm.Cond.code x code maxLocals ret :: ws) room_1) (fun a U => a = #[(.int p0), (.int p1), (.int p2)] ∧ Z.Warmed39 U.vm ∧ U.heap = h0) (fun _ _ _ _ _ => True) (fun _ U o U' => ∃ v L, o = .returned v ∧ QL (some (.int (1 : Int32))) h0 n0 v U'.heap L ∧ ReturnedEndW U o U' L room_1.cells room_1.slots) := by
  refine MetFree.of_bodySF (plainFor_of_name pn_com_example_refleash_refleash_heap_LeakIsSuspectPinLaw) hisR ?_
  intro p e s m args below meth c s₁ Bd hml0 hP hK
  obtain ⟨rfl, hZ, hh⟩ := hP
  have hx := Bd.exec
  have hby := Bd.bytes
  have hml : c.maxLocals = 11 := hml0
  have hown : s.vm.findClass "com/example/refleash/refleash/heap/LeakIsSuspectPinLaw" = some m.cls := findClass_of_methodNamed Bd.named
  have hnm := (name_of_methodNamed Bd.named Bd.method).1
  have X0 : Stand p l e room_1 s m #[(.int p0), (.int p1), (.int p2)] below meth c s₁ [] 0 0 := Stand.of_body Bd
  have e0 : s₁.heap = h0 := by rw [← hh, Bd.state]; rfl
  have N0 := Fr.nil n0
  have pre0 : ∀ t, Steps p.tables e below (s₁.setTop (mkF m 0 #[.val (.int p0), .val (.int p1), .val (.int p2), .unset, .unset, .unset, .unset, .unset, .unset, .unset, .unset] [])) t → Steps p.tables e below (s₁.setTop (entryFrame m #[(.int p0), (.int p1), (.int p2)] maxLocals)) t := fun t k => castTop (ef_0_III m p0 p1 p2) k
  obtain ⟨T1, h1, X1, e1, E1, A1, D1, -, st1⟩ := newO X0 hx hZ hown (hw _ (List.mem_of_getElem? (i := 0) rfl)) (hw _ (List.mem_of_getElem? (i := 1) rfl)) (hw _ (List.mem_of_getElem? (i := 2) rfl)) e0 (g := (mkF m 0 #[.val (.int p0), .val (.int p1), .val (.int p2), .unset, .unset, .unset, .unset, .unset, .unset, .unset, .unset] [])) rfl (hb hby at_0) (by decide) (by decide)
  obtain ⟨b1, gg1⟩ : ∃ z, z = h0.size := ⟨_, rfl⟩
  rw [← gg1] at A1 D1 st1
  have sz_b1 : h0.size ≤ b1 := Nat.le_of_eq gg1.symm
  have sz0_b1 : h0.size ≤ b1 := Nat.le_trans (Keep.refl h0 []).1 sz_b1
  have g_b1 : n0 ≤ b1 := Nat.le_trans Z0 sz0_b1
  have K1q : Keep h0 h1 [] := (Keep.refl _ []).ext E1
  have K1 : Keep h0 h1 [] := (Keep.refl h0 []).ext E1
  have F1_objectId : Fld Z h1 b1 "com/example/refleash/refleash/heap/Trace" "objectId" "J" (.long (0 : Int64)) := D1 (Or.inr (hw _ (List.mem_of_getElem? (i := 99) rfl))) (ty := .long) (by decide)
  have F1_root : Fld Z h1 b1 "com/example/refleash/refleash/heap/Trace" "root" "Lcom/example/refleash/refleash/heap/Trace$Root;" .null := D1 (Or.inr (hw _ (List.mem_of_getElem? (i := 101) rfl))) (ty := (.object "com/example/refleash/refleash/heap/Trace$Root")) (by decide)
  have F1_hops : Fld Z h1 b1 "com/example/refleash/refleash/heap/Trace" "hops" "Ljava/util/List;" .null := D1 (Or.inr (hw _ (List.mem_of_getElem? (i := 103) rfl))) (ty := (.object "java/util/List")) (by decide)
  have F1_retainedBytes : Fld Z h1 b1 "com/example/refleash/refleash/heap/Trace" "retainedBytes" "J" (.long (0 : Int64)) := D1 (Or.inr (hw _ (List.mem_of_getElem? (i := 105) rfl))) (ty := .long) (by decide)
  have F1_retainedObjects : Fld Z h1 b1 "com/example/refleash/refleash/heap/Trace" "retainedObjects" "J" (.long (0 : Int64)) := D1 (Or.inr (hw _ (List.mem_of_getElem? (i := 107) rfl))) (ty := .long) (by decide)
  obtain ⟨T2, h2, X2, e2, E2, A2, D2, -, st2⟩ := newO X1 hx hZ hown (hw _ (List.mem_of_getElem? (i := 3) rfl)) (hw _ (List.mem_of_getElem? (i := 4) rfl)) (hw _ (List.mem_of_getElem? (i := 5) rfl)) e1 (g := (mkF m 5 #[.val (.int p0), .val (.int p1), .val (.int p2), .unset, .unset, .unset, .unset, .unset, .unset, .unset, .unset] [(.long (0 : Int64)), (.ref b1), (.ref b1)])) rfl (hb hby at_5) (by decide) (by decide)
  obtain ⟨b2, gg2⟩ : ∃ z, z = h1.size := ⟨_, rfl⟩
  rw [← gg2] at A2 D2 st2
  have sz_b2 : h1.size ≤ b2 := Nat.le_of_eq gg2.symm
  have sz0_b2 : h0.size ≤ b2 := Nat.le_trans K1.1 sz_b2
  have g_b2 : n0 ≤ b2 := Nat.le_trans Z0 sz0_b2
  have K2q : Keep h1 h2 [] := (Keep.refl _ []).ext E2
  have K2 : Keep h0 h2 [] := K1.ext E2
  have F2_kind : Fld Z h2 b2 "com/example/refleash/refleash/heap/Trace$Root" "kind" "Lcom/example/refleash/refleash/heap/Trace$Root$Kind;" .null := D2 (Or.inr (hw _ (List.mem_of_getElem? (i := 33) rfl))) (ty := (.object "com/example/refleash/refleash/heap/Trace$Root$Kind")) (by decide)
  have F2_className : Fld Z h2 b2 "com/example/refleash/refleash/heap/Trace$Root" "className" "Ljava/lang/String;" .null := D2 (Or.inr (hw _ (List.mem_of_getElem? (i := 35) rfl))) (ty := (.object "java/lang/String")) (by decide)
  have F2_thread : Fld Z h2 b2 "com/example/refleash/refleash/heap/Trace$Root" "thread" "Ljava/lang/String;" .null := D2 (Or.inr (hw _ (List.mem_of_getElem? (i := 37) rfl))) (ty := (.object "java/lang/String")) (by decide)
  have F2_method : Fld Z h2 b2 "com/example/refleash/refleash/heap/Trace$Root" "method" "Ljava/lang/String;" .null := D2 (Or.inr (hw _ (List.mem_of_getElem? (i := 39) rfl))) (ty := (.object "java/lang/String")) (by decide)
  obtain ⟨T3, X3, e3, st3⟩ := getS2 X2 hx hZ hown (host := "") (Or.inl (hw _ (List.mem_of_getElem? (i := 6) rfl))) Via.refl e2 (own_sta_keep S_w_CLASS K2) (g := (mkF m 9 #[.val (.int p0), .val (.int p1), .val (.int p2), .unset, .unset, .unset, .unset, .unset, .unset, .unset, .unset] [(.ref b2), (.ref b2), (.long (0 : Int64)), (.ref b1), (.ref b1)])) rfl (hb hby at_9)
  have wS : ∀ d ∈ Bundle.stringAtoms, d.before a0 Z = true := fun d hd => hw d ((by decide +kernel : ∀ d ∈ Bundle.stringAtoms, d ∈ tables_1) d hd)
  obtain ⟨a4, T4, h4, k4, X4, e4, E4, S4, hk4, hZ, hown, st4⟩ := ldcS (s := s) (vm0 := s.vm) X3 hx hZ hown (hw _ (List.mem_of_getElem? (i := 9) rfl)) wS e3 ((State.WarmedH.refl s).since 0) (Nat.zero_le _) (g := (mkF m 12 #[.val (.int p0), .val (.int p1), .val (.int p2), .unset, .unset, .unset, .unset, .unset, .unset, .unset, .unset] [(.ref w_CLASS), (.ref b2), (.ref b2), (.long (0 : Int64)), (.ref b1), (.ref b1)])) rfl (hb hby at_12) (n := 4) (by decide) (by decide) (by decide) (by decide)
  have K4q : Keep h2 h4 [] := (Keep.refl _ []).ext E4
  have K4 : Keep h0 h4 [] := K2.ext E4
  obtain ⟨_, _, ⟨T5, L5, k5, n5⟩, -, X5, ⟨Lc5, hQ5, l5, y5, z5⟩, st5⟩ := X4.specialBack hx (y := (⟨"com/example/refleash/refleash/heap/Trace$Root", "<init>", "(Lcom/example/refleash/refleash/heap/Trace$Root$Kind;Ljava/lang/String;Ljava/lang/String;Ljava/lang/String;)V"⟩ : MethodName)) rfl hown (mvT hZ (hw _ (List.mem_of_getElem? (i := 17) rfl))) (mvT hZ (hw _ (List.mem_of_getElem? (i := 18) rfl))) (mvT hZ (hw _ (List.mem_of_getElem? (i := 19) rfl))) (by decide) (backOf (W := 5) (root_init l Z a0 hw [] b2 w_CLASS a4 h4 n0 (Nat.le_trans Z0 K4.1) (F2_kind.keep K4q nin0) (F2_className.keep K4q nin0) (F2_thread.keep K4q nin0) (F2_method.keep K4q nin0) (A2.keep K4q) g_b2) hZ (hw _ (List.mem_of_getElem? (i := 19) rfl)) (hw _ (List.mem_of_getElem? (i := 5) rfl)) (by decide) (by decide)) (g := (mkF m 16 #[.val (.int p0), .val (.int p1), .val (.int p2), .unset, .unset, .unset, .unset, .unset, .unset, .unset, .unset] [.null, .null, (.ref a4), (.ref w_CLASS), (.ref b2), (.ref b2), (.long (0 : Int64)), (.ref b1), (.ref b1)])) rfl (by rw [hml]; rfl) (Steps.refl _) (a := b2) (argsL := [(.ref w_CLASS), (.ref a4), .null, .null]) (rest := [(.ref b2), (.long (0 : Int64)), (.ref b1), (.ref b1)]) (lenOf pd__Lcom_example_refleash_refleash_heap_Trace_Root_Kind_Ljava_lang_String_Ljava_lang_String_Ljava_lang_String__V rfl) rfl (by show 2 * 0 + _ ≤ _; exact Nat.le_of_eq rfl) (hb hby at_16) (fun _ _ => ⟨rfl, e4, (by decide : 4 + 0 ≤ _), (by decide : 17 + 0 ≤ _)⟩)
  dsimp only [Pt.U, Pt.locs, Pt.cells, Pt.slots] at X5 l5 y5 z5 st5 hQ5
  subst l5 y5 z5
  obtain ⟨rfl, N5q, K5q⟩ := hQ5
  have N5 := Fr.app N0 N5q
  have K5 : Keep h0 T5.heap [] := K4.trans K5q (allS (Or.inr sz0_b2) all0)
  obtain ⟨T6, h6, X6, e6, E6, A6, D6, -, st6⟩ := newO X5 hx hZ hown (hw _ (List.mem_of_getElem? (i := 40) rfl)) (hw _ (List.mem_of_getElem? (i := 41) rfl)) (hw _ (List.mem_of_getElem? (i := 42) rfl)) rfl (g := (mkF m 19 #[.val (.int p0), .val (.int p1), .val (.int p2), .unset, .unset, .unset, .unset, .unset, .unset, .unset, .unset] [(.ref b2), (.long (0 : Int64)), (.ref b1), (.ref b1)])) rfl (hb hby at_19) (by decide) (by decide)
  obtain ⟨b6, gg6⟩ : ∃ z, z = T5.heap.size := ⟨_, rfl⟩
  rw [← gg6] at A6 D6 st6
  have sz_b6 : T5.heap.size ≤ b6 := Nat.le_of_eq gg6.symm
  have sz0_b6 : h0.size ≤ b6 := Nat.le_trans K5.1 sz_b6
  have g_b6 : n0 ≤ b6 := Nat.le_trans Z0 sz0_b6
  have K6q : Keep T5.heap h6 [] := (Keep.refl _ []).ext E6
  have K6 : Keep h0 h6 [] := K5.ext E6
  have F6_modCount : Fld Z h6 b6 "java/util/AbstractList" "modCount" "I" (.int (0 : Int32)) := D6 (Or.inl (hw _ (List.mem_of_getElem? (i := 60) rfl))) (ty := .int) (by decide)
  have F6_elementData : Fld Z h6 b6 "java/util/ArrayList" "elementData" "[Ljava/lang/Object;" .null := D6 (Or.inl (hw _ (List.mem_of_getElem? (i := 63) rfl))) (ty := (.array (.object "java/lang/Object"))) (by decide)
  have F6_size : Fld Z h6 b6 "java/util/ArrayList" "size" "I" (.int (0 : Int32)) := D6 (Or.inl (hw _ (List.mem_of_getElem? (i := 93) rfl))) (ty := .int) (by decide)
  obtain ⟨_, _, ⟨T7, L7, k7, n7⟩, -, X7, ⟨Lc7, hQ7, l7, y7, z7⟩, st7⟩ := X6.specialBack hx (y := (⟨"java/util/ArrayList", "<init>", "()V"⟩ : MethodName)) rfl hown (mvT hZ (hw _ (List.mem_of_getElem? (i := 43) rfl))) (mvT hZ (hw _ (List.mem_of_getElem? (i := 44) rfl))) (mvT hZ (hw _ (List.mem_of_getElem? (i := 45) rfl))) (by decide) (backOf (W := 6) (al_init l Z a0 hw [] b6 w_dc h6 n0 (Nat.le_trans Z0 K6.1) F6_modCount F6_elementData F6_size A6 g_b6 (own_sta_keep S_dc K6)) hZ (hw _ (List.mem_of_getElem? (i := 45) rfl)) (hw _ (List.mem_of_getElem? (i := 42) rfl)) (by decide) (by decide)) (g := (mkF m 23 #[.val (.int p0), .val (.int p1), .val (.int p2), .unset, .unset, .unset, .unset, .unset, .unset, .unset, .unset] [(.ref b6), (.ref b6), (.ref b2), (.long (0 : Int64)), (.ref b1), (.ref b1)])) rfl (by rw [hml]; rfl) (Steps.refl _) (a := b6) (argsL := []) (rest := [(.ref b6), (.ref b2), (.long (0 : Int64)), (.ref b1), (.ref b1)]) (lenOf pd___V rfl) rfl (by show 2 * 0 + _ ≤ _; exact Nat.le_of_eq rfl) (hb hby at_23) (fun _ _ => ⟨rfl, e6, (by decide : 5 + 0 ≤ _), (by decide : 20 + 0 ≤ _)⟩)
  dsimp only [Pt.U, Pt.locs, Pt.cells, Pt.slots] at X7 l7 y7 z7 st7 hQ7
  subst l7 y7 z7
  obtain ⟨rfl, N7q, K7q, E7q, F7q_modCount, F7q_elementData, F7q_size⟩ := hQ7
  have N7 := Fr.app N5 N7q
  have K7 : Keep h0 T7.heap [] := K6.trans K7q (allS (Or.inr sz0_b6) all0)
  obtain ⟨_, _, ⟨T8, L8, k8, n8⟩, -, X8, ⟨Lc8, hQ8, l8, y8, z8⟩, st8⟩ := X7.specialBack hx (y := (⟨"com/example/refleash/refleash/heap/Trace", "<init>", "(JLcom/example/refleash/refleash/heap/Trace$Root;Ljava/util/List;JJ)V"⟩ : MethodName)) rfl hown (mvT hZ (hw _ (List.mem_of_getElem? (i := 64) rfl))) (mvT hZ (hw _ (List.mem_of_getElem? (i := 65) rfl))) (mvT hZ (hw _ (List.mem_of_getElem? (i := 66) rfl))) (by decide) (backOf (W := 1) (trace_init l Z a0 hw [] b1 (0 : Int64) b2 b6 (0 : Int64) (0 : Int64) w_el T7.heap n0 (Nat.le_trans Z0 K7.1) (((((F1_objectId.keep K2q nin0).keep K4q nin0).keep K5q (ninS (Nat.ne_of_lt (Nat.lt_of_lt_of_le A1.lt sz_b2)) nin0)).keep K6q nin0).keep K7q (ninS (Nat.ne_of_lt (Nat.lt_of_lt_of_le (((A1.keep K2q).keep K4q).keep K5q).lt sz_b6)) nin0)) (((((F1_root.keep K2q nin0).keep K4q nin0).keep K5q (ninS (Nat.ne_of_lt (Nat.lt_of_lt_of_le A1.lt sz_b2)) nin0)).keep K6q nin0).keep K7q (ninS (Nat.ne_of_lt (Nat.lt_of_lt_of_le (((A1.keep K2q).keep K4q).keep K5q).lt sz_b6)) nin0)) (((((F1_hops.keep K2q nin0).keep K4q nin0).keep K5q (ninS (Nat.ne_of_lt (Nat.lt_of_lt_of_le A1.lt sz_b2)) nin0)).keep K6q nin0).keep K7q (ninS (Nat.ne_of_lt (Nat.lt_of_lt_of_le (((A1.keep K2q).keep K4q).keep K5q).lt sz_b6)) nin0)) (((((F1_retainedBytes.keep K2q nin0).keep K4q nin0).keep K5q (ninS (Nat.ne_of_lt (Nat.lt_of_lt_of_le A1.lt sz_b2)) nin0)).keep K6q nin0).keep K7q (ninS (Nat.ne_of_lt (Nat.lt_of_lt_of_le (((A1.keep K2q).keep K4q).keep K5q).lt sz_b6)) nin0)) (((((F1_retainedObjects.keep K2q nin0).keep K4q nin0).keep K5q (ninS (Nat.ne_of_lt (Nat.lt_of_lt_of_le A1.lt sz_b2)) nin0)).keep K6q nin0).keep K7q (ninS (Nat.ne_of_lt (Nat.lt_of_lt_of_le (((A1.keep K2q).keep K4q).keep K5q).lt sz_b6)) nin0)) (((((A1.keep K2q).keep K4q).keep K5q).keep K6q).keep K7q) g_b1 E7q F7q_size (own_sta_keep S_el K7)) hZ (hw _ (List.mem_of_getElem? (i := 66) rfl)) (hw _ (List.mem_of_getElem? (i := 2) rfl)) (by decide) (by decide)) (g := (mkF m 28 #[.val (.int p0), .val (.int p1), .val (.int p2), .unset, .unset, .unset, .unset, .unset, .unset, .unset, .unset] [(.long (0 : Int64)), (.long (0 : Int64)), (.ref b6), (.ref b2), (.long (0 : Int64)), (.ref b1), (.ref b1)])) rfl (by rw [hml]; rfl) (Steps.refl _) (a := b1) (argsL := [(.long (0 : Int64)), (.ref b2), (.ref b6), (.long (0 : Int64)), (.long (0 : Int64))]) (rest := [(.ref b1)]) (lenOf pd__JLcom_example_refleash_refleash_heap_Trace_Root_Ljava_util_List_JJ_V rfl) rfl (by show 2 * 0 + _ ≤ _; exact Nat.le_of_eq rfl) (hb hby at_28) (fun _ _ => ⟨rfl, rfl, (by decide : 5 + 0 ≤ _), (by decide : 20 + 0 ≤ _)⟩)
  dsimp only [Pt.U, Pt.locs, Pt.cells, Pt.slots] at X8 l8 y8 z8 st8 hQ8
  subst l8 y8 z8
  obtain ⟨rfl, N8q, K8q, E8q, F8q⟩ := hQ8
  have N8 := Fr.app N7 N8q
  have K8 : Keep h0 T8.heap [] := K7.trans K8q (allS (Or.inr sz0_b1) all0)
  obtain ⟨T9, h9, X9, e9, E9, A9, D9, -, st9⟩ := newO X8 hx hZ hown (hw _ (List.mem_of_getElem? (i := 40) rfl)) (hw _ (List.mem_of_getElem? (i := 41) rfl)) (hw _ (List.mem_of_getElem? (i := 42) rfl)) rfl (g := (mkF m 32 #[.val (.int p0), .val (.int p1), .val (.int p2), .val (.ref b1), .unset, .unset, .unset, .unset, .unset, .unset, .unset] [])) rfl (hb hby at_32) (by decide) (by decide)
  obtain ⟨b9, gg9⟩ : ∃ z, z = T8.heap.size := ⟨_, rfl⟩
  rw [← gg9] at A9 D9 st9
  have sz_b9 : T8.heap.size ≤ b9 := Nat.le_of_eq gg9.symm
  have sz0_b9 : h0.size ≤ b9 := Nat.le_trans K8.1 sz_b9
  have g_b9 : n0 ≤ b9 := Nat.le_trans Z0 sz0_b9
  have K9q : Keep T8.heap h9 [] := (Keep.refl _ []).ext E9
  have K9 : Keep h0 h9 [] := K8.ext E9
  have F9_modCount : Fld Z h9 b9 "java/util/AbstractList" "modCount" "I" (.int (0 : Int32)) := D9 (Or.inl (hw _ (List.mem_of_getElem? (i := 60) rfl))) (ty := .int) (by decide)
  have F9_elementData : Fld Z h9 b9 "java/util/ArrayList" "elementData" "[Ljava/lang/Object;" .null := D9 (Or.inl (hw _ (List.mem_of_getElem? (i := 63) rfl))) (ty := (.array (.object "java/lang/Object"))) (by decide)
  have F9_size : Fld Z h9 b9 "java/util/ArrayList" "size" "I" (.int (0 : Int32)) := D9 (Or.inl (hw _ (List.mem_of_getElem? (i := 93) rfl))) (ty := .int) (by decide)
  obtain ⟨_, _, ⟨T10, L10, k10, n10⟩, -, X10, ⟨Lc10, hQ10, l10, y10, z10⟩, st10⟩ := X9.specialBack hx (y := (⟨"java/util/ArrayList", "<init>", "()V"⟩ : MethodName)) rfl hown (mvT hZ (hw _ (List.mem_of_getElem? (i := 43) rfl))) (mvT hZ (hw _ (List.mem_of_getElem? (i := 44) rfl))) (mvT hZ (hw _ (List.mem_of_getElem? (i := 45) rfl))) (by decide) (backOf (W := 1) (al_init l Z a0 hw [] b9 w_dc h9 n0 (Nat.le_trans Z0 K9.1) F9_modCount F9_elementData F9_size A9 g_b9 (own_sta_keep S_dc K9)) hZ (hw _ (List.mem_of_getElem? (i := 45) rfl)) (hw _ (List.mem_of_getElem? (i := 42) rfl)) (by decide) (by decide)) (g := (mkF m 36 #[.val (.int p0), .val (.int p1), .val (.int p2), .val (.ref b1), .unset, .unset, .unset, .unset, .unset, .unset, .unset] [(.ref b9), (.ref b9)])) rfl (by rw [hml]; rfl) (Steps.refl _) (a := b9) (argsL := []) (rest := [(.ref b9)]) (lenOf pd___V rfl) rfl (by show 2 * 0 + _ ≤ _; exact Nat.le_of_eq rfl) (hb hby at_36) (fun _ _ => ⟨rfl, e9, (by decide : 6 + 0 ≤ _), (by decide : 23 + 0 ≤ _)⟩)
  dsimp only [Pt.U, Pt.locs, Pt.cells, Pt.slots] at X10 l10 y10 z10 st10 hQ10
  subst l10 y10 z10
  obtain ⟨rfl, N10q, K10q, E10q, F10q_modCount, F10q_elementData, F10q_size⟩ := hQ10
  have N10 := Fr.app N8 N10q
  have K10 : Keep h0 T10.heap [] := K9.trans K10q (allS (Or.inr sz0_b9) all0)
  obtain ⟨T11, h11, X11, e11, E11, A11, D11, -, st11⟩ := newO X10 hx hZ hown (hw _ (List.mem_of_getElem? (i := 108) rfl)) (hw _ (List.mem_of_getElem? (i := 109) rfl)) (hw _ (List.mem_of_getElem? (i := 110) rfl)) rfl (g := (mkF m 43 #[.val (.int p0), .val (.int p1), .val (.int p2), .val (.ref b1), .val (.ref b9), .unset, .unset, .unset, .unset, .unset, .unset] [(.ref b9)])) rfl (hb hby at_43) (by decide) (by decide)
  obtain ⟨b11, gg11⟩ : ∃ z, z = T10.heap.size := ⟨_, rfl⟩
  rw [← gg11] at A11 D11 st11
  have sz_b11 : T10.heap.size ≤ b11 := Nat.le_of_eq gg11.symm
  have sz0_b11 : h0.size ≤ b11 := Nat.le_trans K10.1 sz_b11
  have g_b11 : n0 ≤ b11 := Nat.le_trans Z0 sz0_b11
  have K11q : Keep T10.heap h11 [] := (Keep.refl _ []).ext E11
  have K11 : Keep h0 h11 [] := K10.ext E11
  have F11_className : Fld Z h11 b11 "com/example/refleash/refleash/heap/Leak$Node" "className" "Ljava/lang/String;" .null := D11 (Or.inr (hw _ (List.mem_of_getElem? (i := 121) rfl))) (ty := (.object "java/lang/String")) (by decide)
  have F11_status : Fld Z h11 b11 "com/example/refleash/refleash/heap/Leak$Node" "status" "Lcom/example/refleash/refleash/heap/Leak$Status;" .null := D11 (Or.inr (hw _ (List.mem_of_getElem? (i := 123) rfl))) (ty := (.object "com/example/refleash/refleash/heap/Leak$Status")) (by decide)
  have F11_reason : Fld Z h11 b11 "com/example/refleash/refleash/heap/Leak$Node" "reason" "Ljava/lang/String;" .null := D11 (Or.inr (hw _ (List.mem_of_getElem? (i := 125) rfl))) (ty := (.object "java/lang/String")) (by decide)
  obtain ⟨a12, T12, h12, k12, X12, e12, E12, S12, hk12, hZ, hown, st12⟩ := ldcS (s := s) (vm0 := T4.vm) X11 hx hZ hown (hw _ (List.mem_of_getElem? (i := 9) rfl)) wS e11 S4 (Nat.le_trans (Nat.le_trans (Nat.le_trans (Nat.le_trans (Nat.le_trans (Nat.le_trans (Nat.le_trans hk4 K5q.1) K6q.1) K7q.1) K8q.1) K9q.1) K10q.1) K11q.1) (g := (mkF m 47 #[.val (.int p0), .val (.int p1), .val (.int p2), .val (.ref b1), .val (.ref b9), .unset, .unset, .unset, .unset, .unset, .unset] [(.ref b11), (.ref b11), (.ref b9)])) rfl (hb hby at_47) (n := 4) (by decide) (by decide) (by decide) (by decide)
  have K12q : Keep h11 h12 [] := (Keep.refl _ []).ext E12
  have K12 : Keep h0 h12 [] := K11.ext E12
  obtain ⟨T13, X13, e13, st13⟩ := getS2 X12 hx hZ hown (host := "") (Or.inl (hw _ (List.mem_of_getElem? (i := 111) rfl))) Via.refl e12 (own_sta_keep S_w_UNKNOWN K12) (g := (mkF m 49 #[.val (.int p0), .val (.int p1), .val (.int p2), .val (.ref b1), .val (.ref b9), .unset, .unset, .unset, .unset, .unset, .unset] [(.ref a12), (.ref b11), (.ref b11), (.ref b9)])) rfl (hb hby at_49)
  obtain ⟨a14, T14, h14, k14, X14, e14, E14, S14, hk14, hZ, hown, st14⟩ := ldcS (s := s) (vm0 := T12.vm) X13 hx hZ hown (hw _ (List.mem_of_getElem? (i := 114) rfl)) wS e13 S12 hk12 (g := (mkF m 52 #[.val (.int p0), .val (.int p1), .val (.int p2), .val (.ref b1), .val (.ref b9), .unset, .unset, .unset, .unset, .unset, .unset] [(.ref w_UNKNOWN), (.ref a12), (.ref b11), (.ref b11), (.ref b9)])) rfl (hb hby at_52) (n := 4) (by decide) (by decide) (by decide) (by decide)
  have K14q : Keep h12 h14 [] := (Keep.refl _ []).ext E14
  have K14 : Keep h0 h14 [] := K12.ext E14
  obtain ⟨_, _, ⟨T15, L15, k15, n15⟩, -, X15, ⟨Lc15, hQ15, l15, y15, z15⟩, st15⟩ := X14.specialBack hx (y := (⟨"com/example/refleash/refleash/heap/Leak$Node", "<init>", "(Ljava/lang/String;Lcom/example/refleash/refleash/heap/Leak$Status;Ljava/lang/String;)V"⟩ : MethodName)) rfl hown (mvT hZ (hw _ (List.mem_of_getElem? (i := 115) rfl))) (mvT hZ (hw _ (List.mem_of_getElem? (i := 116) rfl))) (mvT hZ (hw _ (List.mem_of_getElem? (i := 117) rfl))) (by decide) (backOf (W := 2) (node_init l Z a0 hw [] b11 a12 w_UNKNOWN a14 h14 n0 (Nat.le_trans Z0 K14.1) ((F11_className.keep K12q nin0).keep K14q nin0) ((F11_status.keep K12q nin0).keep K14q nin0) ((F11_reason.keep K12q nin0).keep K14q nin0) ((A11.keep K12q).keep K14q) g_b11) hZ (hw _ (List.mem_of_getElem? (i := 117) rfl)) (hw _ (List.mem_of_getElem? (i := 110) rfl)) (by decide) (by decide)) (g := (mkF m 54 #[.val (.int p0), .val (.int p1), .val (.int p2), .val (.ref b1), .val (.ref b9), .unset, .unset, .unset, .unset, .unset, .unset] [(.ref a14), (.ref w_UNKNOWN), (.ref a12), (.ref b11), (.ref b11), (.ref b9)])) rfl (by rw [hml]; rfl) (Steps.refl _) (a := b11) (argsL := [(.ref a12), (.ref w_UNKNOWN), (.ref a14)]) (rest := [(.ref b11), (.ref b9)]) (lenOf pd__Ljava_lang_String_Lcom_example_refleash_refleash_heap_Leak_Status_Ljava_lang_String__V rfl) rfl (by show 2 * 0 + _ ≤ _; exact Nat.le_of_eq rfl) (hb hby at_54) (fun _ _ => ⟨rfl, e14, (by decide : 11 + 0 ≤ _), (by decide : 42 + 0 ≤ _)⟩)
  dsimp only [Pt.U, Pt.locs, Pt.cells, Pt.slots] at X15 l15 y15 z15 st15 hQ15
  subst l15 y15 z15
  obtain ⟨rfl, N15q, K15q, E15q⟩ := hQ15
  have N15 := Fr.app N10 N15q
  have K15 : Keep h0 T15.heap [] := K14.trans K15q (allS (Or.inr sz0_b11) all0)
  obtain ⟨cq16, kq16, q16a, q16b, q16c⟩ := isOf hZ rfl ((((E10q.keep K11q).keep K12q).keep K14q).keep K15q)
  obtain ⟨_, _, ⟨T16, L16, k16, n16⟩, -, X16, ⟨Lc16, hQ16, l16, y16, z16⟩, st16⟩ := X15.virtualBack hx (y := (⟨"java/util/ArrayList", "add", "(Ljava/lang/Object;)Z"⟩ : MethodName)) (z := (⟨"java/util/ArrayList", "add", "(Ljava/lang/Object;)Z"⟩ : MethodName)) hown (mvT hZ (hw _ (List.mem_of_getElem? (i := 126) rfl))) (mvT hZ (hw _ (List.mem_of_getElem? (i := 127) rfl))) (notFace_of_selects (args := #[]) (mvT hZ (hw _ (List.mem_of_getElem? (i := 129) rfl)))) (mvT hZ (hw _ (List.mem_of_getElem? (i := 129) rfl))) (mvT hZ (hw _ (List.mem_of_getElem? (i := 128) rfl))) (by decide) (backOf (W := 0) (add_1 l Z a0 hw [] b9 b11 (0 : Int32) w_dc k_dc T15.heap n0 (Nat.le_trans Z0 K15.1) ((((F10q_modCount.keep K11q nin0).keep K12q nin0).keep K14q nin0).keep K15q (ninS (Nat.ne_of_lt (Nat.lt_of_lt_of_le E10q.lt sz_b11)) nin0)) ((((F10q_elementData.keep K11q nin0).keep K12q nin0).keep K14q nin0).keep K15q (ninS (Nat.ne_of_lt (Nat.lt_of_lt_of_le E10q.lt sz_b11)) nin0)) ((((F10q_size.keep K11q nin0).keep K12q nin0).keep K14q nin0).keep K15q (ninS (Nat.ne_of_lt (Nat.lt_of_lt_of_le E10q.lt sz_b11)) nin0)) ((((E10q.keep K11q).keep K12q).keep K14q).keep K15q) g_b9 (((((((((((((V_dc.keep K1q nin0).keep K2q nin0).keep K4q nin0).keep K5q (ninS (Nat.ne_of_lt (Nat.lt_of_lt_of_le (V_dc.keep K1q nin0).lt sz_b2)) nin0)).keep K6q nin0).keep K7q (ninS (Nat.ne_of_lt (Nat.lt_of_lt_of_le ((((V_dc.keep K1q nin0).keep K2q nin0).keep K4q nin0).keep K5q (ninS (Nat.ne_of_lt (Nat.lt_of_lt_of_le (V_dc.keep K1q nin0).lt sz_b2)) nin0)).lt sz_b6)) nin0)).keep K8q (ninS (Nat.ne_of_lt (Nat.lt_of_lt_of_le V_dc.lt sz_b1)) nin0)).keep K9q nin0).keep K10q (ninS (Nat.ne_of_lt (Nat.lt_of_lt_of_le (((((((V_dc.keep K1q nin0).keep K2q nin0).keep K4q nin0).keep K5q (ninS (Nat.ne_of_lt (Nat.lt_of_lt_of_le (V_dc.keep K1q nin0).lt sz_b2)) nin0)).keep K6q nin0).keep K7q (ninS (Nat.ne_of_lt (Nat.lt_of_lt_of_le ((((V_dc.keep K1q nin0).keep K2q nin0).keep K4q nin0).keep K5q (ninS (Nat.ne_of_lt (Nat.lt_of_lt_of_le (V_dc.keep K1q nin0).lt sz_b2)) nin0)).lt sz_b6)) nin0)).keep K8q (ninS (Nat.ne_of_lt (Nat.lt_of_lt_of_le V_dc.lt sz_b1)) nin0)).lt sz_b9)) nin0)).keep K11q nin0).keep K12q nin0).keep K14q nin0).keep K15q (ninS (Nat.ne_of_lt (Nat.lt_of_lt_of_le (((((((((V_dc.keep K1q nin0).keep K2q nin0).keep K4q nin0).keep K5q (ninS (Nat.ne_of_lt (Nat.lt_of_lt_of_le (V_dc.keep K1q nin0).lt sz_b2)) nin0)).keep K6q nin0).keep K7q (ninS (Nat.ne_of_lt (Nat.lt_of_lt_of_le ((((V_dc.keep K1q nin0).keep K2q nin0).keep K4q nin0).keep K5q (ninS (Nat.ne_of_lt (Nat.lt_of_lt_of_le (V_dc.keep K1q nin0).lt sz_b2)) nin0)).lt sz_b6)) nin0)).keep K8q (ninS (Nat.ne_of_lt (Nat.lt_of_lt_of_le V_dc.lt sz_b1)) nin0)).keep K9q nin0).keep K10q (ninS (Nat.ne_of_lt (Nat.lt_of_lt_of_le (((((((V_dc.keep K1q nin0).keep K2q nin0).keep K4q nin0).keep K5q (ninS (Nat.ne_of_lt (Nat.lt_of_lt_of_le (V_dc.keep K1q nin0).lt sz_b2)) nin0)).keep K6q nin0).keep K7q (ninS (Nat.ne_of_lt (Nat.lt_of_lt_of_le ((((V_dc.keep K1q nin0).keep K2q nin0).keep K4q nin0).keep K5q (ninS (Nat.ne_of_lt (Nat.lt_of_lt_of_le (V_dc.keep K1q nin0).lt sz_b2)) nin0)).lt sz_b6)) nin0)).keep K8q (ninS (Nat.ne_of_lt (Nat.lt_of_lt_of_le V_dc.lt sz_b1)) nin0)).lt sz_b9)) nin0)).lt sz_b11)) nin0)) (own_sta_keep S_dc K15) (own_obj E15q (hw _ (List.mem_of_getElem? (i := 154) rfl))) (Nat.ne_of_lt (Nat.lt_of_lt_of_le (((((((V_dc.keep K1q nin0).keep K2q nin0).keep K4q nin0).keep K5q (ninS (Nat.ne_of_lt (Nat.lt_of_lt_of_le (V_dc.keep K1q nin0).lt sz_b2)) nin0)).keep K6q nin0).keep K7q (ninS (Nat.ne_of_lt (Nat.lt_of_lt_of_le ((((V_dc.keep K1q nin0).keep K2q nin0).keep K4q nin0).keep K5q (ninS (Nat.ne_of_lt (Nat.lt_of_lt_of_le (V_dc.keep K1q nin0).lt sz_b2)) nin0)).lt sz_b6)) nin0)).keep K8q (ninS (Nat.ne_of_lt (Nat.lt_of_lt_of_le V_dc.lt sz_b1)) nin0)).lt sz_b9))) hZ (hw _ (List.mem_of_getElem? (i := 130) rfl)) (hw _ (List.mem_of_getElem? (i := 42) rfl)) (by decide) (by decide)) q16a q16c (g := (mkF m 57 #[.val (.int p0), .val (.int p1), .val (.int p2), .val (.ref b1), .val (.ref b9), .unset, .unset, .unset, .unset, .unset, .unset] [(.ref b11), (.ref b9)])) rfl (by rw [hml]; rfl) (Steps.refl _) (argsL := [(.ref b11)]) (rest := []) (lenOf pd__Ljava_lang_Object__Z rfl) rfl (by show 2 * 0 + _ ≤ _; exact Nat.le_of_eq rfl) (hb hby at_57) (fun _ _ => ⟨rfl, rfl, (by decide : 11 + 1 ≤ _), (by decide : 42 + 10 ≤ _)⟩)
  dsimp only [Pt.U, Pt.locs, Pt.cells, Pt.slots] at X16 l16 y16 z16 st16 hQ16
  subst l16 y16 z16
  obtain ⟨r16, k16r, rfl, N16q, K16q, sz_r16, E16r, V16q, E16q, F16q_modCount, F16q_elementData, F16q_size⟩ := hQ16
  have sz0_r16 : h0.size ≤ r16 := Nat.le_trans K15.1 sz_r16
  have g_r16 : n0 ≤ r16 := Nat.le_trans Z0 sz0_r16
  have N16 := Fr.app N15 N16q
  have K16 : Keep h0 T16.heap [] := K15.trans K16q (allS (Or.inr sz0_b9) all0)
  obtain ⟨T17, h17, X17, e17, E17, A17, D17, -, st17⟩ := newO X16 hx hZ hown (hw _ (List.mem_of_getElem? (i := 155) rfl)) (hw _ (List.mem_of_getElem? (i := 156) rfl)) (hw _ (List.mem_of_getElem? (i := 157) rfl)) rfl (g := (mkF m 61 #[.val (.int p0), .val (.int p1), .val (.int p2), .val (.ref b1), .val (.ref b9), .unset, .unset, .unset, .unset, .unset, .unset] [])) rfl (hb hby at_61) (by decide) (by decide)
  obtain ⟨b17, gg17⟩ : ∃ z, z = T16.heap.size := ⟨_, rfl⟩
  rw [← gg17] at A17 D17 st17
  have sz_b17 : T16.heap.size ≤ b17 := Nat.le_of_eq gg17.symm
  have sz0_b17 : h0.size ≤ b17 := Nat.le_trans K16.1 sz_b17
  have g_b17 : n0 ≤ b17 := Nat.le_trans Z0 sz0_b17
  have K17q : Keep T16.heap h17 [] := (Keep.refl _ []).ext E17
  have K17 : Keep h0 h17 [] := K16.ext E17
  have F17_signature : Fld Z h17 b17 "com/example/refleash/refleash/heap/Leak" "signature" "Ljava/lang/String;" .null := D17 (Or.inr (hw _ (List.mem_of_getElem? (i := 249) rfl))) (ty := (.object "java/lang/String")) (by decide)
  have F17_retainedBytes : Fld Z h17 b17 "com/example/refleash/refleash/heap/Leak" "retainedBytes" "J" (.long (0 : Int64)) := D17 (Or.inr (hw _ (List.mem_of_getElem? (i := 251) rfl))) (ty := .long) (by decide)
  have F17_trace : Fld Z h17 b17 "com/example/refleash/refleash/heap/Leak" "trace" "Lcom/example/refleash/refleash/heap/Trace;" .null := D17 (Or.inr (hw _ (List.mem_of_getElem? (i := 253) rfl))) (ty := (.object "com/example/refleash/refleash/heap/Trace")) (by decide)
  have F17_nodes : Fld Z h17 b17 "com/example/refleash/refleash/heap/Leak" "nodes" "Ljava/util/List;" .null := D17 (Or.inr (hw _ (List.mem_of_getElem? (i := 255) rfl))) (ty := (.object "java/util/List")) (by decide)
  have F17_firstSuspect : Fld Z h17 b17 "com/example/refleash/refleash/heap/Leak" "firstSuspect" "I" (.int (0 : Int32)) := D17 (Or.inr (hw _ (List.mem_of_getElem? (i := 257) rfl))) (ty := .int) (by decide)
  have F17_endSuspect : Fld Z h17 b17 "com/example/refleash/refleash/heap/Leak" "endSuspect" "I" (.int (0 : Int32)) := D17 (Or.inr (hw _ (List.mem_of_getElem? (i := 259) rfl))) (ty := .int) (by decide)
  have F17_objects : Fld Z h17 b17 "com/example/refleash/refleash/heap/Leak" "objects" "Ljava/util/List;" .null := D17 (Or.inr (hw _ (List.mem_of_getElem? (i := 261) rfl))) (ty := (.object "java/util/List")) (by decide)
  obtain ⟨a18, T18, h18, k18, X18, e18, E18, S18, hk18, hZ, hown, st18⟩ := ldcS (s := s) (vm0 := T14.vm) X17 hx hZ hown (hw _ (List.mem_of_getElem? (i := 158) rfl)) wS e17 S14 (Nat.le_trans (Nat.le_trans (Nat.le_trans hk14 K15q.1) K16q.1) K17q.1) (g := (mkF m 65 #[.val (.int p0), .val (.int p1), .val (.int p2), .val (.ref b1), .val (.ref b9), .unset, .unset, .unset, .unset, .unset, .unset] [(.ref b17), (.ref b17)])) rfl (hb hby at_65) (n := 4) (by decide) (by decide) (by decide) (by decide)
  have K18q : Keep h17 h18 [] := (Keep.refl _ []).ext E18
  have K18 : Keep h0 h18 [] := K17.ext E18
  obtain ⟨T19, h19, X19, e19, E19, A19, D19, -, st19⟩ := newO X18 hx hZ hown (hw _ (List.mem_of_getElem? (i := 40) rfl)) (hw _ (List.mem_of_getElem? (i := 41) rfl)) (hw _ (List.mem_of_getElem? (i := 42) rfl)) e18 (g := (mkF m 73 #[.val (.int p0), .val (.int p1), .val (.int p2), .val (.ref b1), .val (.ref b9), .unset, .unset, .unset, .unset, .unset, .unset] [(.int p1), (.int p0), (.ref b9), (.ref b1), (.long (0 : Int64)), (.ref a18), (.ref b17), (.ref b17)])) rfl (hb hby at_73) (by decide) (by decide)
  obtain ⟨b19, gg19⟩ : ∃ z, z = h18.size := ⟨_, rfl⟩
  rw [← gg19] at A19 D19 st19
  have sz_b19 : h18.size ≤ b19 := Nat.le_of_eq gg19.symm
  have sz0_b19 : h0.size ≤ b19 := Nat.le_trans K18.1 sz_b19
  have g_b19 : n0 ≤ b19 := Nat.le_trans Z0 sz0_b19
  have K19q : Keep h18 h19 [] := (Keep.refl _ []).ext E19
  have K19 : Keep h0 h19 [] := K18.ext E19
  have F19_modCount : Fld Z h19 b19 "java/util/AbstractList" "modCount" "I" (.int (0 : Int32)) := D19 (Or.inl (hw _ (List.mem_of_getElem? (i := 60) rfl))) (ty := .int) (by decide)
  have F19_elementData : Fld Z h19 b19 "java/util/ArrayList" "elementData" "[Ljava/lang/Object;" .null := D19 (Or.inl (hw _ (List.mem_of_getElem? (i := 63) rfl))) (ty := (.array (.object "java/lang/Object"))) (by decide)
  have F19_size : Fld Z h19 b19 "java/util/ArrayList" "size" "I" (.int (0 : Int32)) := D19 (Or.inl (hw _ (List.mem_of_getElem? (i := 93) rfl))) (ty := .int) (by decide)
  obtain ⟨_, _, ⟨T20, L20, k20, n20⟩, -, X20, ⟨Lc20, hQ20, l20, y20, z20⟩, st20⟩ := X19.specialBack hx (y := (⟨"java/util/ArrayList", "<init>", "()V"⟩ : MethodName)) rfl hown (mvT hZ (hw _ (List.mem_of_getElem? (i := 43) rfl))) (mvT hZ (hw _ (List.mem_of_getElem? (i := 44) rfl))) (mvT hZ (hw _ (List.mem_of_getElem? (i := 45) rfl))) (by decide) (backOf (W := 10) (al_init l Z a0 hw [] b19 w_dc h19 n0 (Nat.le_trans Z0 K19.1) F19_modCount F19_elementData F19_size A19 g_b19 (own_sta_keep S_dc K19)) hZ (hw _ (List.mem_of_getElem? (i := 45) rfl)) (hw _ (List.mem_of_getElem? (i := 42) rfl)) (by decide) (by decide)) (g := (mkF m 77 #[.val (.int p0), .val (.int p1), .val (.int p2), .val (.ref b1), .val (.ref b9), .unset, .unset, .unset, .unset, .unset, .unset] [(.ref b19), (.ref b19), (.int p1), (.int p0), (.ref b9), (.ref b1), (.long (0 : Int64)), (.ref a18), (.ref b17), (.ref b17)])) rfl (by rw [hml]; rfl) (Steps.refl _) (a := b19) (argsL := []) (rest := [(.ref b19), (.int p1), (.int p0), (.ref b9), (.ref b1), (.long (0 : Int64)), (.ref a18), (.ref b17), (.ref b17)]) (lenOf pd___V rfl) rfl (by show 2 * 0 + _ ≤ _; exact Nat.le_of_eq rfl) (hb hby at_77) (fun _ _ => ⟨rfl, e19, (by decide : 16 + 0 ≤ _), (by decide : 70 + 0 ≤ _)⟩)
  dsimp only [Pt.U, Pt.locs, Pt.cells, Pt.slots] at X20 l20 y20 z20 st20 hQ20
  subst l20 y20 z20
  obtain ⟨rfl, N20q, K20q, E20q, F20q_modCount, F20q_elementData, F20q_size⟩ := hQ20
  have N20 := Fr.app N16 N20q
  have K20 : Keep h0 T20.heap [] := K19.trans K20q (allS (Or.inr sz0_b19) all0)
  obtain ⟨_, _, ⟨T21, L21, k21, n21⟩, -, X21, ⟨Lc21, hQ21, l21, y21, z21⟩, st21⟩ := X20.specialBack hx (y := (⟨"com/example/refleash/refleash/heap/Leak", "<init>", "(Ljava/lang/String;JLcom/example/refleash/refleash/heap/Trace;Ljava/util/List;IILjava/util/List;)V"⟩ : MethodName)) rfl hown (mvT hZ (hw _ (List.mem_of_getElem? (i := 159) rfl))) (mvT hZ (hw _ (List.mem_of_getElem? (i := 160) rfl))) (mvT hZ (hw _ (List.mem_of_getElem? (i := 161) rfl))) (by decide) (backOf (W := 1) (leak_init l Z a0 hw [] b17 a18 (0 : Int64) b1 b9 p0 p1 b19 r16 b11 m_o w_el w_em w_ee k16r k_ee T20.heap n0 (Nat.le_trans Z0 K20.1) (((F17_signature.keep K18q nin0).keep K19q nin0).keep K20q (ninS (Nat.ne_of_lt (Nat.lt_of_lt_of_le (A17.keep K18q).lt sz_b19)) nin0)) (((F17_retainedBytes.keep K18q nin0).keep K19q nin0).keep K20q (ninS (Nat.ne_of_lt (Nat.lt_of_lt_of_le (A17.keep K18q).lt sz_b19)) nin0)) (((F17_trace.keep K18q nin0).keep K19q nin0).keep K20q (ninS (Nat.ne_of_lt (Nat.lt_of_lt_of_le (A17.keep K18q).lt sz_b19)) nin0)) (((F17_nodes.keep K18q nin0).keep K19q nin0).keep K20q (ninS (Nat.ne_of_lt (Nat.lt_of_lt_of_le (A17.keep K18q).lt sz_b19)) nin0)) (((F17_firstSuspect.keep K18q nin0).keep K19q nin0).keep K20q (ninS (Nat.ne_of_lt (Nat.lt_of_lt_of_le (A17.keep K18q).lt sz_b19)) nin0)) (((F17_endSuspect.keep K18q nin0).keep K19q nin0).keep K20q (ninS (Nat.ne_of_lt (Nat.lt_of_lt_of_le (A17.keep K18q).lt sz_b19)) nin0)) (((F17_objects.keep K18q nin0).keep K19q nin0).keep K20q (ninS (Nat.ne_of_lt (Nat.lt_of_lt_of_le (A17.keep K18q).lt sz_b19)) nin0)) (((A17.keep K18q).keep K19q).keep K20q) g_b17 (((((((((((E8q.keep K9q).keep K10q).keep K11q).keep K12q).keep K14q).keep K15q).keep K16q).keep K17q).keep K18q).keep K19q).keep K20q) (((((((((((F8q.keep K9q nin0).keep K10q (ninS (Nat.ne_of_lt (Nat.lt_of_lt_of_le E8q.lt sz_b9)) nin0)).keep K11q nin0).keep K12q nin0).keep K14q nin0).keep K15q (ninS (Nat.ne_of_lt (Nat.lt_of_lt_of_le ((E8q.keep K9q).keep K10q).lt sz_b11)) nin0)).keep K16q (ninS (Nat.ne_of_lt (Nat.lt_of_lt_of_le E8q.lt sz_b9)) nin0)).keep K17q nin0).keep K18q nin0).keep K19q nin0).keep K20q (ninS (Nat.ne_of_lt (Nat.lt_of_lt_of_le (((((((((E8q.keep K9q).keep K10q).keep K11q).keep K12q).keep K14q).keep K15q).keep K16q).keep K17q).keep K18q).lt sz_b19)) nin0)) ((((E16q.keep K17q).keep K18q).keep K19q).keep K20q) ((((F16q_elementData.keep K17q nin0).keep K18q nin0).keep K19q nin0).keep K20q (ninS (Nat.ne_of_lt (Nat.lt_of_lt_of_le ((E16q.keep K17q).keep K18q).lt sz_b19)) nin0)) ((((F16q_size.keep K17q nin0).keep K18q nin0).keep K19q nin0).keep K20q (ninS (Nat.ne_of_lt (Nat.lt_of_lt_of_le ((E16q.keep K17q).keep K18q).lt sz_b19)) nin0)) ((((E16r.keep K17q).keep K18q).keep K19q).keep K20q) ((((V16q.keep K17q nin0).keep K18q nin0).keep K19q nin0).keep K20q (ninS (Nat.ne_of_lt (Nat.lt_of_lt_of_le ((E16r.keep K17q).keep K18q).lt sz_b19)) nin0)) (own_obj (((((E15q.keep K16q).keep K17q).keep K18q).keep K19q).keep K20q) (hw _ (List.mem_of_getElem? (i := 154) rfl))) E20q F20q_size (own_sta_keep S_el K20) (own_sta_keep S_em K20) ((((((((((((((((((E_el.keep K1q).keep K2q).keep K4q).keep K5q).keep K6q).keep K7q).keep K8q).keep K9q).keep K10q).keep K11q).keep K12q).keep K14q).keep K15q).keep K16q).keep K17q).keep K18q).keep K19q).keep K20q) ((((((((((((((((((F_el.keep K1q nin0).keep K2q nin0).keep K4q nin0).keep K5q (ninS (Nat.ne_of_lt (Nat.lt_of_lt_of_le (E_el.keep K1q).lt sz_b2)) nin0)).keep K6q nin0).keep K7q (ninS (Nat.ne_of_lt (Nat.lt_of_lt_of_le ((((E_el.keep K1q).keep K2q).keep K4q).keep K5q).lt sz_b6)) nin0)).keep K8q (ninS (Nat.ne_of_lt (Nat.lt_of_lt_of_le E_el.lt sz_b1)) nin0)).keep K9q nin0).keep K10q (ninS (Nat.ne_of_lt (Nat.lt_of_lt_of_le (((((((E_el.keep K1q).keep K2q).keep K4q).keep K5q).keep K6q).keep K7q).keep K8q).lt sz_b9)) nin0)).keep K11q nin0).keep K12q nin0).keep K14q nin0).keep K15q (ninS (Nat.ne_of_lt (Nat.lt_of_lt_of_le (((((((((E_el.keep K1q).keep K2q).keep K4q).keep K5q).keep K6q).keep K7q).keep K8q).keep K9q).keep K10q).lt sz_b11)) nin0)).keep K16q (ninS (Nat.ne_of_lt (Nat.lt_of_lt_of_le (((((((E_el.keep K1q).keep K2q).keep K4q).keep K5q).keep K6q).keep K7q).keep K8q).lt sz_b9)) nin0)).keep K17q nin0).keep K18q nin0).keep K19q nin0).keep K20q (ninS (Nat.ne_of_lt (Nat.lt_of_lt_of_le ((((((((((((((((E_el.keep K1q).keep K2q).keep K4q).keep K5q).keep K6q).keep K7q).keep K8q).keep K9q).keep K10q).keep K11q).keep K12q).keep K14q).keep K15q).keep K16q).keep K17q).keep K18q).lt sz_b19)) nin0)) ((((((((((((((((((V_ee.keep K1q nin0).keep K2q nin0).keep K4q nin0).keep K5q (ninS (Nat.ne_of_lt (Nat.lt_of_lt_of_le (V_ee.keep K1q nin0).lt sz_b2)) nin0)).keep K6q nin0).keep K7q (ninS (Nat.ne_of_lt (Nat.lt_of_lt_of_le ((((V_ee.keep K1q nin0).keep K2q nin0).keep K4q nin0).keep K5q (ninS (Nat.ne_of_lt (Nat.lt_of_lt_of_le (V_ee.keep K1q nin0).lt sz_b2)) nin0)).lt sz_b6)) nin0)).keep K8q (ninS (Nat.ne_of_lt (Nat.lt_of_lt_of_le V_ee.lt sz_b1)) nin0)).keep K9q nin0).keep K10q (ninS (Nat.ne_of_lt (Nat.lt_of_lt_of_le (((((((V_ee.keep K1q nin0).keep K2q nin0).keep K4q nin0).keep K5q (ninS (Nat.ne_of_lt (Nat.lt_of_lt_of_le (V_ee.keep K1q nin0).lt sz_b2)) nin0)).keep K6q nin0).keep K7q (ninS (Nat.ne_of_lt (Nat.lt_of_lt_of_le ((((V_ee.keep K1q nin0).keep K2q nin0).keep K4q nin0).keep K5q (ninS (Nat.ne_of_lt (Nat.lt_of_lt_of_le (V_ee.keep K1q nin0).lt sz_b2)) nin0)).lt sz_b6)) nin0)).keep K8q (ninS (Nat.ne_of_lt (Nat.lt_of_lt_of_le V_ee.lt sz_b1)) nin0)).lt sz_b9)) nin0)).keep K11q nin0).keep K12q nin0).keep K14q nin0).keep K15q (ninS (Nat.ne_of_lt (Nat.lt_of_lt_of_le (((((((((V_ee.keep K1q nin0).keep K2q nin0).keep K4q nin0).keep K5q (ninS (Nat.ne_of_lt (Nat.lt_of_lt_of_le (V_ee.keep K1q nin0).lt sz_b2)) nin0)).keep K6q nin0).keep K7q (ninS (Nat.ne_of_lt (Nat.lt_of_lt_of_le ((((V_ee.keep K1q nin0).keep K2q nin0).keep K4q nin0).keep K5q (ninS (Nat.ne_of_lt (Nat.lt_of_lt_of_le (V_ee.keep K1q nin0).lt sz_b2)) nin0)).lt sz_b6)) nin0)).keep K8q (ninS (Nat.ne_of_lt (Nat.lt_of_lt_of_le V_ee.lt sz_b1)) nin0)).keep K9q nin0).keep K10q (ninS (Nat.ne_of_lt (Nat.lt_of_lt_of_le (((((((V_ee.keep K1q nin0).keep K2q nin0).keep K4q nin0).keep K5q (ninS (Nat.ne_of_lt (Nat.lt_of_lt_of_le (V_ee.keep K1q nin0).lt sz_b2)) nin0)).keep K6q nin0).keep K7q (ninS (Nat.ne_of_lt (Nat.lt_of_lt_of_le ((((V_ee.keep K1q nin0).keep K2q nin0).keep K4q nin0).keep K5q (ninS (Nat.ne_of_lt (Nat.lt_of_lt_of_le (V_ee.keep K1q nin0).lt sz_b2)) nin0)).lt sz_b6)) nin0)).keep K8q (ninS (Nat.ne_of_lt (Nat.lt_of_lt_of_le V_ee.lt sz_b1)) nin0)).lt sz_b9)) nin0)).lt sz_b11)) nin0)).keep K16q (ninS (Nat.ne_of_lt (Nat.lt_of_lt_of_le (((((((V_ee.keep K1q nin0).keep K2q nin0).keep K4q nin0).keep K5q (ninS (Nat.ne_of_lt (Nat.lt_of_lt_of_le (V_ee.keep K1q nin0).lt sz_b2)) nin0)).keep K6q nin0).keep K7q (ninS (Nat.ne_of_lt (Nat.lt_of_lt_of_le ((((V_ee.keep K1q nin0).keep K2q nin0).keep K4q nin0).keep K5q (ninS (Nat.ne_of_lt (Nat.lt_of_lt_of_le (V_ee.keep K1q nin0).lt sz_b2)) nin0)).lt sz_b6)) nin0)).keep K8q (ninS (Nat.ne_of_lt (Nat.lt_of_lt_of_le V_ee.lt sz_b1)) nin0)).lt sz_b9)) nin0)).keep K17q nin0).keep K18q nin0).keep K19q nin0).keep K20q (ninS (Nat.ne_of_lt (Nat.lt_of_lt_of_le ((((((((((((((((V_ee.keep K1q nin0).keep K2q nin0).keep K4q nin0).keep K5q (ninS (Nat.ne_of_lt (Nat.lt_of_lt_of_le (V_ee.keep K1q nin0).lt sz_b2)) nin0)).keep K6q nin0).keep K7q (ninS (Nat.ne_of_lt (Nat.lt_of_lt_of_le ((((V_ee.keep K1q nin0).keep K2q nin0).keep K4q nin0).keep K5q (ninS (Nat.ne_of_lt (Nat.lt_of_lt_of_le (V_ee.keep K1q nin0).lt sz_b2)) nin0)).lt sz_b6)) nin0)).keep K8q (ninS (Nat.ne_of_lt (Nat.lt_of_lt_of_le V_ee.lt sz_b1)) nin0)).keep K9q nin0).keep K10q (ninS (Nat.ne_of_lt (Nat.lt_of_lt_of_le (((((((V_ee.keep K1q nin0).keep K2q nin0).keep K4q nin0).keep K5q (ninS (Nat.ne_of_lt (Nat.lt_of_lt_of_le (V_ee.keep K1q nin0).lt sz_b2)) nin0)).keep K6q nin0).keep K7q (ninS (Nat.ne_of_lt (Nat.lt_of_lt_of_le ((((V_ee.keep K1q nin0).keep K2q nin0).keep K4q nin0).keep K5q (ninS (Nat.ne_of_lt (Nat.lt_of_lt_of_le (V_ee.keep K1q nin0).lt sz_b2)) nin0)).lt sz_b6)) nin0)).keep K8q (ninS (Nat.ne_of_lt (Nat.lt_of_lt_of_le V_ee.lt sz_b1)) nin0)).lt sz_b9)) nin0)).keep K11q nin0).keep K12q nin0).keep K14q nin0).keep K15q (ninS (Nat.ne_of_lt (Nat.lt_of_lt_of_le (((((((((V_ee.keep K1q nin0).keep K2q nin0).keep K4q nin0).keep K5q (ninS (Nat.ne_of_lt (Nat.lt_of_lt_of_le (V_ee.keep K1q nin0).lt sz_b2)) nin0)).keep K6q nin0).keep K7q (ninS (Nat.ne_of_lt (Nat.lt_of_lt_of_le ((((V_ee.keep K1q nin0).keep K2q nin0).keep K4q nin0).keep K5q (ninS (Nat.ne_of_lt (Nat.lt_of_lt_of_le (V_ee.keep K1q nin0).lt sz_b2)) nin0)).lt sz_b6)) nin0)).keep K8q (ninS (Nat.ne_of_lt (Nat.lt_of_lt_of_le V_ee.lt sz_b1)) nin0)).keep K9q nin0).keep K10q (ninS (Nat.ne_of_lt (Nat.lt_of_lt_of_le (((((((V_ee.keep K1q nin0).keep K2q nin0).keep K4q nin0).keep K5q (ninS (Nat.ne_of_lt (Nat.lt_of_lt_of_le (V_ee.keep K1q nin0).lt sz_b2)) nin0)).keep K6q nin0).keep K7q (ninS (Nat.ne_of_lt (Nat.lt_of_lt_of_le ((((V_ee.keep K1q nin0).keep K2q nin0).keep K4q nin0).keep K5q (ninS (Nat.ne_of_lt (Nat.lt_of_lt_of_le (V_ee.keep K1q nin0).lt sz_b2)) nin0)).lt sz_b6)) nin0)).keep K8q (ninS (Nat.ne_of_lt (Nat.lt_of_lt_of_le V_ee.lt sz_b1)) nin0)).lt sz_b9)) nin0)).lt sz_b11)) nin0)).keep K16q (ninS (Nat.ne_of_lt (Nat.lt_of_lt_of_le (((((((V_ee.keep K1q nin0).keep K2q nin0).keep K4q nin0).keep K5q (ninS (Nat.ne_of_lt (Nat.lt_of_lt_of_le (V_ee.keep K1q nin0).lt sz_b2)) nin0)).keep K6q nin0).keep K7q (ninS (Nat.ne_of_lt (Nat.lt_of_lt_of_le ((((V_ee.keep K1q nin0).keep K2q nin0).keep K4q nin0).keep K5q (ninS (Nat.ne_of_lt (Nat.lt_of_lt_of_le (V_ee.keep K1q nin0).lt sz_b2)) nin0)).lt sz_b6)) nin0)).keep K8q (ninS (Nat.ne_of_lt (Nat.lt_of_lt_of_le V_ee.lt sz_b1)) nin0)).lt sz_b9)) nin0)).keep K17q nin0).keep K18q nin0).lt sz_b19)) nin0)) M_o) hZ (hw _ (List.mem_of_getElem? (i := 161) rfl)) (hw _ (List.mem_of_getElem? (i := 157) rfl)) (by decide) (by decide)) (g := (mkF m 80 #[.val (.int p0), .val (.int p1), .val (.int p2), .val (.ref b1), .val (.ref b9), .unset, .unset, .unset, .unset, .unset, .unset] [(.ref b19), (.int p1), (.int p0), (.ref b9), (.ref b1), (.long (0 : Int64)), (.ref a18), (.ref b17), (.ref b17)])) rfl (by rw [hml]; rfl) (Steps.refl _) (a := b17) (argsL := [(.ref a18), (.long (0 : Int64)), (.ref b1), (.ref b9), (.int p0), (.int p1), (.ref b19)]) (rest := [(.ref b17)]) (lenOf pd__Ljava_lang_String_JLcom_example_refleash_refleash_heap_Trace_Ljava_util_List_IILjava_util_List__V rfl) rfl (by show 2 * 0 + _ ≤ _; exact Nat.le_of_eq rfl) (hb hby at_80) (fun _ _ => ⟨rfl, rfl, (by decide : 16 + 2 ≤ _), (by decide : 70 + 3 ≤ _)⟩)
  dsimp only [Pt.U, Pt.locs, Pt.cells, Pt.slots] at X21 l21 y21 z21 st21 hQ21
  subst l21 y21 z21
  obtain ⟨rfl, N21q, K21q, E21q, F21qf, F21qe⟩ := hQ21
  have N21 := Fr.app N20 N21q
  have K21 : Keep h0 T21.heap [] := K20.trans K21q (allS (Or.inr sz0_b17) all0)
  obtain ⟨cq22, kq22, q22a, q22b, q22c⟩ := isOf hZ rfl E21q
  obtain ⟨_, _, ⟨T22, L22, k22, n22⟩, -, X22, ⟨Lc22, hQ22, l22, y22, z22⟩, st22⟩ := X21.virtualBack hx (y := (⟨"com/example/refleash/refleash/heap/Leak", "isSuspect", "(I)Z"⟩ : MethodName)) (z := (⟨"com/example/refleash/refleash/heap/Leak", "isSuspect", "(I)Z"⟩ : MethodName)) hown (mvT hZ (hw _ (List.mem_of_getElem? (i := 262) rfl))) (mvT hZ (hw _ (List.mem_of_getElem? (i := 263) rfl))) (notFace_of_selects (args := #[]) (mvT hZ (hw _ (List.mem_of_getElem? (i := 265) rfl)))) (mvT hZ (hw _ (List.mem_of_getElem? (i := 265) rfl))) (mvT hZ (hw _ (List.mem_of_getElem? (i := 264) rfl))) (by decide) (backOf (W := 0) (susp_0 l Z a0 hw [] b17 p2 p0 p1 T21.heap n0 (Nat.le_trans Z0 K21.1) F21qf F21qe (Or.inl hA)) hZ (hw _ (List.mem_of_getElem? (i := 266) rfl)) (hw _ (List.mem_of_getElem? (i := 157) rfl)) (by decide) (by decide)) q22a q22c (g := (mkF m 124 #[.val (.int p0), .val (.int p1), .val (.int p2), .val (.ref b1), .val (.ref b9), .val (.ref b17), .val (.long ((p2.toInt64) - (p0.toInt64))), .second, .val (.long ((p1.toInt64) - (p0.toInt64))), .second, .val (.int (0 : Int32))] [(.int p2), (.ref b17)])) rfl (by rw [hml]; rfl) (Steps.refl _) (argsL := [(.int p2)]) (rest := []) (lenOf pd__I_Z rfl) rfl (by show 2 * 0 + _ ≤ _; exact Nat.le_of_eq rfl) (hb hby at_124) (fun _ _ => ⟨rfl, rfl, (by decide : 18 + 0 ≤ _), (by decide : 73 + 0 ≤ _)⟩)
  dsimp only [Pt.U, Pt.locs, Pt.cells, Pt.slots] at X22 l22 y22 z22 st22 hQ22
  subst l22 y22 z22
  obtain ⟨rfl, N22q, e22⟩ := hQ22
  have N22 := Fr.app N21 N22q
  obtain ⟨cq23, kq23, q23a, q23b, q23c⟩ := isOf hZ e22 E21q
  obtain ⟨_, _, ⟨T23, L23, k23, n23⟩, -, X23, ⟨Lc23, hQ23, l23, y23, z23⟩, st23⟩ := X22.virtualBack hx (y := (⟨"com/example/refleash/refleash/heap/Leak", "isSuspect", "(I)Z"⟩ : MethodName)) (z := (⟨"com/example/refleash/refleash/heap/Leak", "isSuspect", "(I)Z"⟩ : MethodName)) hown (mvT hZ (hw _ (List.mem_of_getElem? (i := 262) rfl))) (mvT hZ (hw _ (List.mem_of_getElem? (i := 263) rfl))) (notFace_of_selects (args := #[]) (mvT hZ (hw _ (List.mem_of_getElem? (i := 265) rfl)))) (mvT hZ (hw _ (List.mem_of_getElem? (i := 265) rfl))) (mvT hZ (hw _ (List.mem_of_getElem? (i := 264) rfl))) (by decide) (backOf (W := 0) (susp_0 l Z a0 hw [] b17 p1 p0 p1 T21.heap n0 (Nat.le_trans Z0 K21.1) F21qf F21qe (Or.inr (own_irr p1))) hZ (hw _ (List.mem_of_getElem? (i := 266) rfl)) (hw _ (List.mem_of_getElem? (i := 157) rfl)) (by decide) (by decide)) q23a q23c (g := (mkF m 135 #[.val (.int p0), .val (.int p1), .val (.int p2), .val (.ref b1), .val (.ref b9), .val (.ref b17), .val (.long ((p2.toInt64) - (p0.toInt64))), .second, .val (.long ((p1.toInt64) - (p0.toInt64))), .second, .val (.int (0 : Int32))] [(.int p1), (.ref b17)])) rfl (by rw [hml]; rfl) (Steps.refl _) (argsL := [(.int p1)]) (rest := []) (lenOf pd__I_Z rfl) rfl (by show 2 * 0 + _ ≤ _; exact Nat.le_of_eq rfl) (hb hby at_135) (fun _ _ => ⟨rfl, e22, (by decide : 18 + 0 ≤ _), (by decide : 73 + 0 ≤ _)⟩)
  dsimp only [Pt.U, Pt.locs, Pt.cells, Pt.slots] at X23 l23 y23 z23 st23 hQ23
  subst l23 y23 z23
  obtain ⟨rfl, N23q, e23⟩ := hQ23
  have N23 := Fr.app N22 N23q
  obtain ⟨cq24, kq24, q24a, q24b, q24c⟩ := isOf hZ e23 E21q
  obtain ⟨_, _, ⟨T24, L24, k24, n24⟩, -, X24, ⟨Lc24, hQ24, l24, y24, z24⟩, st24⟩ := X23.virtualBack hx (y := (⟨"com/example/refleash/refleash/heap/Leak", "isSuspect", "(I)Z"⟩ : MethodName)) (z := (⟨"com/example/refleash/refleash/heap/Leak", "isSuspect", "(I)Z"⟩ : MethodName)) hown (mvT hZ (hw _ (List.mem_of_getElem? (i := 262) rfl))) (mvT hZ (hw _ (List.mem_of_getElem? (i := 263) rfl))) (notFace_of_selects (args := #[]) (mvT hZ (hw _ (List.mem_of_getElem? (i := 265) rfl)))) (mvT hZ (hw _ (List.mem_of_getElem? (i := 265) rfl))) (mvT hZ (hw _ (List.mem_of_getElem? (i := 264) rfl))) (by decide) (backOf (W := 0) (susp_1 l Z a0 hw [] b17 p0 p0 p1 T21.heap n0 (Nat.le_trans Z0 K21.1) F21qf F21qe (own_irr p0) hD) hZ (hw _ (List.mem_of_getElem? (i := 266) rfl)) (hw _ (List.mem_of_getElem? (i := 157) rfl)) (by decide) (by decide)) q24a q24c (g := (mkF m 144 #[.val (.int p0), .val (.int p1), .val (.int p2), .val (.ref b1), .val (.ref b9), .val (.ref b17), .val (.long ((p2.toInt64) - (p0.toInt64))), .second, .val (.long ((p1.toInt64) - (p0.toInt64))), .second, .val (.int (0 : Int32))] [(.int p0), (.ref b17)])) rfl (by rw [hml]; rfl) (Steps.refl _) (argsL := [(.int p0)]) (rest := []) (lenOf pd__I_Z rfl) rfl (by show 2 * 0 + _ ≤ _; exact Nat.le_of_eq rfl) (hb hby at_144) (fun _ _ => ⟨rfl, e23, (by decide : 18 + 0 ≤ _), (by decide : 73 + 0 ≤ _)⟩)
  dsimp only [Pt.U, Pt.locs, Pt.cells, Pt.slots] at X24 l24 y24 z24 st24 hQ24
  subst l24 y24 z24
  obtain ⟨rfl, N24q, e24⟩ := hQ24
  have N24 := Fr.app N23 N24q
  obtain ⟨fs, hr, hrun, hended, hEnd⟩ := leaveW X24 S18 (by rw [e24]; exact (Nat.le_trans (Nat.le_trans (Nat.le_trans hk18 K19q.1) K20q.1) K21q.1)) (v := some (.int (1 : Int32))) (fun h => by rw [Bd.returns] at h; cases h) Bd.notSynchronized
  refine ⟨_, _, pre0 _ ?_, hrun, hended, _, _, rfl, ?_, hEnd.1, hEnd.2.1, hEnd.2.2.1, hEnd.2.2.2.mono (by decide) (by decide)⟩
  · show Steps p.tables e below (s₁.setTop (mkF m 0 #[.val (.int p0), .val (.int p1), .val (.int p2), .unset, .unset, .unset, .unset, .unset, .unset, .unset, .unset] [])) _
    refine st1 _ ?_
    show Steps p.tables e below (T1.setTop (mkF m 3 #[.val (.int p0), .val (.int p1), .val (.int p2), .unset, .unset, .unset, .unset, .unset, .unset, .unset, .unset] [(.ref b1)])) _
    refine XS.dup X1.here hx rfl (hb hby at_3) rfl rfl ?_
    show Steps p.tables e below (T1.setTop (mkF m 4 #[.val (.int p0), .val (.int p1), .val (.int p2), .unset, .unset, .unset, .unset, .unset, .unset, .unset, .unset] [(.ref b1), (.ref b1)])) _
    refine XS.lconst X1.here hx rfl (hb hby at_4) ?_
    show Steps p.tables e below (T1.setTop (mkF m 5 #[.val (.int p0), .val (.int p1), .val (.int p2), .unset, .unset, .unset, .unset, .unset, .unset, .unset, .unset] [(.long (0 : Int64)), (.ref b1), (.ref b1)])) _
    refine st2 _ ?_
    show Steps p.tables e below (T2.setTop (mkF m 8 #[.val (.int p0), .val (.int p1), .val (.int p2), .unset, .unset, .unset, .unset, .unset, .unset, .unset, .unset] [(.ref b2), (.long (0 : Int64)), (.ref b1), (.ref b1)])) _
    refine XS.dup X2.here hx rfl (hb hby at_8) rfl rfl ?_
    show Steps p.tables e below (T2.setTop (mkF m 9 #[.val (.int p0), .val (.int p1), .val (.int p2), .unset, .unset, .unset, .unset, .unset, .unset, .unset, .unset] [(.ref b2), (.ref b2), (.long (0 : Int64)), (.ref b1), (.ref b1)])) _
    refine st3 _ ?_
    show Steps p.tables e below (T3.setTop (mkF m 12 #[.val (.int p0), .val (.int p1), .val (.int p2), .unset, .unset, .unset, .unset, .unset, .unset, .unset, .unset] [(.ref w_CLASS), (.ref b2), (.ref b2), (.long (0 : Int64)), (.ref b1), (.ref b1)])) _
    refine st4 _ ?_
    show Steps p.tables e below (T4.setTop (mkF m 14 #[.val (.int p0), .val (.int p1), .val (.int p2), .unset, .unset, .unset, .unset, .unset, .unset, .unset, .unset] [(.ref a4), (.ref w_CLASS), (.ref b2), (.ref b2), (.long (0 : Int64)), (.ref b1), (.ref b1)])) _
    refine XS.aconstNull X4.here hx rfl (hb hby at_14) ?_
    show Steps p.tables e below (T4.setTop (mkF m 15 #[.val (.int p0), .val (.int p1), .val (.int p2), .unset, .unset, .unset, .unset, .unset, .unset, .unset, .unset] [.null, (.ref a4), (.ref w_CLASS), (.ref b2), (.ref b2), (.long (0 : Int64)), (.ref b1), (.ref b1)])) _
    refine XS.aconstNull X4.here hx rfl (hb hby at_15) ?_
    show Steps p.tables e below (T4.setTop (mkF m 16 #[.val (.int p0), .val (.int p1), .val (.int p2), .unset, .unset, .unset, .unset, .unset, .unset, .unset, .unset] [.null, .null, (.ref a4), (.ref w_CLASS), (.ref b2), (.ref b2), (.long (0 : Int64)), (.ref b1), (.ref b1)])) _
    refine st5.trans ?_
    show Steps p.tables e below (T5.setTop (mkF m 19 #[.val (.int p0), .val (.int p1), .val (.int p2), .unset, .unset, .unset, .unset, .unset, .unset, .unset, .unset] [(.ref b2), (.long (0 : Int64)), (.ref b1), (.ref b1)])) _
    refine st6 _ ?_
    show Steps p.tables e below (T6.setTop (mkF m 22 #[.val (.int p0), .val (.int p1), .val (.int p2), .unset, .unset, .unset, .unset, .unset, .unset, .unset, .unset] [(.ref b6), (.ref b2), (.long (0 : Int64)), (.ref b1), (.ref b1)])) _
    refine XS.dup X6.here hx rfl (hb hby at_22) rfl rfl ?_
    show Steps p.tables e below (T6.setTop (mkF m 23 #[.val (.int p0), .val (.int p1), .val (.int p2), .unset, .unset, .unset, .unset, .unset, .unset, .unset, .unset] [(.ref b6), (.ref b6), (.ref b2), (.long (0 : Int64)), (.ref b1), (.ref b1)])) _
    refine st7.trans ?_
    show Steps p.tables e below (T7.setTop (mkF m 26 #[.val (.int p0), .val (.int p1), .val (.int p2), .unset, .unset, .unset, .unset, .unset, .unset, .unset, .unset] [(.ref b6), (.ref b2), (.long (0 : Int64)), (.ref b1), (.ref b1)])) _
    refine XS.lconst X7.here hx rfl (hb hby at_26) ?_
    show Steps p.tables e below (T7.setTop (mkF m 27 #[.val (.int p0), .val (.int p1), .val (.int p2), .unset, .unset, .unset, .unset, .unset, .unset, .unset, .unset] [(.long (0 : Int64)), (.ref b6), (.ref b2), (.long (0 : Int64)), (.ref b1), (.ref b1)])) _
    refine XS.lconst X7.here hx rfl (hb hby at_27) ?_
    show Steps p.tables e below (T7.setTop (mkF m 28 #[.val (.int p0), .val (.int p1), .val (.int p2), .unset, .unset, .unset, .unset, .unset, .unset, .unset, .unset] [(.long (0 : Int64)), (.long (0 : Int64)), (.ref b6), (.ref b2), (.long (0 : Int64)), (.ref b1), (.ref b1)])) _
    refine st8.trans ?_
    show Steps p.tables e below (T8.setTop (mkF m 31 #[.val (.int p0), .val (.int p1), .val (.int p2), .unset, .unset, .unset, .unset, .unset, .unset, .unset, .unset] [(.ref b1)])) _
    refine XS.astoreN X8.here hx rfl (hb hby at_31) rfl rfl (l' := #[.val (.int p0), .val (.int p1), .val (.int p2), .val (.ref b1), .unset, .unset, .unset, .unset, .unset, .unset, .unset]) rfl ?_
    show Steps p.tables e below (T8.setTop (mkF m 32 #[.val (.int p0), .val (.int p1), .val (.int p2), .val (.ref b1), .unset, .unset, .unset, .unset, .unset, .unset, .unset] [])) _
    refine st9 _ ?_
    show Steps p.tables e below (T9.setTop (mkF m 35 #[.val (.int p0), .val (.int p1), .val (.int p2), .val (.ref b1), .unset, .unset, .unset, .unset, .unset, .unset, .unset] [(.ref b9)])) _
    refine XS.dup X9.here hx rfl (hb hby at_35) rfl rfl ?_
    show Steps p.tables e below (T9.setTop (mkF m 36 #[.val (.int p0), .val (.int p1), .val (.int p2), .val (.ref b1), .unset, .unset, .unset, .unset, .unset, .unset, .unset] [(.ref b9), (.ref b9)])) _
    refine st10.trans ?_
    show Steps p.tables e below (T10.setTop (mkF m 39 #[.val (.int p0), .val (.int p1), .val (.int p2), .val (.ref b1), .unset, .unset, .unset, .unset, .unset, .unset, .unset] [(.ref b9)])) _
    refine XS.astore X10.here hx rfl (hb hby at_39) rfl rfl (l' := #[.val (.int p0), .val (.int p1), .val (.int p2), .val (.ref b1), .val (.ref b9), .unset, .unset, .unset, .unset, .unset, .unset]) rfl ?_
    show Steps p.tables e below (T10.setTop (mkF m 41 #[.val (.int p0), .val (.int p1), .val (.int p2), .val (.ref b1), .val (.ref b9), .unset, .unset, .unset, .unset, .unset, .unset] [])) _
    refine XS.aload X10.here hx rfl (hb hby at_41) rfl rfl ?_
    show Steps p.tables e below (T10.setTop (mkF m 43 #[.val (.int p0), .val (.int p1), .val (.int p2), .val (.ref b1), .val (.ref b9), .unset, .unset, .unset, .unset, .unset, .unset] [(.ref b9)])) _
    refine st11 _ ?_
    show Steps p.tables e below (T11.setTop (mkF m 46 #[.val (.int p0), .val (.int p1), .val (.int p2), .val (.ref b1), .val (.ref b9), .unset, .unset, .unset, .unset, .unset, .unset] [(.ref b11), (.ref b9)])) _
    refine XS.dup X11.here hx rfl (hb hby at_46) rfl rfl ?_
    show Steps p.tables e below (T11.setTop (mkF m 47 #[.val (.int p0), .val (.int p1), .val (.int p2), .val (.ref b1), .val (.ref b9), .unset, .unset, .unset, .unset, .unset, .unset] [(.ref b11), (.ref b11), (.ref b9)])) _
    refine st12 _ ?_
    show Steps p.tables e below (T12.setTop (mkF m 49 #[.val (.int p0), .val (.int p1), .val (.int p2), .val (.ref b1), .val (.ref b9), .unset, .unset, .unset, .unset, .unset, .unset] [(.ref a12), (.ref b11), (.ref b11), (.ref b9)])) _
    refine st13 _ ?_
    show Steps p.tables e below (T13.setTop (mkF m 52 #[.val (.int p0), .val (.int p1), .val (.int p2), .val (.ref b1), .val (.ref b9), .unset, .unset, .unset, .unset, .unset, .unset] [(.ref w_UNKNOWN), (.ref a12), (.ref b11), (.ref b11), (.ref b9)])) _
    refine st14 _ ?_
    show Steps p.tables e below (T14.setTop (mkF m 54 #[.val (.int p0), .val (.int p1), .val (.int p2), .val (.ref b1), .val (.ref b9), .unset, .unset, .unset, .unset, .unset, .unset] [(.ref a14), (.ref w_UNKNOWN), (.ref a12), (.ref b11), (.ref b11), (.ref b9)])) _
    refine st15.trans ?_
    show Steps p.tables e below (T15.setTop (mkF m 57 #[.val (.int p0), .val (.int p1), .val (.int p2), .val (.ref b1), .val (.ref b9), .unset, .unset, .unset, .unset, .unset, .unset] [(.ref b11), (.ref b9)])) _
    refine st16.trans ?_
    show Steps p.tables e below (T16.setTop (mkF m 60 #[.val (.int p0), .val (.int p1), .val (.int p2), .val (.ref b1), .val (.ref b9), .unset, .unset, .unset, .unset, .unset, .unset] [(.int (1 : Int32))])) _
    refine XS.pop X16.here hx rfl (hb hby at_60) rfl rfl ?_
    show Steps p.tables e below (T16.setTop (mkF m 61 #[.val (.int p0), .val (.int p1), .val (.int p2), .val (.ref b1), .val (.ref b9), .unset, .unset, .unset, .unset, .unset, .unset] [])) _
    refine st17 _ ?_
    show Steps p.tables e below (T17.setTop (mkF m 64 #[.val (.int p0), .val (.int p1), .val (.int p2), .val (.ref b1), .val (.ref b9), .unset, .unset, .unset, .unset, .unset, .unset] [(.ref b17)])) _
    refine XS.dup X17.here hx rfl (hb hby at_64) rfl rfl ?_
    show Steps p.tables e below (T17.setTop (mkF m 65 #[.val (.int p0), .val (.int p1), .val (.int p2), .val (.ref b1), .val (.ref b9), .unset, .unset, .unset, .unset, .unset, .unset] [(.ref b17), (.ref b17)])) _
    refine st18 _ ?_
    show Steps p.tables e below (T18.setTop (mkF m 67 #[.val (.int p0), .val (.int p1), .val (.int p2), .val (.ref b1), .val (.ref b9), .unset, .unset, .unset, .unset, .unset, .unset] [(.ref a18), (.ref b17), (.ref b17)])) _
    refine XS.lconst X18.here hx rfl (hb hby at_67) ?_
    show Steps p.tables e below (T18.setTop (mkF m 68 #[.val (.int p0), .val (.int p1), .val (.int p2), .val (.ref b1), .val (.ref b9), .unset, .unset, .unset, .unset, .unset, .unset] [(.long (0 : Int64)), (.ref a18), (.ref b17), (.ref b17)])) _
    refine XS.aloadN X18.here hx rfl (hb hby at_68) rfl rfl ?_
    show Steps p.tables e below (T18.setTop (mkF m 69 #[.val (.int p0), .val (.int p1), .val (.int p2), .val (.ref b1), .val (.ref b9), .unset, .unset, .unset, .unset, .unset, .unset] [(.ref b1), (.long (0 : Int64)), (.ref a18), (.ref b17), (.ref b17)])) _
    refine XS.aload X18.here hx rfl (hb hby at_69) rfl rfl ?_
    show Steps p.tables e below (T18.setTop (mkF m 71 #[.val (.int p0), .val (.int p1), .val (.int p2), .val (.ref b1), .val (.ref b9), .unset, .unset, .unset, .unset, .unset, .unset] [(.ref b9), (.ref b1), (.long (0 : Int64)), (.ref a18), (.ref b17), (.ref b17)])) _
    refine XS.iloadN X18.here hx rfl (hb hby at_71) rfl ?_
    show Steps p.tables e below (T18.setTop (mkF m 72 #[.val (.int p0), .val (.int p1), .val (.int p2), .val (.ref b1), .val (.ref b9), .unset, .unset, .unset, .unset, .unset, .unset] [(.int p0), (.ref b9), (.ref b1), (.long (0 : Int64)), (.ref a18), (.ref b17), (.ref b17)])) _
    refine XS.iloadN X18.here hx rfl (hb hby at_72) rfl ?_
    show Steps p.tables e below (T18.setTop (mkF m 73 #[.val (.int p0), .val (.int p1), .val (.int p2), .val (.ref b1), .val (.ref b9), .unset, .unset, .unset, .unset, .unset, .unset] [(.int p1), (.int p0), (.ref b9), (.ref b1), (.long (0 : Int64)), (.ref a18), (.ref b17), (.ref b17)])) _
    refine st19 _ ?_
    show Steps p.tables e below (T19.setTop (mkF m 76 #[.val (.int p0), .val (.int p1), .val (.int p2), .val (.ref b1), .val (.ref b9), .unset, .unset, .unset, .unset, .unset, .unset] [(.ref b19), (.int p1), (.int p0), (.ref b9), (.ref b1), (.long (0 : Int64)), (.ref a18), (.ref b17), (.ref b17)])) _
    refine XS.dup X19.here hx rfl (hb hby at_76) rfl rfl ?_
    show Steps p.tables e below (T19.setTop (mkF m 77 #[.val (.int p0), .val (.int p1), .val (.int p2), .val (.ref b1), .val (.ref b9), .unset, .unset, .unset, .unset, .unset, .unset] [(.ref b19), (.ref b19), (.int p1), (.int p0), (.ref b9), (.ref b1), (.long (0 : Int64)), (.ref a18), (.ref b17), (.ref b17)])) _
    refine st20.trans ?_
    show Steps p.tables e below (T20.setTop (mkF m 80 #[.val (.int p0), .val (.int p1), .val (.int p2), .val (.ref b1), .val (.ref b9), .unset, .unset, .unset, .unset, .unset, .unset] [(.ref b19), (.int p1), (.int p0), (.ref b9), (.ref b1), (.long (0 : Int64)), (.ref a18), (.ref b17), (.ref b17)])) _
    refine st21.trans ?_
    show Steps p.tables e below (T21.setTop (mkF m 83 #[.val (.int p0), .val (.int p1), .val (.int p2), .val (.ref b1), .val (.ref b9), .unset, .unset, .unset, .unset, .unset, .unset] [(.ref b17)])) _
    refine XS.astore X21.here hx rfl (hb hby at_83) rfl rfl (l' := #[.val (.int p0), .val (.int p1), .val (.int p2), .val (.ref b1), .val (.ref b9), .val (.ref b17), .unset, .unset, .unset, .unset, .unset]) rfl ?_
    show Steps p.tables e below (T21.setTop (mkF m 85 #[.val (.int p0), .val (.int p1), .val (.int p2), .val (.ref b1), .val (.ref b9), .val (.ref b17), .unset, .unset, .unset, .unset, .unset] [])) _
    refine XS.iloadN X21.here hx rfl (hb hby at_85) rfl ?_
    show Steps p.tables e below (T21.setTop (mkF m 86 #[.val (.int p0), .val (.int p1), .val (.int p2), .val (.ref b1), .val (.ref b9), .val (.ref b17), .unset, .unset, .unset, .unset, .unset] [(.int p2)])) _
    refine XS.i2l X21.here hx rfl (hb hby at_86) rfl ?_
    show Steps p.tables e below (T21.setTop (mkF m 87 #[.val (.int p0), .val (.int p1), .val (.int p2), .val (.ref b1), .val (.ref b9), .val (.ref b17), .unset, .unset, .unset, .unset, .unset] [(.long (p2.toInt64))])) _
    refine XS.iloadN X21.here hx rfl (hb hby at_87) rfl ?_
    show Steps p.tables e below (T21.setTop (mkF m 88 #[.val (.int p0), .val (.int p1), .val (.int p2), .val (.ref b1), .val (.ref b9), .val (.ref b17), .unset, .unset, .unset, .unset, .unset] [(.int p0), (.long (p2.toInt64))])) _
    refine XS.i2l X21.here hx rfl (hb hby at_88) rfl ?_
    show Steps p.tables e below (T21.setTop (mkF m 89 #[.val (.int p0), .val (.int p1), .val (.int p2), .val (.ref b1), .val (.ref b9), .val (.ref b17), .unset, .unset, .unset, .unset, .unset] [(.long (p0.toInt64)), (.long (p2.toInt64))])) _
    refine XS.lsub X21.here hx rfl (hb hby at_89) rfl ?_
    show Steps p.tables e below (T21.setTop (mkF m 90 #[.val (.int p0), .val (.int p1), .val (.int p2), .val (.ref b1), .val (.ref b9), .val (.ref b17), .unset, .unset, .unset, .unset, .unset] [(.long ((p2.toInt64) - (p0.toInt64)))])) _
    refine XS.lstore X21.here hx rfl (hb hby at_90) rfl (l' := #[.val (.int p0), .val (.int p1), .val (.int p2), .val (.ref b1), .val (.ref b9), .val (.ref b17), .val (.long ((p2.toInt64) - (p0.toInt64))), .second, .unset, .unset, .unset]) rfl ?_
    show Steps p.tables e below (T21.setTop (mkF m 92 #[.val (.int p0), .val (.int p1), .val (.int p2), .val (.ref b1), .val (.ref b9), .val (.ref b17), .val (.long ((p2.toInt64) - (p0.toInt64))), .second, .unset, .unset, .unset] [])) _
    refine XS.iloadN X21.here hx rfl (hb hby at_92) rfl ?_
    show Steps p.tables e below (T21.setTop (mkF m 93 #[.val (.int p0), .val (.int p1), .val (.int p2), .val (.ref b1), .val (.ref b9), .val (.ref b17), .val (.long ((p2.toInt64) - (p0.toInt64))), .second, .unset, .unset, .unset] [(.int p1)])) _
    refine XS.i2l X21.here hx rfl (hb hby at_93) rfl ?_
    show Steps p.tables e below (T21.setTop (mkF m 94 #[.val (.int p0), .val (.int p1), .val (.int p2), .val (.ref b1), .val (.ref b9), .val (.ref b17), .val (.long ((p2.toInt64) - (p0.toInt64))), .second, .unset, .unset, .unset] [(.long (p1.toInt64))])) _
    refine XS.iloadN X21.here hx rfl (hb hby at_94) rfl ?_
    show Steps p.tables e below (T21.setTop (mkF m 95 #[.val (.int p0), .val (.int p1), .val (.int p2), .val (.ref b1), .val (.ref b9), .val (.ref b17), .val (.long ((p2.toInt64) - (p0.toInt64))), .second, .unset, .unset, .unset] [(.int p0), (.long (p1.toInt64))])) _
    refine XS.i2l X21.here hx rfl (hb hby at_95) rfl ?_
    show Steps p.tables e below (T21.setTop (mkF m 96 #[.val (.int p0), .val (.int p1), .val (.int p2), .val (.ref b1), .val (.ref b9), .val (.ref b17), .val (.long ((p2.toInt64) - (p0.toInt64))), .second, .unset, .unset, .unset] [(.long (p0.toInt64)), (.long (p1.toInt64))])) _
    refine XS.lsub X21.here hx rfl (hb hby at_96) rfl ?_
    show Steps p.tables e below (T21.setTop (mkF m 97 #[.val (.int p0), .val (.int p1), .val (.int p2), .val (.ref b1), .val (.ref b9), .val (.ref b17), .val (.long ((p2.toInt64) - (p0.toInt64))), .second, .unset, .unset, .unset] [(.long ((p1.toInt64) - (p0.toInt64)))])) _
    refine XS.lstore X21.here hx rfl (hb hby at_97) rfl (l' := #[.val (.int p0), .val (.int p1), .val (.int p2), .val (.ref b1), .val (.ref b9), .val (.ref b17), .val (.long ((p2.toInt64) - (p0.toInt64))), .second, .val (.long ((p1.toInt64) - (p0.toInt64))), .second, .unset]) rfl ?_
    show Steps p.tables e below (T21.setTop (mkF m 99 #[.val (.int p0), .val (.int p1), .val (.int p2), .val (.ref b1), .val (.ref b9), .val (.ref b17), .val (.long ((p2.toInt64) - (p0.toInt64))), .second, .val (.long ((p1.toInt64) - (p0.toInt64))), .second, .unset] [])) _
    refine XS.lload X21.here hx rfl (hb hby at_99) rfl ?_
    show Steps p.tables e below (T21.setTop (mkF m 101 #[.val (.int p0), .val (.int p1), .val (.int p2), .val (.ref b1), .val (.ref b9), .val (.ref b17), .val (.long ((p2.toInt64) - (p0.toInt64))), .second, .val (.long ((p1.toInt64) - (p0.toInt64))), .second, .unset] [(.long ((p2.toInt64) - (p0.toInt64)))])) _
    refine XS.lconst X21.here hx rfl (hb hby at_101) ?_
    show Steps p.tables e below (T21.setTop (mkF m 102 #[.val (.int p0), .val (.int p1), .val (.int p2), .val (.ref b1), .val (.ref b9), .val (.ref b17), .val (.long ((p2.toInt64) - (p0.toInt64))), .second, .val (.long ((p1.toInt64) - (p0.toInt64))), .second, .unset] [(.long (0 : Int64)), (.long ((p2.toInt64) - (p0.toInt64)))])) _
    refine XS.lcmp X21.here hx rfl (hb hby at_102) rfl ?_
    show Steps p.tables e below (T21.setTop (mkF m 103 #[.val (.int p0), .val (.int p1), .val (.int p2), .val (.ref b1), .val (.ref b9), .val (.ref b17), .val (.long ((p2.toInt64) - (p0.toInt64))), .second, .val (.long ((p1.toInt64) - (p0.toInt64))), .second, .unset] [(.int (lcmpW ((p2.toInt64) - (p0.toInt64)) (0 : Int64)))])) _
    refine XS.ifYes X21.here hx rfl (pc0 := 103) (pc' := 118) rfl (hb hby at_103) rfl ((if0 _ _).trans (tlt ((lw_lt _ _).mpr ((own_neg _ _).mpr hA) : (lcmpW ((p2.toInt64) - (p0.toInt64)) (0 : Int64)) < (0 : Int32))).1) (by decide) (by decide) ?_
    show Steps p.tables e below (T21.setTop (mkF m 118 #[.val (.int p0), .val (.int p1), .val (.int p2), .val (.ref b1), .val (.ref b9), .val (.ref b17), .val (.long ((p2.toInt64) - (p0.toInt64))), .second, .val (.long ((p1.toInt64) - (p0.toInt64))), .second, .unset] [])) _
    refine XS.iconst X21.here hx rfl (hb hby at_118) ?_
    show Steps p.tables e below (T21.setTop (mkF m 119 #[.val (.int p0), .val (.int p1), .val (.int p2), .val (.ref b1), .val (.ref b9), .val (.ref b17), .val (.long ((p2.toInt64) - (p0.toInt64))), .second, .val (.long ((p1.toInt64) - (p0.toInt64))), .second, .unset] [(.int (0 : Int32))])) _
    refine XS.istore X21.here hx rfl (hb hby at_119) rfl (l' := #[.val (.int p0), .val (.int p1), .val (.int p2), .val (.ref b1), .val (.ref b9), .val (.ref b17), .val (.long ((p2.toInt64) - (p0.toInt64))), .second, .val (.long ((p1.toInt64) - (p0.toInt64))), .second, .val (.int (0 : Int32))]) rfl ?_
    show Steps p.tables e below (T21.setTop (mkF m 121 #[.val (.int p0), .val (.int p1), .val (.int p2), .val (.ref b1), .val (.ref b9), .val (.ref b17), .val (.long ((p2.toInt64) - (p0.toInt64))), .second, .val (.long ((p1.toInt64) - (p0.toInt64))), .second, .val (.int (0 : Int32))] [])) _
    refine XS.aload X21.here hx rfl (hb hby at_121) rfl rfl ?_
    show Steps p.tables e below (T21.setTop (mkF m 123 #[.val (.int p0), .val (.int p1), .val (.int p2), .val (.ref b1), .val (.ref b9), .val (.ref b17), .val (.long ((p2.toInt64) - (p0.toInt64))), .second, .val (.long ((p1.toInt64) - (p0.toInt64))), .second, .val (.int (0 : Int32))] [(.ref b17)])) _
    refine XS.iloadN X21.here hx rfl (hb hby at_123) rfl ?_
    show Steps p.tables e below (T21.setTop (mkF m 124 #[.val (.int p0), .val (.int p1), .val (.int p2), .val (.ref b1), .val (.ref b9), .val (.ref b17), .val (.long ((p2.toInt64) - (p0.toInt64))), .second, .val (.long ((p1.toInt64) - (p0.toInt64))), .second, .val (.int (0 : Int32))] [(.int p2), (.ref b17)])) _
    refine st22.trans ?_
    show Steps p.tables e below (T22.setTop (mkF m 127 #[.val (.int p0), .val (.int p1), .val (.int p2), .val (.ref b1), .val (.ref b9), .val (.ref b17), .val (.long ((p2.toInt64) - (p0.toInt64))), .second, .val (.long ((p1.toInt64) - (p0.toInt64))), .second, .val (.int (0 : Int32))] [(.int (0 : Int32))])) _
    refine XS.iload X22.here hx rfl (hb hby at_127) rfl ?_
    show Steps p.tables e below (T22.setTop (mkF m 129 #[.val (.int p0), .val (.int p1), .val (.int p2), .val (.ref b1), .val (.ref b9), .val (.ref b17), .val (.long ((p2.toInt64) - (p0.toInt64))), .second, .val (.long ((p1.toInt64) - (p0.toInt64))), .second, .val (.int (0 : Int32))] [(.int (0 : Int32)), (.int (0 : Int32))])) _
    refine XS.icmpNo X22.here hx rfl (hb hby at_129) rfl (teq (by decide : (0 : Int32) = (0 : Int32))).2 ?_
    show Steps p.tables e below (T22.setTop (mkF m 132 #[.val (.int p0), .val (.int p1), .val (.int p2), .val (.ref b1), .val (.ref b9), .val (.ref b17), .val (.long ((p2.toInt64) - (p0.toInt64))), .second, .val (.long ((p1.toInt64) - (p0.toInt64))), .second, .val (.int (0 : Int32))] [])) _
    refine XS.aload X22.here hx rfl (hb hby at_132) rfl rfl ?_
    show Steps p.tables e below (T22.setTop (mkF m 134 #[.val (.int p0), .val (.int p1), .val (.int p2), .val (.ref b1), .val (.ref b9), .val (.ref b17), .val (.long ((p2.toInt64) - (p0.toInt64))), .second, .val (.long ((p1.toInt64) - (p0.toInt64))), .second, .val (.int (0 : Int32))] [(.ref b17)])) _
    refine XS.iloadN X22.here hx rfl (hb hby at_134) rfl ?_
    show Steps p.tables e below (T22.setTop (mkF m 135 #[.val (.int p0), .val (.int p1), .val (.int p2), .val (.ref b1), .val (.ref b9), .val (.ref b17), .val (.long ((p2.toInt64) - (p0.toInt64))), .second, .val (.long ((p1.toInt64) - (p0.toInt64))), .second, .val (.int (0 : Int32))] [(.int p1), (.ref b17)])) _
    refine st23.trans ?_
    show Steps p.tables e below (T23.setTop (mkF m 138 #[.val (.int p0), .val (.int p1), .val (.int p2), .val (.ref b1), .val (.ref b9), .val (.ref b17), .val (.long ((p2.toInt64) - (p0.toInt64))), .second, .val (.long ((p1.toInt64) - (p0.toInt64))), .second, .val (.int (0 : Int32))] [(.int (0 : Int32))])) _
    refine XS.ifNo X23.here hx rfl (hb hby at_138) rfl ((if0 _ _).trans (teq (by decide : (0 : Int32) = (0 : Int32))).2) ?_
    show Steps p.tables e below (T23.setTop (mkF m 141 #[.val (.int p0), .val (.int p1), .val (.int p2), .val (.ref b1), .val (.ref b9), .val (.ref b17), .val (.long ((p2.toInt64) - (p0.toInt64))), .second, .val (.long ((p1.toInt64) - (p0.toInt64))), .second, .val (.int (0 : Int32))] [])) _
    refine XS.aload X23.here hx rfl (hb hby at_141) rfl rfl ?_
    show Steps p.tables e below (T23.setTop (mkF m 143 #[.val (.int p0), .val (.int p1), .val (.int p2), .val (.ref b1), .val (.ref b9), .val (.ref b17), .val (.long ((p2.toInt64) - (p0.toInt64))), .second, .val (.long ((p1.toInt64) - (p0.toInt64))), .second, .val (.int (0 : Int32))] [(.ref b17)])) _
    refine XS.iloadN X23.here hx rfl (hb hby at_143) rfl ?_
    show Steps p.tables e below (T23.setTop (mkF m 144 #[.val (.int p0), .val (.int p1), .val (.int p2), .val (.ref b1), .val (.ref b9), .val (.ref b17), .val (.long ((p2.toInt64) - (p0.toInt64))), .second, .val (.long ((p1.toInt64) - (p0.toInt64))), .second, .val (.int (0 : Int32))] [(.int p0), (.ref b17)])) _
    refine st24.trans ?_
    show Steps p.tables e below (T24.setTop (mkF m 147 #[.val (.int p0), .val (.int p1), .val (.int p2), .val (.ref b1), .val (.ref b9), .val (.ref b17), .val (.long ((p2.toInt64) - (p0.toInt64))), .second, .val (.long ((p1.toInt64) - (p0.toInt64))), .second, .val (.int (0 : Int32))] [(.int (1 : Int32))])) _
    refine XS.lload X24.here hx rfl (hb hby at_147) rfl ?_
    show Steps p.tables e below (T24.setTop (mkF m 149 #[.val (.int p0), .val (.int p1), .val (.int p2), .val (.ref b1), .val (.ref b9), .val (.ref b17), .val (.long ((p2.toInt64) - (p0.toInt64))), .second, .val (.long ((p1.toInt64) - (p0.toInt64))), .second, .val (.int (0 : Int32))] [(.long ((p1.toInt64) - (p0.toInt64))), (.int (1 : Int32))])) _
    refine XS.lconst X24.here hx rfl (hb hby at_149) ?_
    show Steps p.tables e below (T24.setTop (mkF m 150 #[.val (.int p0), .val (.int p1), .val (.int p2), .val (.ref b1), .val (.ref b9), .val (.ref b17), .val (.long ((p2.toInt64) - (p0.toInt64))), .second, .val (.long ((p1.toInt64) - (p0.toInt64))), .second, .val (.int (0 : Int32))] [(.long (0 : Int64)), (.long ((p1.toInt64) - (p0.toInt64))), (.int (1 : Int32))])) _
    refine XS.lcmp X24.here hx rfl (hb hby at_150) rfl ?_
    show Steps p.tables e below (T24.setTop (mkF m 151 #[.val (.int p0), .val (.int p1), .val (.int p2), .val (.ref b1), .val (.ref b9), .val (.ref b17), .val (.long ((p2.toInt64) - (p0.toInt64))), .second, .val (.long ((p1.toInt64) - (p0.toInt64))), .second, .val (.int (0 : Int32))] [(.int (lcmpW ((p1.toInt64) - (p0.toInt64)) (0 : Int64))), (.int (1 : Int32))])) _
    refine XS.ifNo X24.here hx rfl (hb hby at_151) rfl ((if0 _ _).trans (tlt ((lw_gt _ _).mpr ((own_pos _ _).mpr hD) : (0 : Int32) < (lcmpW ((p1.toInt64) - (p0.toInt64)) (0 : Int64)))).2.2.2) ?_
    show Steps p.tables e below (T24.setTop (mkF m 154 #[.val (.int p0), .val (.int p1), .val (.int p2), .val (.ref b1), .val (.ref b9), .val (.ref b17), .val (.long ((p2.toInt64) - (p0.toInt64))), .second, .val (.long ((p1.toInt64) - (p0.toInt64))), .second, .val (.int (0 : Int32))] [(.int (1 : Int32))])) _
    refine XS.iconst X24.here hx rfl (hb hby at_154) ?_
    show Steps p.tables e below (T24.setTop (mkF m 155 #[.val (.int p0), .val (.int p1), .val (.int p2), .val (.ref b1), .val (.ref b9), .val (.ref b17), .val (.long ((p2.toInt64) - (p0.toInt64))), .second, .val (.long ((p1.toInt64) - (p0.toInt64))), .second, .val (.int (0 : Int32))] [(.int (1 : Int32)), (.int (1 : Int32))])) _
    refine XS.goto X24.here hx rfl (pc0 := 155) (pc' := 159) rfl (hb hby at_155) (by decide) (by decide) ?_
    show Steps p.tables e below (T24.setTop (mkF m 159 #[.val (.int p0), .val (.int p1), .val (.int p2), .val (.ref b1), .val (.ref b9), .val (.ref b17), .val (.long ((p2.toInt64) - (p0.toInt64))), .second, .val (.long ((p1.toInt64) - (p0.toInt64))), .second, .val (.int (0 : Int32))] [(.int (1 : Int32)), (.int (1 : Int32))])) _
    refine XS.icmpNo X24.here hx rfl (hb hby at_159) rfl (teq (by decide : (1 : Int32) = (1 : Int32))).2 ?_
    show Steps p.tables e below (T24.setTop (mkF m 162 #[.val (.int p0), .val (.int p1), .val (.int p2), .val (.ref b1), .val (.ref b9), .val (.ref b17), .val (.long ((p2.toInt64) - (p0.toInt64))), .second, .val (.long ((p1.toInt64) - (p0.toInt64))), .second, .val (.int (0 : Int32))] [])) _
    refine XS.iconst X24.here hx rfl (hb hby at_162) ?_
    show Steps p.tables e below (T24.setTop (mkF m 163 #[.val (.int p0), .val (.int p1), .val (.int p2), .val (.ref b1), .val (.ref b9), .val (.ref b17), .val (.long ((p2.toInt64) - (p0.toInt64))), .second, .val (.long ((p1.toInt64) - (p0.toInt64))), .second, .val (.int (0 : Int32))] [(.int (1 : Int32))])) _
    refine XS.goto X24.here hx rfl (pc0 := 163) (pc' := 167) rfl (hb hby at_163) (by decide) (by decide) ?_
    show Steps p.tables e below (T24.setTop (mkF m 167 #[.val (.int p0), .val (.int p1), .val (.int p2), .val (.ref b1), .val (.ref b9), .val (.ref b17), .val (.long ((p2.toInt64) - (p0.toInt64))), .second, .val (.long ((p1.toInt64) - (p0.toInt64))), .second, .val (.int (0 : Int32))] [(.int (1 : Int32))])) _
    exact retOut X24 hx Bd.returns rfl (Or.inl ⟨rfl, Or.inr (Or.inl rfl), _, rfl⟩) (hb hby at_167) hr
  · show QL (some (.int (1 : Int32))) h0 n0 _ T24.heap _
    rw [e24]
    exact ⟨rfl, N24⟩
set_option maxRecDepth 65536 in
set_option maxHeartbeats 40000000 in
theorem law_an (l : Launch) (Z : State) (a0 : Array Value) (hw : ∀ d ∈ tables_1, d.before a0 Z = true) (ws : List Jvm.Cond) (p0 p1 p2 : Int32) (w_dc w_el w_em w_ee m_o w_CLASS w_UNKNOWN : Addr) (k_dc k_ee : ClassId) (h0 : Heap) (n0 : Nat) (Z0 : n0 ≤ h0.size) (S_dc : Sta Z h0 "java/util/ArrayList" "DEFAULTCAPACITY_EMPTY_ELEMENTDATA" "[Ljava/lang/Object;" (.ref w_dc)) (V_dc : Arv Z h0 w_dc k_dc (.object "java/lang/Object") (0 : Int32) [] .null) (S_el : Sta Z h0 "java/util/ImmutableCollections" "EMPTY_LIST" "Ljava/util/ImmutableCollections$ListN;" (.ref w_el)) (S_em : Sta Z h0 "java/util/ImmutableCollections" "EMPTY" "Ljava/lang/Object;" (.ref w_em)) (E_el : Exa Z h0 w_el "java/util/ImmutableCollections$ListN") (F_el : Fld Z h0 w_el "java/util/ImmutableCollections$ListN" "elements" "[Ljava/lang/Object;" (.ref w_ee)) (V_ee : Arv Z h0 w_ee k_ee (.object "java/lang/Object") (0 : Int32) [] .null) (M_o : Mir Z "[Ljava/lang/Object;" m_o) (S_w_CLASS : Sta Z h0 "com/example/refleash/refleash/heap/Trace$Root$Kind" "CLASS" "Lcom/example/refleash/refleash/heap/Trace$Root$Kind;" (.ref w_CLASS)) (S_w_UNKNOWN : Sta Z h0 "com/example/refleash/refleash/heap/Leak$Status" "UNKNOWN" "Lcom/example/refleash/refleash/heap/Leak$Status;" (.ref w_UNKNOWN)) (hA : p2 < p0) (hD : ¬ (p0 < p1)) :
    MetFree l x (head1 (Jvm.Cond.code x code maxLocals ret :: ws) room_1) (fun a U => a = #[(.int p0), (.int p1), (.int p2)] ∧ Z.Warmed39 U.vm ∧ U.heap = h0) (fun _ _ _ _ _ => True) (fun _ U o U' => ∃ v L, o = .returned v ∧ QL (some (.int (1 : Int32))) h0 n0 v U'.heap L ∧ ReturnedEndW U o U' L room_1.cells room_1.slots) := by
  refine MetFree.of_bodySF (plainFor_of_name pn_com_example_refleash_refleash_heap_LeakIsSuspectPinLaw) hisR ?_
  intro p e s m args below meth c s₁ Bd hml0 hP hK
  obtain ⟨rfl, hZ, hh⟩ := hP
  have hx := Bd.exec
  have hby := Bd.bytes
  have hml : c.maxLocals = 11 := hml0
  have hown : s.vm.findClass "com/example/refleash/refleash/heap/LeakIsSuspectPinLaw" = some m.cls := findClass_of_methodNamed Bd.named
  have hnm := (name_of_methodNamed Bd.named Bd.method).1
  have X0 : Stand p l e room_1 s m #[(.int p0), (.int p1), (.int p2)] below meth c s₁ [] 0 0 := Stand.of_body Bd
  have e0 : s₁.heap = h0 := by rw [← hh, Bd.state]; rfl
  have N0 := Fr.nil n0
  have pre0 : ∀ t, Steps p.tables e below (s₁.setTop (mkF m 0 #[.val (.int p0), .val (.int p1), .val (.int p2), .unset, .unset, .unset, .unset, .unset, .unset, .unset, .unset] [])) t → Steps p.tables e below (s₁.setTop (entryFrame m #[(.int p0), (.int p1), (.int p2)] maxLocals)) t := fun t k => castTop (ef_0_III m p0 p1 p2) k
  obtain ⟨T1, h1, X1, e1, E1, A1, D1, -, st1⟩ := newO X0 hx hZ hown (hw _ (List.mem_of_getElem? (i := 0) rfl)) (hw _ (List.mem_of_getElem? (i := 1) rfl)) (hw _ (List.mem_of_getElem? (i := 2) rfl)) e0 (g := (mkF m 0 #[.val (.int p0), .val (.int p1), .val (.int p2), .unset, .unset, .unset, .unset, .unset, .unset, .unset, .unset] [])) rfl (hb hby at_0) (by decide) (by decide)
  obtain ⟨b1, gg1⟩ : ∃ z, z = h0.size := ⟨_, rfl⟩
  rw [← gg1] at A1 D1 st1
  have sz_b1 : h0.size ≤ b1 := Nat.le_of_eq gg1.symm
  have sz0_b1 : h0.size ≤ b1 := Nat.le_trans (Keep.refl h0 []).1 sz_b1
  have g_b1 : n0 ≤ b1 := Nat.le_trans Z0 sz0_b1
  have K1q : Keep h0 h1 [] := (Keep.refl _ []).ext E1
  have K1 : Keep h0 h1 [] := (Keep.refl h0 []).ext E1
  have F1_objectId : Fld Z h1 b1 "com/example/refleash/refleash/heap/Trace" "objectId" "J" (.long (0 : Int64)) := D1 (Or.inr (hw _ (List.mem_of_getElem? (i := 99) rfl))) (ty := .long) (by decide)
  have F1_root : Fld Z h1 b1 "com/example/refleash/refleash/heap/Trace" "root" "Lcom/example/refleash/refleash/heap/Trace$Root;" .null := D1 (Or.inr (hw _ (List.mem_of_getElem? (i := 101) rfl))) (ty := (.object "com/example/refleash/refleash/heap/Trace$Root")) (by decide)
  have F1_hops : Fld Z h1 b1 "com/example/refleash/refleash/heap/Trace" "hops" "Ljava/util/List;" .null := D1 (Or.inr (hw _ (List.mem_of_getElem? (i := 103) rfl))) (ty := (.object "java/util/List")) (by decide)
  have F1_retainedBytes : Fld Z h1 b1 "com/example/refleash/refleash/heap/Trace" "retainedBytes" "J" (.long (0 : Int64)) := D1 (Or.inr (hw _ (List.mem_of_getElem? (i := 105) rfl))) (ty := .long) (by decide)
  have F1_retainedObjects : Fld Z h1 b1 "com/example/refleash/refleash/heap/Trace" "retainedObjects" "J" (.long (0 : Int64)) := D1 (Or.inr (hw _ (List.mem_of_getElem? (i := 107) rfl))) (ty := .long) (by decide)
  obtain ⟨T2, h2, X2, e2, E2, A2, D2, -, st2⟩ := newO X1 hx hZ hown (hw _ (List.mem_of_getElem? (i := 3) rfl)) (hw _ (List.mem_of_getElem? (i := 4) rfl)) (hw _ (List.mem_of_getElem? (i := 5) rfl)) e1 (g := (mkF m 5 #[.val (.int p0), .val (.int p1), .val (.int p2), .unset, .unset, .unset, .unset, .unset, .unset, .unset, .unset] [(.long (0 : Int64)), (.ref b1), (.ref b1)])) rfl (hb hby at_5) (by decide) (by decide)
  obtain ⟨b2, gg2⟩ : ∃ z, z = h1.size := ⟨_, rfl⟩
  rw [← gg2] at A2 D2 st2
  have sz_b2 : h1.size ≤ b2 := Nat.le_of_eq gg2.symm
  have sz0_b2 : h0.size ≤ b2 := Nat.le_trans K1.1 sz_b2
  have g_b2 : n0 ≤ b2 := Nat.le_trans Z0 sz0_b2
  have K2q : Keep h1 h2 [] := (Keep.refl _ []).ext E2
  have K2 : Keep h0 h2 [] := K1.ext E2
  have F2_kind : Fld Z h2 b2 "com/example/refleash/refleash/heap/Trace$Root" "kind" "Lcom/example/refleash/refleash/heap/Trace$Root$Kind;" .null := D2 (Or.inr (hw _ (List.mem_of_getElem? (i := 33) rfl))) (ty := (.object "com/example/refleash/refleash/heap/Trace$Root$Kind")) (by decide)
  have F2_className : Fld Z h2 b2 "com/example/refleash/refleash/heap/Trace$Root" "className" "Ljava/lang/String;" .null := D2 (Or.inr (hw _ (List.mem_of_getElem? (i := 35) rfl))) (ty := (.object "java/lang/String")) (by decide)
  have F2_thread : Fld Z h2 b2 "com/example/refleash/refleash/heap/Trace$Root" "thread" "Ljava/lang/String;" .null := D2 (Or.inr (hw _ (List.mem_of_getElem? (i := 37) rfl))) (ty := (.object "java/lang/String")) (by decide)
  have F2_method : Fld Z h2 b2 "com/example/refleash/refleash/heap/Trace$Root" "method" "Ljava/lang/String;" .null := D2 (Or.inr (hw _ (List.mem_of_getElem? (i := 39) rfl))) (ty := (.object "java/lang/String")) (by decide)
  obtain ⟨T3, X3, e3, st3⟩ := getS2 X2 hx hZ hown (host := "") (Or.inl (hw _ (List.mem_of_getElem? (i := 6) rfl))) Via.refl e2 (own_sta_keep S_w_CLASS K2) (g := (mkF m 9 #[.val (.int p0), .val (.int p1), .val (.int p2), .unset, .unset, .unset, .unset, .unset, .unset, .unset, .unset] [(.ref b2), (.ref b2), (.long (0 : Int64)), (.ref b1), (.ref b1)])) rfl (hb hby at_9)
  have wS : ∀ d ∈ Bundle.stringAtoms, d.before a0 Z = true := fun d hd => hw d ((by decide +kernel : ∀ d ∈ Bundle.stringAtoms, d ∈ tables_1) d hd)
  obtain ⟨a4, T4, h4, k4, X4, e4, E4, S4, hk4, hZ, hown, st4⟩ := ldcS (s := s) (vm0 := s.vm) X3 hx hZ hown (hw _ (List.mem_of_getElem? (i := 9) rfl)) wS e3 ((State.WarmedH.refl s).since 0) (Nat.zero_le _) (g := (mkF m 12 #[.val (.int p0), .val (.int p1), .val (.int p2), .unset, .unset, .unset, .unset, .unset, .unset, .unset, .unset] [(.ref w_CLASS), (.ref b2), (.ref b2), (.long (0 : Int64)), (.ref b1), (.ref b1)])) rfl (hb hby at_12) (n := 4) (by decide) (by decide) (by decide) (by decide)
  have K4q : Keep h2 h4 [] := (Keep.refl _ []).ext E4
  have K4 : Keep h0 h4 [] := K2.ext E4
  obtain ⟨_, _, ⟨T5, L5, k5, n5⟩, -, X5, ⟨Lc5, hQ5, l5, y5, z5⟩, st5⟩ := X4.specialBack hx (y := (⟨"com/example/refleash/refleash/heap/Trace$Root", "<init>", "(Lcom/example/refleash/refleash/heap/Trace$Root$Kind;Ljava/lang/String;Ljava/lang/String;Ljava/lang/String;)V"⟩ : MethodName)) rfl hown (mvT hZ (hw _ (List.mem_of_getElem? (i := 17) rfl))) (mvT hZ (hw _ (List.mem_of_getElem? (i := 18) rfl))) (mvT hZ (hw _ (List.mem_of_getElem? (i := 19) rfl))) (by decide) (backOf (W := 5) (root_init l Z a0 hw [] b2 w_CLASS a4 h4 n0 (Nat.le_trans Z0 K4.1) (F2_kind.keep K4q nin0) (F2_className.keep K4q nin0) (F2_thread.keep K4q nin0) (F2_method.keep K4q nin0) (A2.keep K4q) g_b2) hZ (hw _ (List.mem_of_getElem? (i := 19) rfl)) (hw _ (List.mem_of_getElem? (i := 5) rfl)) (by decide) (by decide)) (g := (mkF m 16 #[.val (.int p0), .val (.int p1), .val (.int p2), .unset, .unset, .unset, .unset, .unset, .unset, .unset, .unset] [.null, .null, (.ref a4), (.ref w_CLASS), (.ref b2), (.ref b2), (.long (0 : Int64)), (.ref b1), (.ref b1)])) rfl (by rw [hml]; rfl) (Steps.refl _) (a := b2) (argsL := [(.ref w_CLASS), (.ref a4), .null, .null]) (rest := [(.ref b2), (.long (0 : Int64)), (.ref b1), (.ref b1)]) (lenOf pd__Lcom_example_refleash_refleash_heap_Trace_Root_Kind_Ljava_lang_String_Ljava_lang_String_Ljava_lang_String__V rfl) rfl (by show 2 * 0 + _ ≤ _; exact Nat.le_of_eq rfl) (hb hby at_16) (fun _ _ => ⟨rfl, e4, (by decide : 4 + 0 ≤ _), (by decide : 17 + 0 ≤ _)⟩)
  dsimp only [Pt.U, Pt.locs, Pt.cells, Pt.slots] at X5 l5 y5 z5 st5 hQ5
  subst l5 y5 z5
  obtain ⟨rfl, N5q, K5q⟩ := hQ5
  have N5 := Fr.app N0 N5q
  have K5 : Keep h0 T5.heap [] := K4.trans K5q (allS (Or.inr sz0_b2) all0)
  obtain ⟨T6, h6, X6, e6, E6, A6, D6, -, st6⟩ := newO X5 hx hZ hown (hw _ (List.mem_of_getElem? (i := 40) rfl)) (hw _ (List.mem_of_getElem? (i := 41) rfl)) (hw _ (List.mem_of_getElem? (i := 42) rfl)) rfl (g := (mkF m 19 #[.val (.int p0), .val (.int p1), .val (.int p2), .unset, .unset, .unset, .unset, .unset, .unset, .unset, .unset] [(.ref b2), (.long (0 : Int64)), (.ref b1), (.ref b1)])) rfl (hb hby at_19) (by decide) (by decide)
  obtain ⟨b6, gg6⟩ : ∃ z, z = T5.heap.size := ⟨_, rfl⟩
  rw [← gg6] at A6 D6 st6
  have sz_b6 : T5.heap.size ≤ b6 := Nat.le_of_eq gg6.symm
  have sz0_b6 : h0.size ≤ b6 := Nat.le_trans K5.1 sz_b6
  have g_b6 : n0 ≤ b6 := Nat.le_trans Z0 sz0_b6
  have K6q : Keep T5.heap h6 [] := (Keep.refl _ []).ext E6
  have K6 : Keep h0 h6 [] := K5.ext E6
  have F6_modCount : Fld Z h6 b6 "java/util/AbstractList" "modCount" "I" (.int (0 : Int32)) := D6 (Or.inl (hw _ (List.mem_of_getElem? (i := 60) rfl))) (ty := .int) (by decide)
  have F6_elementData : Fld Z h6 b6 "java/util/ArrayList" "elementData" "[Ljava/lang/Object;" .null := D6 (Or.inl (hw _ (List.mem_of_getElem? (i := 63) rfl))) (ty := (.array (.object "java/lang/Object"))) (by decide)
  have F6_size : Fld Z h6 b6 "java/util/ArrayList" "size" "I" (.int (0 : Int32)) := D6 (Or.inl (hw _ (List.mem_of_getElem? (i := 93) rfl))) (ty := .int) (by decide)
  obtain ⟨_, _, ⟨T7, L7, k7, n7⟩, -, X7, ⟨Lc7, hQ7, l7, y7, z7⟩, st7⟩ := X6.specialBack hx (y := (⟨"java/util/ArrayList", "<init>", "()V"⟩ : MethodName)) rfl hown (mvT hZ (hw _ (List.mem_of_getElem? (i := 43) rfl))) (mvT hZ (hw _ (List.mem_of_getElem? (i := 44) rfl))) (mvT hZ (hw _ (List.mem_of_getElem? (i := 45) rfl))) (by decide) (backOf (W := 6) (al_init l Z a0 hw [] b6 w_dc h6 n0 (Nat.le_trans Z0 K6.1) F6_modCount F6_elementData F6_size A6 g_b6 (own_sta_keep S_dc K6)) hZ (hw _ (List.mem_of_getElem? (i := 45) rfl)) (hw _ (List.mem_of_getElem? (i := 42) rfl)) (by decide) (by decide)) (g := (mkF m 23 #[.val (.int p0), .val (.int p1), .val (.int p2), .unset, .unset, .unset, .unset, .unset, .unset, .unset, .unset] [(.ref b6), (.ref b6), (.ref b2), (.long (0 : Int64)), (.ref b1), (.ref b1)])) rfl (by rw [hml]; rfl) (Steps.refl _) (a := b6) (argsL := []) (rest := [(.ref b6), (.ref b2), (.long (0 : Int64)), (.ref b1), (.ref b1)]) (lenOf pd___V rfl) rfl (by show 2 * 0 + _ ≤ _; exact Nat.le_of_eq rfl) (hb hby at_23) (fun _ _ => ⟨rfl, e6, (by decide : 5 + 0 ≤ _), (by decide : 20 + 0 ≤ _)⟩)
  dsimp only [Pt.U, Pt.locs, Pt.cells, Pt.slots] at X7 l7 y7 z7 st7 hQ7
  subst l7 y7 z7
  obtain ⟨rfl, N7q, K7q, E7q, F7q_modCount, F7q_elementData, F7q_size⟩ := hQ7
  have N7 := Fr.app N5 N7q
  have K7 : Keep h0 T7.heap [] := K6.trans K7q (allS (Or.inr sz0_b6) all0)
  obtain ⟨_, _, ⟨T8, L8, k8, n8⟩, -, X8, ⟨Lc8, hQ8, l8, y8, z8⟩, st8⟩ := X7.specialBack hx (y := (⟨"com/example/refleash/refleash/heap/Trace", "<init>", "(JLcom/example/refleash/refleash/heap/Trace$Root;Ljava/util/List;JJ)V"⟩ : MethodName)) rfl hown (mvT hZ (hw _ (List.mem_of_getElem? (i := 64) rfl))) (mvT hZ (hw _ (List.mem_of_getElem? (i := 65) rfl))) (mvT hZ (hw _ (List.mem_of_getElem? (i := 66) rfl))) (by decide) (backOf (W := 1) (trace_init l Z a0 hw [] b1 (0 : Int64) b2 b6 (0 : Int64) (0 : Int64) w_el T7.heap n0 (Nat.le_trans Z0 K7.1) (((((F1_objectId.keep K2q nin0).keep K4q nin0).keep K5q (ninS (Nat.ne_of_lt (Nat.lt_of_lt_of_le A1.lt sz_b2)) nin0)).keep K6q nin0).keep K7q (ninS (Nat.ne_of_lt (Nat.lt_of_lt_of_le (((A1.keep K2q).keep K4q).keep K5q).lt sz_b6)) nin0)) (((((F1_root.keep K2q nin0).keep K4q nin0).keep K5q (ninS (Nat.ne_of_lt (Nat.lt_of_lt_of_le A1.lt sz_b2)) nin0)).keep K6q nin0).keep K7q (ninS (Nat.ne_of_lt (Nat.lt_of_lt_of_le (((A1.keep K2q).keep K4q).keep K5q).lt sz_b6)) nin0)) (((((F1_hops.keep K2q nin0).keep K4q nin0).keep K5q (ninS (Nat.ne_of_lt (Nat.lt_of_lt_of_le A1.lt sz_b2)) nin0)).keep K6q nin0).keep K7q (ninS (Nat.ne_of_lt (Nat.lt_of_lt_of_le (((A1.keep K2q).keep K4q).keep K5q).lt sz_b6)) nin0)) (((((F1_retainedBytes.keep K2q nin0).keep K4q nin0).keep K5q (ninS (Nat.ne_of_lt (Nat.lt_of_lt_of_le A1.lt sz_b2)) nin0)).keep K6q nin0).keep K7q (ninS (Nat.ne_of_lt (Nat.lt_of_lt_of_le (((A1.keep K2q).keep K4q).keep K5q).lt sz_b6)) nin0)) (((((F1_retainedObjects.keep K2q nin0).keep K4q nin0).keep K5q (ninS (Nat.ne_of_lt (Nat.lt_of_lt_of_le A1.lt sz_b2)) nin0)).keep K6q nin0).keep K7q (ninS (Nat.ne_of_lt (Nat.lt_of_lt_of_le (((A1.keep K2q).keep K4q).keep K5q).lt sz_b6)) nin0)) (((((A1.keep K2q).keep K4q).keep K5q).keep K6q).keep K7q) g_b1 E7q F7q_size (own_sta_keep S_el K7)) hZ (hw _ (List.mem_of_getElem? (i := 66) rfl)) (hw _ (List.mem_of_getElem? (i := 2) rfl)) (by decide) (by decide)) (g := (mkF m 28 #[.val (.int p0), .val (.int p1), .val (.int p2), .unset, .unset, .unset, .unset, .unset, .unset, .unset, .unset] [(.long (0 : Int64)), (.long (0 : Int64)), (.ref b6), (.ref b2), (.long (0 : Int64)), (.ref b1), (.ref b1)])) rfl (by rw [hml]; rfl) (Steps.refl _) (a := b1) (argsL := [(.long (0 : Int64)), (.ref b2), (.ref b6), (.long (0 : Int64)), (.long (0 : Int64))]) (rest := [(.ref b1)]) (lenOf pd__JLcom_example_refleash_refleash_heap_Trace_Root_Ljava_util_List_JJ_V rfl) rfl (by show 2 * 0 + _ ≤ _; exact Nat.le_of_eq rfl) (hb hby at_28) (fun _ _ => ⟨rfl, rfl, (by decide : 5 + 0 ≤ _), (by decide : 20 + 0 ≤ _)⟩)
  dsimp only [Pt.U, Pt.locs, Pt.cells, Pt.slots] at X8 l8 y8 z8 st8 hQ8
  subst l8 y8 z8
  obtain ⟨rfl, N8q, K8q, E8q, F8q⟩ := hQ8
  have N8 := Fr.app N7 N8q
  have K8 : Keep h0 T8.heap [] := K7.trans K8q (allS (Or.inr sz0_b1) all0)
  obtain ⟨T9, h9, X9, e9, E9, A9, D9, -, st9⟩ := newO X8 hx hZ hown (hw _ (List.mem_of_getElem? (i := 40) rfl)) (hw _ (List.mem_of_getElem? (i := 41) rfl)) (hw _ (List.mem_of_getElem? (i := 42) rfl)) rfl (g := (mkF m 32 #[.val (.int p0), .val (.int p1), .val (.int p2), .val (.ref b1), .unset, .unset, .unset, .unset, .unset, .unset, .unset] [])) rfl (hb hby at_32) (by decide) (by decide)
  obtain ⟨b9, gg9⟩ : ∃ z, z = T8.heap.size := ⟨_, rfl⟩
  rw [← gg9] at A9 D9 st9
  have sz_b9 : T8.heap.size ≤ b9 := Nat.le_of_eq gg9.symm
  have sz0_b9 : h0.size ≤ b9 := Nat.le_trans K8.1 sz_b9
  have g_b9 : n0 ≤ b9 := Nat.le_trans Z0 sz0_b9
  have K9q : Keep T8.heap h9 [] := (Keep.refl _ []).ext E9
  have K9 : Keep h0 h9 [] := K8.ext E9
  have F9_modCount : Fld Z h9 b9 "java/util/AbstractList" "modCount" "I" (.int (0 : Int32)) := D9 (Or.inl (hw _ (List.mem_of_getElem? (i := 60) rfl))) (ty := .int) (by decide)
  have F9_elementData : Fld Z h9 b9 "java/util/ArrayList" "elementData" "[Ljava/lang/Object;" .null := D9 (Or.inl (hw _ (List.mem_of_getElem? (i := 63) rfl))) (ty := (.array (.object "java/lang/Object"))) (by decide)
  have F9_size : Fld Z h9 b9 "java/util/ArrayList" "size" "I" (.int (0 : Int32)) := D9 (Or.inl (hw _ (List.mem_of_getElem? (i := 93) rfl))) (ty := .int) (by decide)
  obtain ⟨_, _, ⟨T10, L10, k10, n10⟩, -, X10, ⟨Lc10, hQ10, l10, y10, z10⟩, st10⟩ := X9.specialBack hx (y := (⟨"java/util/ArrayList", "<init>", "()V"⟩ : MethodName)) rfl hown (mvT hZ (hw _ (List.mem_of_getElem? (i := 43) rfl))) (mvT hZ (hw _ (List.mem_of_getElem? (i := 44) rfl))) (mvT hZ (hw _ (List.mem_of_getElem? (i := 45) rfl))) (by decide) (backOf (W := 1) (al_init l Z a0 hw [] b9 w_dc h9 n0 (Nat.le_trans Z0 K9.1) F9_modCount F9_elementData F9_size A9 g_b9 (own_sta_keep S_dc K9)) hZ (hw _ (List.mem_of_getElem? (i := 45) rfl)) (hw _ (List.mem_of_getElem? (i := 42) rfl)) (by decide) (by decide)) (g := (mkF m 36 #[.val (.int p0), .val (.int p1), .val (.int p2), .val (.ref b1), .unset, .unset, .unset, .unset, .unset, .unset, .unset] [(.ref b9), (.ref b9)])) rfl (by rw [hml]; rfl) (Steps.refl _) (a := b9) (argsL := []) (rest := [(.ref b9)]) (lenOf pd___V rfl) rfl (by show 2 * 0 + _ ≤ _; exact Nat.le_of_eq rfl) (hb hby at_36) (fun _ _ => ⟨rfl, e9, (by decide : 6 + 0 ≤ _), (by decide : 23 + 0 ≤ _)⟩)
  dsimp only [Pt.U, Pt.locs, Pt.cells, Pt.slots] at X10 l10 y10 z10 st10 hQ10
  subst l10 y10 z10
  obtain ⟨rfl, N10q, K10q, E10q, F10q_modCount, F10q_elementData, F10q_size⟩ := hQ10
  have N10 := Fr.app N8 N10q
  have K10 : Keep h0 T10.heap [] := K9.trans K10q (allS (Or.inr sz0_b9) all0)
  obtain ⟨T11, h11, X11, e11, E11, A11, D11, -, st11⟩ := newO X10 hx hZ hown (hw _ (List.mem_of_getElem? (i := 108) rfl)) (hw _ (List.mem_of_getElem? (i := 109) rfl)) (hw _ (List.mem_of_getElem? (i := 110) rfl)) rfl (g := (mkF m 43 #[.val (.int p0), .val (.int p1), .val (.int p2), .val (.ref b1), .val (.ref b9), .unset, .unset, .unset, .unset, .unset, .unset] [(.ref b9)])) rfl (hb hby at_43) (by decide) (by decide)
  obtain ⟨b11, gg11⟩ : ∃ z, z = T10.heap.size := ⟨_, rfl⟩
  rw [← gg11] at A11 D11 st11
  have sz_b11 : T10.heap.size ≤ b11 := Nat.le_of_eq gg11.symm
  have sz0_b11 : h0.size ≤ b11 := Nat.le_trans K10.1 sz_b11
  have g_b11 : n0 ≤ b11 := Nat.le_trans Z0 sz0_b11
  have K11q : Keep T10.heap h11 [] := (Keep.refl _ []).ext E11
  have K11 : Keep h0 h11 [] := K10.ext E11
  have F11_className : Fld Z h11 b11 "com/example/refleash/refleash/heap/Leak$Node" "className" "Ljava/lang/String;" .null := D11 (Or.inr (hw _ (List.mem_of_getElem? (i := 121) rfl))) (ty := (.object "java/lang/String")) (by decide)
  have F11_status : Fld Z h11 b11 "com/example/refleash/refleash/heap/Leak$Node" "status" "Lcom/example/refleash/refleash/heap/Leak$Status;" .null := D11 (Or.inr (hw _ (List.mem_of_getElem? (i := 123) rfl))) (ty := (.object "com/example/refleash/refleash/heap/Leak$Status")) (by decide)
  have F11_reason : Fld Z h11 b11 "com/example/refleash/refleash/heap/Leak$Node" "reason" "Ljava/lang/String;" .null := D11 (Or.inr (hw _ (List.mem_of_getElem? (i := 125) rfl))) (ty := (.object "java/lang/String")) (by decide)
  obtain ⟨a12, T12, h12, k12, X12, e12, E12, S12, hk12, hZ, hown, st12⟩ := ldcS (s := s) (vm0 := T4.vm) X11 hx hZ hown (hw _ (List.mem_of_getElem? (i := 9) rfl)) wS e11 S4 (Nat.le_trans (Nat.le_trans (Nat.le_trans (Nat.le_trans (Nat.le_trans (Nat.le_trans (Nat.le_trans hk4 K5q.1) K6q.1) K7q.1) K8q.1) K9q.1) K10q.1) K11q.1) (g := (mkF m 47 #[.val (.int p0), .val (.int p1), .val (.int p2), .val (.ref b1), .val (.ref b9), .unset, .unset, .unset, .unset, .unset, .unset] [(.ref b11), (.ref b11), (.ref b9)])) rfl (hb hby at_47) (n := 4) (by decide) (by decide) (by decide) (by decide)
  have K12q : Keep h11 h12 [] := (Keep.refl _ []).ext E12
  have K12 : Keep h0 h12 [] := K11.ext E12
  obtain ⟨T13, X13, e13, st13⟩ := getS2 X12 hx hZ hown (host := "") (Or.inl (hw _ (List.mem_of_getElem? (i := 111) rfl))) Via.refl e12 (own_sta_keep S_w_UNKNOWN K12) (g := (mkF m 49 #[.val (.int p0), .val (.int p1), .val (.int p2), .val (.ref b1), .val (.ref b9), .unset, .unset, .unset, .unset, .unset, .unset] [(.ref a12), (.ref b11), (.ref b11), (.ref b9)])) rfl (hb hby at_49)
  obtain ⟨a14, T14, h14, k14, X14, e14, E14, S14, hk14, hZ, hown, st14⟩ := ldcS (s := s) (vm0 := T12.vm) X13 hx hZ hown (hw _ (List.mem_of_getElem? (i := 114) rfl)) wS e13 S12 hk12 (g := (mkF m 52 #[.val (.int p0), .val (.int p1), .val (.int p2), .val (.ref b1), .val (.ref b9), .unset, .unset, .unset, .unset, .unset, .unset] [(.ref w_UNKNOWN), (.ref a12), (.ref b11), (.ref b11), (.ref b9)])) rfl (hb hby at_52) (n := 4) (by decide) (by decide) (by decide) (by decide)
  have K14q : Keep h12 h14 [] := (Keep.refl _ []).ext E14
  have K14 : Keep h0 h14 [] := K12.ext E14
  obtain ⟨_, _, ⟨T15, L15, k15, n15⟩, -, X15, ⟨Lc15, hQ15, l15, y15, z15⟩, st15⟩ := X14.specialBack hx (y := (⟨"com/example/refleash/refleash/heap/Leak$Node", "<init>", "(Ljava/lang/String;Lcom/example/refleash/refleash/heap/Leak$Status;Ljava/lang/String;)V"⟩ : MethodName)) rfl hown (mvT hZ (hw _ (List.mem_of_getElem? (i := 115) rfl))) (mvT hZ (hw _ (List.mem_of_getElem? (i := 116) rfl))) (mvT hZ (hw _ (List.mem_of_getElem? (i := 117) rfl))) (by decide) (backOf (W := 2) (node_init l Z a0 hw [] b11 a12 w_UNKNOWN a14 h14 n0 (Nat.le_trans Z0 K14.1) ((F11_className.keep K12q nin0).keep K14q nin0) ((F11_status.keep K12q nin0).keep K14q nin0) ((F11_reason.keep K12q nin0).keep K14q nin0) ((A11.keep K12q).keep K14q) g_b11) hZ (hw _ (List.mem_of_getElem? (i := 117) rfl)) (hw _ (List.mem_of_getElem? (i := 110) rfl)) (by decide) (by decide)) (g := (mkF m 54 #[.val (.int p0), .val (.int p1), .val (.int p2), .val (.ref b1), .val (.ref b9), .unset, .unset, .unset, .unset, .unset, .unset] [(.ref a14), (.ref w_UNKNOWN), (.ref a12), (.ref b11), (.ref b11), (.ref b9)])) rfl (by rw [hml]; rfl) (Steps.refl _) (a := b11) (argsL := [(.ref a12), (.ref w_UNKNOWN), (.ref a14)]) (rest := [(.ref b11), (.ref b9)]) (lenOf pd__Ljava_lang_String_Lcom_example_refleash_refleash_heap_Leak_Status_Ljava_lang_String__V rfl) rfl (by show 2 * 0 + _ ≤ _; exact Nat.le_of_eq rfl) (hb hby at_54) (fun _ _ => ⟨rfl, e14, (by decide : 11 + 0 ≤ _), (by decide : 42 + 0 ≤ _)⟩)
  dsimp only [Pt.U, Pt.locs, Pt.cells, Pt.slots] at X15 l15 y15 z15 st15 hQ15
  subst l15 y15 z15
  obtain ⟨rfl, N15q, K15q, E15q⟩ := hQ15
  have N15 := Fr.app N10 N15q
  have K15 : Keep h0 T15.heap [] := K14.trans K15q (allS (Or.inr sz0_b11) all0)
  obtain ⟨cq16, kq16, q16a, q16b, q16c⟩ := isOf hZ rfl ((((E10q.keep K11q).keep K12q).keep K14q).keep K15q)
  obtain ⟨_, _, ⟨T16, L16, k16, n16⟩, -, X16, ⟨Lc16, hQ16, l16, y16, z16⟩, st16⟩ := X15.virtualBack hx (y := (⟨"java/util/ArrayList", "add", "(Ljava/lang/Object;)Z"⟩ : MethodName)) (z := (⟨"java/util/ArrayList", "add", "(Ljava/lang/Object;)Z"⟩ : MethodName)) hown (mvT hZ (hw _ (List.mem_of_getElem? (i := 126) rfl))) (mvT hZ (hw _ (List.mem_of_getElem? (i := 127) rfl))) (notFace_of_selects (args := #[]) (mvT hZ (hw _ (List.mem_of_getElem? (i := 129) rfl)))) (mvT hZ (hw _ (List.mem_of_getElem? (i := 129) rfl))) (mvT hZ (hw _ (List.mem_of_getElem? (i := 128) rfl))) (by decide) (backOf (W := 0) (add_1 l Z a0 hw [] b9 b11 (0 : Int32) w_dc k_dc T15.heap n0 (Nat.le_trans Z0 K15.1) ((((F10q_modCount.keep K11q nin0).keep K12q nin0).keep K14q nin0).keep K15q (ninS (Nat.ne_of_lt (Nat.lt_of_lt_of_le E10q.lt sz_b11)) nin0)) ((((F10q_elementData.keep K11q nin0).keep K12q nin0).keep K14q nin0).keep K15q (ninS (Nat.ne_of_lt (Nat.lt_of_lt_of_le E10q.lt sz_b11)) nin0)) ((((F10q_size.keep K11q nin0).keep K12q nin0).keep K14q nin0).keep K15q (ninS (Nat.ne_of_lt (Nat.lt_of_lt_of_le E10q.lt sz_b11)) nin0)) ((((E10q.keep K11q).keep K12q).keep K14q).keep K15q) g_b9 (((((((((((((V_dc.keep K1q nin0).keep K2q nin0).keep K4q nin0).keep K5q (ninS (Nat.ne_of_lt (Nat.lt_of_lt_of_le (V_dc.keep K1q nin0).lt sz_b2)) nin0)).keep K6q nin0).keep K7q (ninS (Nat.ne_of_lt (Nat.lt_of_lt_of_le ((((V_dc.keep K1q nin0).keep K2q nin0).keep K4q nin0).keep K5q (ninS (Nat.ne_of_lt (Nat.lt_of_lt_of_le (V_dc.keep K1q nin0).lt sz_b2)) nin0)).lt sz_b6)) nin0)).keep K8q (ninS (Nat.ne_of_lt (Nat.lt_of_lt_of_le V_dc.lt sz_b1)) nin0)).keep K9q nin0).keep K10q (ninS (Nat.ne_of_lt (Nat.lt_of_lt_of_le (((((((V_dc.keep K1q nin0).keep K2q nin0).keep K4q nin0).keep K5q (ninS (Nat.ne_of_lt (Nat.lt_of_lt_of_le (V_dc.keep K1q nin0).lt sz_b2)) nin0)).keep K6q nin0).keep K7q (ninS (Nat.ne_of_lt (Nat.lt_of_lt_of_le ((((V_dc.keep K1q nin0).keep K2q nin0).keep K4q nin0).keep K5q (ninS (Nat.ne_of_lt (Nat.lt_of_lt_of_le (V_dc.keep K1q nin0).lt sz_b2)) nin0)).lt sz_b6)) nin0)).keep K8q (ninS (Nat.ne_of_lt (Nat.lt_of_lt_of_le V_dc.lt sz_b1)) nin0)).lt sz_b9)) nin0)).keep K11q nin0).keep K12q nin0).keep K14q nin0).keep K15q (ninS (Nat.ne_of_lt (Nat.lt_of_lt_of_le (((((((((V_dc.keep K1q nin0).keep K2q nin0).keep K4q nin0).keep K5q (ninS (Nat.ne_of_lt (Nat.lt_of_lt_of_le (V_dc.keep K1q nin0).lt sz_b2)) nin0)).keep K6q nin0).keep K7q (ninS (Nat.ne_of_lt (Nat.lt_of_lt_of_le ((((V_dc.keep K1q nin0).keep K2q nin0).keep K4q nin0).keep K5q (ninS (Nat.ne_of_lt (Nat.lt_of_lt_of_le (V_dc.keep K1q nin0).lt sz_b2)) nin0)).lt sz_b6)) nin0)).keep K8q (ninS (Nat.ne_of_lt (Nat.lt_of_lt_of_le V_dc.lt sz_b1)) nin0)).keep K9q nin0).keep K10q (ninS (Nat.ne_of_lt (Nat.lt_of_lt_of_le (((((((V_dc.keep K1q nin0).keep K2q nin0).keep K4q nin0).keep K5q (ninS (Nat.ne_of_lt (Nat.lt_of_lt_of_le (V_dc.keep K1q nin0).lt sz_b2)) nin0)).keep K6q nin0).keep K7q (ninS (Nat.ne_of_lt (Nat.lt_of_lt_of_le ((((V_dc.keep K1q nin0).keep K2q nin0).keep K4q nin0).keep K5q (ninS (Nat.ne_of_lt (Nat.lt_of_lt_of_le (V_dc.keep K1q nin0).lt sz_b2)) nin0)).lt sz_b6)) nin0)).keep K8q (ninS (Nat.ne_of_lt (Nat.lt_of_lt_of_le V_dc.lt sz_b1)) nin0)).lt sz_b9)) nin0)).lt sz_b11)) nin0)) (own_sta_keep S_dc K15) (own_obj E15q (hw _ (List.mem_of_getElem? (i := 154) rfl))) (Nat.ne_of_lt (Nat.lt_of_lt_of_le (((((((V_dc.keep K1q nin0).keep K2q nin0).keep K4q nin0).keep K5q (ninS (Nat.ne_of_lt (Nat.lt_of_lt_of_le (V_dc.keep K1q nin0).lt sz_b2)) nin0)).keep K6q nin0).keep K7q (ninS (Nat.ne_of_lt (Nat.lt_of_lt_of_le ((((V_dc.keep K1q nin0).keep K2q nin0).keep K4q nin0).keep K5q (ninS (Nat.ne_of_lt (Nat.lt_of_lt_of_le (V_dc.keep K1q nin0).lt sz_b2)) nin0)).lt sz_b6)) nin0)).keep K8q (ninS (Nat.ne_of_lt (Nat.lt_of_lt_of_le V_dc.lt sz_b1)) nin0)).lt sz_b9))) hZ (hw _ (List.mem_of_getElem? (i := 130) rfl)) (hw _ (List.mem_of_getElem? (i := 42) rfl)) (by decide) (by decide)) q16a q16c (g := (mkF m 57 #[.val (.int p0), .val (.int p1), .val (.int p2), .val (.ref b1), .val (.ref b9), .unset, .unset, .unset, .unset, .unset, .unset] [(.ref b11), (.ref b9)])) rfl (by rw [hml]; rfl) (Steps.refl _) (argsL := [(.ref b11)]) (rest := []) (lenOf pd__Ljava_lang_Object__Z rfl) rfl (by show 2 * 0 + _ ≤ _; exact Nat.le_of_eq rfl) (hb hby at_57) (fun _ _ => ⟨rfl, rfl, (by decide : 11 + 1 ≤ _), (by decide : 42 + 10 ≤ _)⟩)
  dsimp only [Pt.U, Pt.locs, Pt.cells, Pt.slots] at X16 l16 y16 z16 st16 hQ16
  subst l16 y16 z16
  obtain ⟨r16, k16r, rfl, N16q, K16q, sz_r16, E16r, V16q, E16q, F16q_modCount, F16q_elementData, F16q_size⟩ := hQ16
  have sz0_r16 : h0.size ≤ r16 := Nat.le_trans K15.1 sz_r16
  have g_r16 : n0 ≤ r16 := Nat.le_trans Z0 sz0_r16
  have N16 := Fr.app N15 N16q
  have K16 : Keep h0 T16.heap [] := K15.trans K16q (allS (Or.inr sz0_b9) all0)
  obtain ⟨T17, h17, X17, e17, E17, A17, D17, -, st17⟩ := newO X16 hx hZ hown (hw _ (List.mem_of_getElem? (i := 155) rfl)) (hw _ (List.mem_of_getElem? (i := 156) rfl)) (hw _ (List.mem_of_getElem? (i := 157) rfl)) rfl (g := (mkF m 61 #[.val (.int p0), .val (.int p1), .val (.int p2), .val (.ref b1), .val (.ref b9), .unset, .unset, .unset, .unset, .unset, .unset] [])) rfl (hb hby at_61) (by decide) (by decide)
  obtain ⟨b17, gg17⟩ : ∃ z, z = T16.heap.size := ⟨_, rfl⟩
  rw [← gg17] at A17 D17 st17
  have sz_b17 : T16.heap.size ≤ b17 := Nat.le_of_eq gg17.symm
  have sz0_b17 : h0.size ≤ b17 := Nat.le_trans K16.1 sz_b17
  have g_b17 : n0 ≤ b17 := Nat.le_trans Z0 sz0_b17
  have K17q : Keep T16.heap h17 [] := (Keep.refl _ []).ext E17
  have K17 : Keep h0 h17 [] := K16.ext E17
  have F17_signature : Fld Z h17 b17 "com/example/refleash/refleash/heap/Leak" "signature" "Ljava/lang/String;" .null := D17 (Or.inr (hw _ (List.mem_of_getElem? (i := 249) rfl))) (ty := (.object "java/lang/String")) (by decide)
  have F17_retainedBytes : Fld Z h17 b17 "com/example/refleash/refleash/heap/Leak" "retainedBytes" "J" (.long (0 : Int64)) := D17 (Or.inr (hw _ (List.mem_of_getElem? (i := 251) rfl))) (ty := .long) (by decide)
  have F17_trace : Fld Z h17 b17 "com/example/refleash/refleash/heap/Leak" "trace" "Lcom/example/refleash/refleash/heap/Trace;" .null := D17 (Or.inr (hw _ (List.mem_of_getElem? (i := 253) rfl))) (ty := (.object "com/example/refleash/refleash/heap/Trace")) (by decide)
  have F17_nodes : Fld Z h17 b17 "com/example/refleash/refleash/heap/Leak" "nodes" "Ljava/util/List;" .null := D17 (Or.inr (hw _ (List.mem_of_getElem? (i := 255) rfl))) (ty := (.object "java/util/List")) (by decide)
  have F17_firstSuspect : Fld Z h17 b17 "com/example/refleash/refleash/heap/Leak" "firstSuspect" "I" (.int (0 : Int32)) := D17 (Or.inr (hw _ (List.mem_of_getElem? (i := 257) rfl))) (ty := .int) (by decide)
  have F17_endSuspect : Fld Z h17 b17 "com/example/refleash/refleash/heap/Leak" "endSuspect" "I" (.int (0 : Int32)) := D17 (Or.inr (hw _ (List.mem_of_getElem? (i := 259) rfl))) (ty := .int) (by decide)
  have F17_objects : Fld Z h17 b17 "com/example/refleash/refleash/heap/Leak" "objects" "Ljava/util/List;" .null := D17 (Or.inr (hw _ (List.mem_of_getElem? (i := 261) rfl))) (ty := (.object "java/util/List")) (by decide)
  obtain ⟨a18, T18, h18, k18, X18, e18, E18, S18, hk18, hZ, hown, st18⟩ := ldcS (s := s) (vm0 := T14.vm) X17 hx hZ hown (hw _ (List.mem_of_getElem? (i := 158) rfl)) wS e17 S14 (Nat.le_trans (Nat.le_trans (Nat.le_trans hk14 K15q.1) K16q.1) K17q.1) (g := (mkF m 65 #[.val (.int p0), .val (.int p1), .val (.int p2), .val (.ref b1), .val (.ref b9), .unset, .unset, .unset, .unset, .unset, .unset] [(.ref b17), (.ref b17)])) rfl (hb hby at_65) (n := 4) (by decide) (by decide) (by decide) (by decide)
  have K18q : Keep h17 h18 [] := (Keep.refl _ []).ext E18
  have K18 : Keep h0 h18 [] := K17.ext E18
  obtain ⟨T19, h19, X19, e19, E19, A19, D19, -, st19⟩ := newO X18 hx hZ hown (hw _ (List.mem_of_getElem? (i := 40) rfl)) (hw _ (List.mem_of_getElem? (i := 41) rfl)) (hw _ (List.mem_of_getElem? (i := 42) rfl)) e18 (g := (mkF m 73 #[.val (.int p0), .val (.int p1), .val (.int p2), .val (.ref b1), .val (.ref b9), .unset, .unset, .unset, .unset, .unset, .unset] [(.int p1), (.int p0), (.ref b9), (.ref b1), (.long (0 : Int64)), (.ref a18), (.ref b17), (.ref b17)])) rfl (hb hby at_73) (by decide) (by decide)
  obtain ⟨b19, gg19⟩ : ∃ z, z = h18.size := ⟨_, rfl⟩
  rw [← gg19] at A19 D19 st19
  have sz_b19 : h18.size ≤ b19 := Nat.le_of_eq gg19.symm
  have sz0_b19 : h0.size ≤ b19 := Nat.le_trans K18.1 sz_b19
  have g_b19 : n0 ≤ b19 := Nat.le_trans Z0 sz0_b19
  have K19q : Keep h18 h19 [] := (Keep.refl _ []).ext E19
  have K19 : Keep h0 h19 [] := K18.ext E19
  have F19_modCount : Fld Z h19 b19 "java/util/AbstractList" "modCount" "I" (.int (0 : Int32)) := D19 (Or.inl (hw _ (List.mem_of_getElem? (i := 60) rfl))) (ty := .int) (by decide)
  have F19_elementData : Fld Z h19 b19 "java/util/ArrayList" "elementData" "[Ljava/lang/Object;" .null := D19 (Or.inl (hw _ (List.mem_of_getElem? (i := 63) rfl))) (ty := (.array (.object "java/lang/Object"))) (by decide)
  have F19_size : Fld Z h19 b19 "java/util/ArrayList" "size" "I" (.int (0 : Int32)) := D19 (Or.inl (hw _ (List.mem_of_getElem? (i := 93) rfl))) (ty := .int) (by decide)
  obtain ⟨_, _, ⟨T20, L20, k20, n20⟩, -, X20, ⟨Lc20, hQ20, l20, y20, z20⟩, st20⟩ := X19.specialBack hx (y := (⟨"java/util/ArrayList", "<init>", "()V"⟩ : MethodName)) rfl hown (mvT hZ (hw _ (List.mem_of_getElem? (i := 43) rfl))) (mvT hZ (hw _ (List.mem_of_getElem? (i := 44) rfl))) (mvT hZ (hw _ (List.mem_of_getElem? (i := 45) rfl))) (by decide) (backOf (W := 10) (al_init l Z a0 hw [] b19 w_dc h19 n0 (Nat.le_trans Z0 K19.1) F19_modCount F19_elementData F19_size A19 g_b19 (own_sta_keep S_dc K19)) hZ (hw _ (List.mem_of_getElem? (i := 45) rfl)) (hw _ (List.mem_of_getElem? (i := 42) rfl)) (by decide) (by decide)) (g := (mkF m 77 #[.val (.int p0), .val (.int p1), .val (.int p2), .val (.ref b1), .val (.ref b9), .unset, .unset, .unset, .unset, .unset, .unset] [(.ref b19), (.ref b19), (.int p1), (.int p0), (.ref b9), (.ref b1), (.long (0 : Int64)), (.ref a18), (.ref b17), (.ref b17)])) rfl (by rw [hml]; rfl) (Steps.refl _) (a := b19) (argsL := []) (rest := [(.ref b19), (.int p1), (.int p0), (.ref b9), (.ref b1), (.long (0 : Int64)), (.ref a18), (.ref b17), (.ref b17)]) (lenOf pd___V rfl) rfl (by show 2 * 0 + _ ≤ _; exact Nat.le_of_eq rfl) (hb hby at_77) (fun _ _ => ⟨rfl, e19, (by decide : 16 + 0 ≤ _), (by decide : 70 + 0 ≤ _)⟩)
  dsimp only [Pt.U, Pt.locs, Pt.cells, Pt.slots] at X20 l20 y20 z20 st20 hQ20
  subst l20 y20 z20
  obtain ⟨rfl, N20q, K20q, E20q, F20q_modCount, F20q_elementData, F20q_size⟩ := hQ20
  have N20 := Fr.app N16 N20q
  have K20 : Keep h0 T20.heap [] := K19.trans K20q (allS (Or.inr sz0_b19) all0)
  obtain ⟨_, _, ⟨T21, L21, k21, n21⟩, -, X21, ⟨Lc21, hQ21, l21, y21, z21⟩, st21⟩ := X20.specialBack hx (y := (⟨"com/example/refleash/refleash/heap/Leak", "<init>", "(Ljava/lang/String;JLcom/example/refleash/refleash/heap/Trace;Ljava/util/List;IILjava/util/List;)V"⟩ : MethodName)) rfl hown (mvT hZ (hw _ (List.mem_of_getElem? (i := 159) rfl))) (mvT hZ (hw _ (List.mem_of_getElem? (i := 160) rfl))) (mvT hZ (hw _ (List.mem_of_getElem? (i := 161) rfl))) (by decide) (backOf (W := 1) (leak_init l Z a0 hw [] b17 a18 (0 : Int64) b1 b9 p0 p1 b19 r16 b11 m_o w_el w_em w_ee k16r k_ee T20.heap n0 (Nat.le_trans Z0 K20.1) (((F17_signature.keep K18q nin0).keep K19q nin0).keep K20q (ninS (Nat.ne_of_lt (Nat.lt_of_lt_of_le (A17.keep K18q).lt sz_b19)) nin0)) (((F17_retainedBytes.keep K18q nin0).keep K19q nin0).keep K20q (ninS (Nat.ne_of_lt (Nat.lt_of_lt_of_le (A17.keep K18q).lt sz_b19)) nin0)) (((F17_trace.keep K18q nin0).keep K19q nin0).keep K20q (ninS (Nat.ne_of_lt (Nat.lt_of_lt_of_le (A17.keep K18q).lt sz_b19)) nin0)) (((F17_nodes.keep K18q nin0).keep K19q nin0).keep K20q (ninS (Nat.ne_of_lt (Nat.lt_of_lt_of_le (A17.keep K18q).lt sz_b19)) nin0)) (((F17_firstSuspect.keep K18q nin0).keep K19q nin0).keep K20q (ninS (Nat.ne_of_lt (Nat.lt_of_lt_of_le (A17.keep K18q).lt sz_b19)) nin0)) (((F17_endSuspect.keep K18q nin0).keep K19q nin0).keep K20q (ninS (Nat.ne_of_lt (Nat.lt_of_lt_of_le (A17.keep K18q).lt sz_b19)) nin0)) (((F17_objects.keep K18q nin0).keep K19q nin0).keep K20q (ninS (Nat.ne_of_lt (Nat.lt_of_lt_of_le (A17.keep K18q).lt sz_b19)) nin0)) (((A17.keep K18q).keep K19q).keep K20q) g_b17 (((((((((((E8q.keep K9q).keep K10q).keep K11q).keep K12q).keep K14q).keep K15q).keep K16q).keep K17q).keep K18q).keep K19q).keep K20q) (((((((((((F8q.keep K9q nin0).keep K10q (ninS (Nat.ne_of_lt (Nat.lt_of_lt_of_le E8q.lt sz_b9)) nin0)).keep K11q nin0).keep K12q nin0).keep K14q nin0).keep K15q (ninS (Nat.ne_of_lt (Nat.lt_of_lt_of_le ((E8q.keep K9q).keep K10q).lt sz_b11)) nin0)).keep K16q (ninS (Nat.ne_of_lt (Nat.lt_of_lt_of_le E8q.lt sz_b9)) nin0)).keep K17q nin0).keep K18q nin0).keep K19q nin0).keep K20q (ninS (Nat.ne_of_lt (Nat.lt_of_lt_of_le (((((((((E8q.keep K9q).keep K10q).keep K11q).keep K12q).keep K14q).keep K15q).keep K16q).keep K17q).keep K18q).lt sz_b19)) nin0)) ((((E16q.keep K17q).keep K18q).keep K19q).keep K20q) ((((F16q_elementData.keep K17q nin0).keep K18q nin0).keep K19q nin0).keep K20q (ninS (Nat.ne_of_lt (Nat.lt_of_lt_of_le ((E16q.keep K17q).keep K18q).lt sz_b19)) nin0)) ((((F16q_size.keep K17q nin0).keep K18q nin0).keep K19q nin0).keep K20q (ninS (Nat.ne_of_lt (Nat.lt_of_lt_of_le ((E16q.keep K17q).keep K18q).lt sz_b19)) nin0)) ((((E16r.keep K17q).keep K18q).keep K19q).keep K20q) ((((V16q.keep K17q nin0).keep K18q nin0).keep K19q nin0).keep K20q (ninS (Nat.ne_of_lt (Nat.lt_of_lt_of_le ((E16r.keep K17q).keep K18q).lt sz_b19)) nin0)) (own_obj (((((E15q.keep K16q).keep K17q).keep K18q).keep K19q).keep K20q) (hw _ (List.mem_of_getElem? (i := 154) rfl))) E20q F20q_size (own_sta_keep S_el K20) (own_sta_keep S_em K20) ((((((((((((((((((E_el.keep K1q).keep K2q).keep K4q).keep K5q).keep K6q).keep K7q).keep K8q).keep K9q).keep K10q).keep K11q).keep K12q).keep K14q).keep K15q).keep K16q).keep K17q).keep K18q).keep K19q).keep K20q) ((((((((((((((((((F_el.keep K1q nin0).keep K2q nin0).keep K4q nin0).keep K5q (ninS (Nat.ne_of_lt (Nat.lt_of_lt_of_le (E_el.keep K1q).lt sz_b2)) nin0)).keep K6q nin0).keep K7q (ninS (Nat.ne_of_lt (Nat.lt_of_lt_of_le ((((E_el.keep K1q).keep K2q).keep K4q).keep K5q).lt sz_b6)) nin0)).keep K8q (ninS (Nat.ne_of_lt (Nat.lt_of_lt_of_le E_el.lt sz_b1)) nin0)).keep K9q nin0).keep K10q (ninS (Nat.ne_of_lt (Nat.lt_of_lt_of_le (((((((E_el.keep K1q).keep K2q).keep K4q).keep K5q).keep K6q).keep K7q).keep K8q).lt sz_b9)) nin0)).keep K11q nin0).keep K12q nin0).keep K14q nin0).keep K15q (ninS (Nat.ne_of_lt (Nat.lt_of_lt_of_le (((((((((E_el.keep K1q).keep K2q).keep K4q).keep K5q).keep K6q).keep K7q).keep K8q).keep K9q).keep K10q).lt sz_b11)) nin0)).keep K16q (ninS (Nat.ne_of_lt (Nat.lt_of_lt_of_le (((((((E_el.keep K1q).keep K2q).keep K4q).keep K5q).keep K6q).keep K7q).keep K8q).lt sz_b9)) nin0)).keep K17q nin0).keep K18q nin0).keep K19q nin0).keep K20q (ninS (Nat.ne_of_lt (Nat.lt_of_lt_of_le ((((((((((((((((E_el.keep K1q).keep K2q).keep K4q).keep K5q).keep K6q).keep K7q).keep K8q).keep K9q).keep K10q).keep K11q).keep K12q).keep K14q).keep K15q).keep K16q).keep K17q).keep K18q).lt sz_b19)) nin0)) ((((((((((((((((((V_ee.keep K1q nin0).keep K2q nin0).keep K4q nin0).keep K5q (ninS (Nat.ne_of_lt (Nat.lt_of_lt_of_le (V_ee.keep K1q nin0).lt sz_b2)) nin0)).keep K6q nin0).keep K7q (ninS (Nat.ne_of_lt (Nat.lt_of_lt_of_le ((((V_ee.keep K1q nin0).keep K2q nin0).keep K4q nin0).keep K5q (ninS (Nat.ne_of_lt (Nat.lt_of_lt_of_le (V_ee.keep K1q nin0).lt sz_b2)) nin0)).lt sz_b6)) nin0)).keep K8q (ninS (Nat.ne_of_lt (Nat.lt_of_lt_of_le V_ee.lt sz_b1)) nin0)).keep K9q nin0).keep K10q (ninS (Nat.ne_of_lt (Nat.lt_of_lt_of_le (((((((V_ee.keep K1q nin0).keep K2q nin0).keep K4q nin0).keep K5q (ninS (Nat.ne_of_lt (Nat.lt_of_lt_of_le (V_ee.keep K1q nin0).lt sz_b2)) nin0)).keep K6q nin0).keep K7q (ninS (Nat.ne_of_lt (Nat.lt_of_lt_of_le ((((V_ee.keep K1q nin0).keep K2q nin0).keep K4q nin0).keep K5q (ninS (Nat.ne_of_lt (Nat.lt_of_lt_of_le (V_ee.keep K1q nin0).lt sz_b2)) nin0)).lt sz_b6)) nin0)).keep K8q (ninS (Nat.ne_of_lt (Nat.lt_of_lt_of_le V_ee.lt sz_b1)) nin0)).lt sz_b9)) nin0)).keep K11q nin0).keep K12q nin0).keep K14q nin0).keep K15q (ninS (Nat.ne_of_lt (Nat.lt_of_lt_of_le (((((((((V_ee.keep K1q nin0).keep K2q nin0).keep K4q nin0).keep K5q (ninS (Nat.ne_of_lt (Nat.lt_of_lt_of_le (V_ee.keep K1q nin0).lt sz_b2)) nin0)).keep K6q nin0).keep K7q (ninS (Nat.ne_of_lt (Nat.lt_of_lt_of_le ((((V_ee.keep K1q nin0).keep K2q nin0).keep K4q nin0).keep K5q (ninS (Nat.ne_of_lt (Nat.lt_of_lt_of_le (V_ee.keep K1q nin0).lt sz_b2)) nin0)).lt sz_b6)) nin0)).keep K8q (ninS (Nat.ne_of_lt (Nat.lt_of_lt_of_le V_ee.lt sz_b1)) nin0)).keep K9q nin0).keep K10q (ninS (Nat.ne_of_lt (Nat.lt_of_lt_of_le (((((((V_ee.keep K1q nin0).keep K2q nin0).keep K4q nin0).keep K5q (ninS (Nat.ne_of_lt (Nat.lt_of_lt_of_le (V_ee.keep K1q nin0).lt sz_b2)) nin0)).keep K6q nin0).keep K7q (ninS (Nat.ne_of_lt (Nat.lt_of_lt_of_le ((((V_ee.keep K1q nin0).keep K2q nin0).keep K4q nin0).keep K5q (ninS (Nat.ne_of_lt (Nat.lt_of_lt_of_le (V_ee.keep K1q nin0).lt sz_b2)) nin0)).lt sz_b6)) nin0)).keep K8q (ninS (Nat.ne_of_lt (Nat.lt_of_lt_of_le V_ee.lt sz_b1)) nin0)).lt sz_b9)) nin0)).lt sz_b11)) nin0)).keep K16q (ninS (Nat.ne_of_lt (Nat.lt_of_lt_of_le (((((((V_ee.keep K1q nin0).keep K2q nin0).keep K4q nin0).keep K5q (ninS (Nat.ne_of_lt (Nat.lt_of_lt_of_le (V_ee.keep K1q nin0).lt sz_b2)) nin0)).keep K6q nin0).keep K7q (ninS (Nat.ne_of_lt (Nat.lt_of_lt_of_le ((((V_ee.keep K1q nin0).keep K2q nin0).keep K4q nin0).keep K5q (ninS (Nat.ne_of_lt (Nat.lt_of_lt_of_le (V_ee.keep K1q nin0).lt sz_b2)) nin0)).lt sz_b6)) nin0)).keep K8q (ninS (Nat.ne_of_lt (Nat.lt_of_lt_of_le V_ee.lt sz_b1)) nin0)).lt sz_b9)) nin0)).keep K17q nin0).keep K18q nin0).keep K19q nin0).keep K20q (ninS (Nat.ne_of_lt (Nat.lt_of_lt_of_le ((((((((((((((((V_ee.keep K1q nin0).keep K2q nin0).keep K4q nin0).keep K5q (ninS (Nat.ne_of_lt (Nat.lt_of_lt_of_le (V_ee.keep K1q nin0).lt sz_b2)) nin0)).keep K6q nin0).keep K7q (ninS (Nat.ne_of_lt (Nat.lt_of_lt_of_le ((((V_ee.keep K1q nin0).keep K2q nin0).keep K4q nin0).keep K5q (ninS (Nat.ne_of_lt (Nat.lt_of_lt_of_le (V_ee.keep K1q nin0).lt sz_b2)) nin0)).lt sz_b6)) nin0)).keep K8q (ninS (Nat.ne_of_lt (Nat.lt_of_lt_of_le V_ee.lt sz_b1)) nin0)).keep K9q nin0).keep K10q (ninS (Nat.ne_of_lt (Nat.lt_of_lt_of_le (((((((V_ee.keep K1q nin0).keep K2q nin0).keep K4q nin0).keep K5q (ninS (Nat.ne_of_lt (Nat.lt_of_lt_of_le (V_ee.keep K1q nin0).lt sz_b2)) nin0)).keep K6q nin0).keep K7q (ninS (Nat.ne_of_lt (Nat.lt_of_lt_of_le ((((V_ee.keep K1q nin0).keep K2q nin0).keep K4q nin0).keep K5q (ninS (Nat.ne_of_lt (Nat.lt_of_lt_of_le (V_ee.keep K1q nin0).lt sz_b2)) nin0)).lt sz_b6)) nin0)).keep K8q (ninS (Nat.ne_of_lt (Nat.lt_of_lt_of_le V_ee.lt sz_b1)) nin0)).lt sz_b9)) nin0)).keep K11q nin0).keep K12q nin0).keep K14q nin0).keep K15q (ninS (Nat.ne_of_lt (Nat.lt_of_lt_of_le (((((((((V_ee.keep K1q nin0).keep K2q nin0).keep K4q nin0).keep K5q (ninS (Nat.ne_of_lt (Nat.lt_of_lt_of_le (V_ee.keep K1q nin0).lt sz_b2)) nin0)).keep K6q nin0).keep K7q (ninS (Nat.ne_of_lt (Nat.lt_of_lt_of_le ((((V_ee.keep K1q nin0).keep K2q nin0).keep K4q nin0).keep K5q (ninS (Nat.ne_of_lt (Nat.lt_of_lt_of_le (V_ee.keep K1q nin0).lt sz_b2)) nin0)).lt sz_b6)) nin0)).keep K8q (ninS (Nat.ne_of_lt (Nat.lt_of_lt_of_le V_ee.lt sz_b1)) nin0)).keep K9q nin0).keep K10q (ninS (Nat.ne_of_lt (Nat.lt_of_lt_of_le (((((((V_ee.keep K1q nin0).keep K2q nin0).keep K4q nin0).keep K5q (ninS (Nat.ne_of_lt (Nat.lt_of_lt_of_le (V_ee.keep K1q nin0).lt sz_b2)) nin0)).keep K6q nin0).keep K7q (ninS (Nat.ne_of_lt (Nat.lt_of_lt_of_le ((((V_ee.keep K1q nin0).keep K2q nin0).keep K4q nin0).keep K5q (ninS (Nat.ne_of_lt (Nat.lt_of_lt_of_le (V_ee.keep K1q nin0).lt sz_b2)) nin0)).lt sz_b6)) nin0)).keep K8q (ninS (Nat.ne_of_lt (Nat.lt_of_lt_of_le V_ee.lt sz_b1)) nin0)).lt sz_b9)) nin0)).lt sz_b11)) nin0)).keep K16q (ninS (Nat.ne_of_lt (Nat.lt_of_lt_of_le (((((((V_ee.keep K1q nin0).keep K2q nin0).keep K4q nin0).keep K5q (ninS (Nat.ne_of_lt (Nat.lt_of_lt_of_le (V_ee.keep K1q nin0).lt sz_b2)) nin0)).keep K6q nin0).keep K7q (ninS (Nat.ne_of_lt (Nat.lt_of_lt_of_le ((((V_ee.keep K1q nin0).keep K2q nin0).keep K4q nin0).keep K5q (ninS (Nat.ne_of_lt (Nat.lt_of_lt_of_le (V_ee.keep K1q nin0).lt sz_b2)) nin0)).lt sz_b6)) nin0)).keep K8q (ninS (Nat.ne_of_lt (Nat.lt_of_lt_of_le V_ee.lt sz_b1)) nin0)).lt sz_b9)) nin0)).keep K17q nin0).keep K18q nin0).lt sz_b19)) nin0)) M_o) hZ (hw _ (List.mem_of_getElem? (i := 161) rfl)) (hw _ (List.mem_of_getElem? (i := 157) rfl)) (by decide) (by decide)) (g := (mkF m 80 #[.val (.int p0), .val (.int p1), .val (.int p2), .val (.ref b1), .val (.ref b9), .unset, .unset, .unset, .unset, .unset, .unset] [(.ref b19), (.int p1), (.int p0), (.ref b9), (.ref b1), (.long (0 : Int64)), (.ref a18), (.ref b17), (.ref b17)])) rfl (by rw [hml]; rfl) (Steps.refl _) (a := b17) (argsL := [(.ref a18), (.long (0 : Int64)), (.ref b1), (.ref b9), (.int p0), (.int p1), (.ref b19)]) (rest := [(.ref b17)]) (lenOf pd__Ljava_lang_String_JLcom_example_refleash_refleash_heap_Trace_Ljava_util_List_IILjava_util_List__V rfl) rfl (by show 2 * 0 + _ ≤ _; exact Nat.le_of_eq rfl) (hb hby at_80) (fun _ _ => ⟨rfl, rfl, (by decide : 16 + 2 ≤ _), (by decide : 70 + 3 ≤ _)⟩)
  dsimp only [Pt.U, Pt.locs, Pt.cells, Pt.slots] at X21 l21 y21 z21 st21 hQ21
  subst l21 y21 z21
  obtain ⟨rfl, N21q, K21q, E21q, F21qf, F21qe⟩ := hQ21
  have N21 := Fr.app N20 N21q
  have K21 : Keep h0 T21.heap [] := K20.trans K21q (allS (Or.inr sz0_b17) all0)
  obtain ⟨cq22, kq22, q22a, q22b, q22c⟩ := isOf hZ rfl E21q
  obtain ⟨_, _, ⟨T22, L22, k22, n22⟩, -, X22, ⟨Lc22, hQ22, l22, y22, z22⟩, st22⟩ := X21.virtualBack hx (y := (⟨"com/example/refleash/refleash/heap/Leak", "isSuspect", "(I)Z"⟩ : MethodName)) (z := (⟨"com/example/refleash/refleash/heap/Leak", "isSuspect", "(I)Z"⟩ : MethodName)) hown (mvT hZ (hw _ (List.mem_of_getElem? (i := 262) rfl))) (mvT hZ (hw _ (List.mem_of_getElem? (i := 263) rfl))) (notFace_of_selects (args := #[]) (mvT hZ (hw _ (List.mem_of_getElem? (i := 265) rfl)))) (mvT hZ (hw _ (List.mem_of_getElem? (i := 265) rfl))) (mvT hZ (hw _ (List.mem_of_getElem? (i := 264) rfl))) (by decide) (backOf (W := 0) (susp_0 l Z a0 hw [] b17 p2 p0 p1 T21.heap n0 (Nat.le_trans Z0 K21.1) F21qf F21qe (Or.inl hA)) hZ (hw _ (List.mem_of_getElem? (i := 266) rfl)) (hw _ (List.mem_of_getElem? (i := 157) rfl)) (by decide) (by decide)) q22a q22c (g := (mkF m 124 #[.val (.int p0), .val (.int p1), .val (.int p2), .val (.ref b1), .val (.ref b9), .val (.ref b17), .val (.long ((p2.toInt64) - (p0.toInt64))), .second, .val (.long ((p1.toInt64) - (p0.toInt64))), .second, .val (.int (0 : Int32))] [(.int p2), (.ref b17)])) rfl (by rw [hml]; rfl) (Steps.refl _) (argsL := [(.int p2)]) (rest := []) (lenOf pd__I_Z rfl) rfl (by show 2 * 0 + _ ≤ _; exact Nat.le_of_eq rfl) (hb hby at_124) (fun _ _ => ⟨rfl, rfl, (by decide : 18 + 0 ≤ _), (by decide : 73 + 0 ≤ _)⟩)
  dsimp only [Pt.U, Pt.locs, Pt.cells, Pt.slots] at X22 l22 y22 z22 st22 hQ22
  subst l22 y22 z22
  obtain ⟨rfl, N22q, e22⟩ := hQ22
  have N22 := Fr.app N21 N22q
  obtain ⟨cq23, kq23, q23a, q23b, q23c⟩ := isOf hZ e22 E21q
  obtain ⟨_, _, ⟨T23, L23, k23, n23⟩, -, X23, ⟨Lc23, hQ23, l23, y23, z23⟩, st23⟩ := X22.virtualBack hx (y := (⟨"com/example/refleash/refleash/heap/Leak", "isSuspect", "(I)Z"⟩ : MethodName)) (z := (⟨"com/example/refleash/refleash/heap/Leak", "isSuspect", "(I)Z"⟩ : MethodName)) hown (mvT hZ (hw _ (List.mem_of_getElem? (i := 262) rfl))) (mvT hZ (hw _ (List.mem_of_getElem? (i := 263) rfl))) (notFace_of_selects (args := #[]) (mvT hZ (hw _ (List.mem_of_getElem? (i := 265) rfl)))) (mvT hZ (hw _ (List.mem_of_getElem? (i := 265) rfl))) (mvT hZ (hw _ (List.mem_of_getElem? (i := 264) rfl))) (by decide) (backOf (W := 0) (susp_0 l Z a0 hw [] b17 p1 p0 p1 T21.heap n0 (Nat.le_trans Z0 K21.1) F21qf F21qe (Or.inr (own_irr p1))) hZ (hw _ (List.mem_of_getElem? (i := 266) rfl)) (hw _ (List.mem_of_getElem? (i := 157) rfl)) (by decide) (by decide)) q23a q23c (g := (mkF m 135 #[.val (.int p0), .val (.int p1), .val (.int p2), .val (.ref b1), .val (.ref b9), .val (.ref b17), .val (.long ((p2.toInt64) - (p0.toInt64))), .second, .val (.long ((p1.toInt64) - (p0.toInt64))), .second, .val (.int (0 : Int32))] [(.int p1), (.ref b17)])) rfl (by rw [hml]; rfl) (Steps.refl _) (argsL := [(.int p1)]) (rest := []) (lenOf pd__I_Z rfl) rfl (by show 2 * 0 + _ ≤ _; exact Nat.le_of_eq rfl) (hb hby at_135) (fun _ _ => ⟨rfl, e22, (by decide : 18 + 0 ≤ _), (by decide : 73 + 0 ≤ _)⟩)
  dsimp only [Pt.U, Pt.locs, Pt.cells, Pt.slots] at X23 l23 y23 z23 st23 hQ23
  subst l23 y23 z23
  obtain ⟨rfl, N23q, e23⟩ := hQ23
  have N23 := Fr.app N22 N23q
  obtain ⟨cq24, kq24, q24a, q24b, q24c⟩ := isOf hZ e23 E21q
  obtain ⟨_, _, ⟨T24, L24, k24, n24⟩, -, X24, ⟨Lc24, hQ24, l24, y24, z24⟩, st24⟩ := X23.virtualBack hx (y := (⟨"com/example/refleash/refleash/heap/Leak", "isSuspect", "(I)Z"⟩ : MethodName)) (z := (⟨"com/example/refleash/refleash/heap/Leak", "isSuspect", "(I)Z"⟩ : MethodName)) hown (mvT hZ (hw _ (List.mem_of_getElem? (i := 262) rfl))) (mvT hZ (hw _ (List.mem_of_getElem? (i := 263) rfl))) (notFace_of_selects (args := #[]) (mvT hZ (hw _ (List.mem_of_getElem? (i := 265) rfl)))) (mvT hZ (hw _ (List.mem_of_getElem? (i := 265) rfl))) (mvT hZ (hw _ (List.mem_of_getElem? (i := 264) rfl))) (by decide) (backOf (W := 0) (susp_0 l Z a0 hw [] b17 p0 p0 p1 T21.heap n0 (Nat.le_trans Z0 K21.1) F21qf F21qe (Or.inr hD)) hZ (hw _ (List.mem_of_getElem? (i := 266) rfl)) (hw _ (List.mem_of_getElem? (i := 157) rfl)) (by decide) (by decide)) q24a q24c (g := (mkF m 144 #[.val (.int p0), .val (.int p1), .val (.int p2), .val (.ref b1), .val (.ref b9), .val (.ref b17), .val (.long ((p2.toInt64) - (p0.toInt64))), .second, .val (.long ((p1.toInt64) - (p0.toInt64))), .second, .val (.int (0 : Int32))] [(.int p0), (.ref b17)])) rfl (by rw [hml]; rfl) (Steps.refl _) (argsL := [(.int p0)]) (rest := []) (lenOf pd__I_Z rfl) rfl (by show 2 * 0 + _ ≤ _; exact Nat.le_of_eq rfl) (hb hby at_144) (fun _ _ => ⟨rfl, e23, (by decide : 18 + 0 ≤ _), (by decide : 73 + 0 ≤ _)⟩)
  dsimp only [Pt.U, Pt.locs, Pt.cells, Pt.slots] at X24 l24 y24 z24 st24 hQ24
  subst l24 y24 z24
  obtain ⟨rfl, N24q, e24⟩ := hQ24
  have N24 := Fr.app N23 N24q
  obtain ⟨fs, hr, hrun, hended, hEnd⟩ := leaveW X24 S18 (by rw [e24]; exact (Nat.le_trans (Nat.le_trans (Nat.le_trans hk18 K19q.1) K20q.1) K21q.1)) (v := some (.int (1 : Int32))) (fun h => by rw [Bd.returns] at h; cases h) Bd.notSynchronized
  refine ⟨_, _, pre0 _ ?_, hrun, hended, _, _, rfl, ?_, hEnd.1, hEnd.2.1, hEnd.2.2.1, hEnd.2.2.2.mono (by decide) (by decide)⟩
  · show Steps p.tables e below (s₁.setTop (mkF m 0 #[.val (.int p0), .val (.int p1), .val (.int p2), .unset, .unset, .unset, .unset, .unset, .unset, .unset, .unset] [])) _
    refine st1 _ ?_
    show Steps p.tables e below (T1.setTop (mkF m 3 #[.val (.int p0), .val (.int p1), .val (.int p2), .unset, .unset, .unset, .unset, .unset, .unset, .unset, .unset] [(.ref b1)])) _
    refine XS.dup X1.here hx rfl (hb hby at_3) rfl rfl ?_
    show Steps p.tables e below (T1.setTop (mkF m 4 #[.val (.int p0), .val (.int p1), .val (.int p2), .unset, .unset, .unset, .unset, .unset, .unset, .unset, .unset] [(.ref b1), (.ref b1)])) _
    refine XS.lconst X1.here hx rfl (hb hby at_4) ?_
    show Steps p.tables e below (T1.setTop (mkF m 5 #[.val (.int p0), .val (.int p1), .val (.int p2), .unset, .unset, .unset, .unset, .unset, .unset, .unset, .unset] [(.long (0 : Int64)), (.ref b1), (.ref b1)])) _
    refine st2 _ ?_
    show Steps p.tables e below (T2.setTop (mkF m 8 #[.val (.int p0), .val (.int p1), .val (.int p2), .unset, .unset, .unset, .unset, .unset, .unset, .unset, .unset] [(.ref b2), (.long (0 : Int64)), (.ref b1), (.ref b1)])) _
    refine XS.dup X2.here hx rfl (hb hby at_8) rfl rfl ?_
    show Steps p.tables e below (T2.setTop (mkF m 9 #[.val (.int p0), .val (.int p1), .val (.int p2), .unset, .unset, .unset, .unset, .unset, .unset, .unset, .unset] [(.ref b2), (.ref b2), (.long (0 : Int64)), (.ref b1), (.ref b1)])) _
    refine st3 _ ?_
    show Steps p.tables e below (T3.setTop (mkF m 12 #[.val (.int p0), .val (.int p1), .val (.int p2), .unset, .unset, .unset, .unset, .unset, .unset, .unset, .unset] [(.ref w_CLASS), (.ref b2), (.ref b2), (.long (0 : Int64)), (.ref b1), (.ref b1)])) _
    refine st4 _ ?_
    show Steps p.tables e below (T4.setTop (mkF m 14 #[.val (.int p0), .val (.int p1), .val (.int p2), .unset, .unset, .unset, .unset, .unset, .unset, .unset, .unset] [(.ref a4), (.ref w_CLASS), (.ref b2), (.ref b2), (.long (0 : Int64)), (.ref b1), (.ref b1)])) _
    refine XS.aconstNull X4.here hx rfl (hb hby at_14) ?_
    show Steps p.tables e below (T4.setTop (mkF m 15 #[.val (.int p0), .val (.int p1), .val (.int p2), .unset, .unset, .unset, .unset, .unset, .unset, .unset, .unset] [.null, (.ref a4), (.ref w_CLASS), (.ref b2), (.ref b2), (.long (0 : Int64)), (.ref b1), (.ref b1)])) _
    refine XS.aconstNull X4.here hx rfl (hb hby at_15) ?_
    show Steps p.tables e below (T4.setTop (mkF m 16 #[.val (.int p0), .val (.int p1), .val (.int p2), .unset, .unset, .unset, .unset, .unset, .unset, .unset, .unset] [.null, .null, (.ref a4), (.ref w_CLASS), (.ref b2), (.ref b2), (.long (0 : Int64)), (.ref b1), (.ref b1)])) _
    refine st5.trans ?_
    show Steps p.tables e below (T5.setTop (mkF m 19 #[.val (.int p0), .val (.int p1), .val (.int p2), .unset, .unset, .unset, .unset, .unset, .unset, .unset, .unset] [(.ref b2), (.long (0 : Int64)), (.ref b1), (.ref b1)])) _
    refine st6 _ ?_
    show Steps p.tables e below (T6.setTop (mkF m 22 #[.val (.int p0), .val (.int p1), .val (.int p2), .unset, .unset, .unset, .unset, .unset, .unset, .unset, .unset] [(.ref b6), (.ref b2), (.long (0 : Int64)), (.ref b1), (.ref b1)])) _
    refine XS.dup X6.here hx rfl (hb hby at_22) rfl rfl ?_
    show Steps p.tables e below (T6.setTop (mkF m 23 #[.val (.int p0), .val (.int p1), .val (.int p2), .unset, .unset, .unset, .unset, .unset, .unset, .unset, .unset] [(.ref b6), (.ref b6), (.ref b2), (.long (0 : Int64)), (.ref b1), (.ref b1)])) _
    refine st7.trans ?_
    show Steps p.tables e below (T7.setTop (mkF m 26 #[.val (.int p0), .val (.int p1), .val (.int p2), .unset, .unset, .unset, .unset, .unset, .unset, .unset, .unset] [(.ref b6), (.ref b2), (.long (0 : Int64)), (.ref b1), (.ref b1)])) _
    refine XS.lconst X7.here hx rfl (hb hby at_26) ?_
    show Steps p.tables e below (T7.setTop (mkF m 27 #[.val (.int p0), .val (.int p1), .val (.int p2), .unset, .unset, .unset, .unset, .unset, .unset, .unset, .unset] [(.long (0 : Int64)), (.ref b6), (.ref b2), (.long (0 : Int64)), (.ref b1), (.ref b1)])) _
    refine XS.lconst X7.here hx rfl (hb hby at_27) ?_
    show Steps p.tables e below (T7.setTop (mkF m 28 #[.val (.int p0), .val (.int p1), .val (.int p2), .unset, .unset, .unset, .unset, .unset, .unset, .unset, .unset] [(.long (0 : Int64)), (.long (0 : Int64)), (.ref b6), (.ref b2), (.long (0 : Int64)), (.ref b1), (.ref b1)])) _
    refine st8.trans ?_
    show Steps p.tables e below (T8.setTop (mkF m 31 #[.val (.int p0), .val (.int p1), .val (.int p2), .unset, .unset, .unset, .unset, .unset, .unset, .unset, .unset] [(.ref b1)])) _
    refine XS.astoreN X8.here hx rfl (hb hby at_31) rfl rfl (l' := #[.val (.int p0), .val (.int p1), .val (.int p2), .val (.ref b1), .unset, .unset, .unset, .unset, .unset, .unset, .unset]) rfl ?_
    show Steps p.tables e below (T8.setTop (mkF m 32 #[.val (.int p0), .val (.int p1), .val (.int p2), .val (.ref b1), .unset, .unset, .unset, .unset, .unset, .unset, .unset] [])) _
    refine st9 _ ?_
    show Steps p.tables e below (T9.setTop (mkF m 35 #[.val (.int p0), .val (.int p1), .val (.int p2), .val (.ref b1), .unset, .unset, .unset, .unset, .unset, .unset, .unset] [(.ref b9)])) _
    refine XS.dup X9.here hx rfl (hb hby at_35) rfl rfl ?_
    show Steps p.tables e below (T9.setTop (mkF m 36 #[.val (.int p0), .val (.int p1), .val (.int p2), .val (.ref b1), .unset, .unset, .unset, .unset, .unset, .unset, .unset] [(.ref b9), (.ref b9)])) _
    refine st10.trans ?_
    show Steps p.tables e below (T10.setTop (mkF m 39 #[.val (.int p0), .val (.int p1), .val (.int p2), .val (.ref b1), .unset, .unset, .unset, .unset, .unset, .unset, .unset] [(.ref b9)])) _
    refine XS.astore X10.here hx rfl (hb hby at_39) rfl rfl (l' := #[.val (.int p0), .val (.int p1), .val (.int p2), .val (.ref b1), .val (.ref b9), .unset, .unset, .unset, .unset, .unset, .unset]) rfl ?_
    show Steps p.tables e below (T10.setTop (mkF m 41 #[.val (.int p0), .val (.int p1), .val (.int p2), .val (.ref b1), .val (.ref b9), .unset, .unset, .unset, .unset, .unset, .unset] [])) _
    refine XS.aload X10.here hx rfl (hb hby at_41) rfl rfl ?_
    show Steps p.tables e below (T10.setTop (mkF m 43 #[.val (.int p0), .val (.int p1), .val (.int p2), .val (.ref b1), .val (.ref b9), .unset, .unset, .unset, .unset, .unset, .unset] [(.ref b9)])) _
    refine st11 _ ?_
    show Steps p.tables e below (T11.setTop (mkF m 46 #[.val (.int p0), .val (.int p1), .val (.int p2), .val (.ref b1), .val (.ref b9), .unset, .unset, .unset, .unset, .unset, .unset] [(.ref b11), (.ref b9)])) _
    refine XS.dup X11.here hx rfl (hb hby at_46) rfl rfl ?_
    show Steps p.tables e below (T11.setTop (mkF m 47 #[.val (.int p0), .val (.int p1), .val (.int p2), .val (.ref b1), .val (.ref b9), .unset, .unset, .unset, .unset, .unset, .unset] [(.ref b11), (.ref b11), (.ref b9)])) _
    refine st12 _ ?_
    show Steps p.tables e below (T12.setTop (mkF m 49 #[.val (.int p0), .val (.int p1), .val (.int p2), .val (.ref b1), .val (.ref b9), .unset, .unset, .unset, .unset, .unset, .unset] [(.ref a12), (.ref b11), (.ref b11), (.ref b9)])) _
    refine st13 _ ?_
    show Steps p.tables e below (T13.setTop (mkF m 52 #[.val (.int p0), .val (.int p1), .val (.int p2), .val (.ref b1), .val (.ref b9), .unset, .unset, .unset, .unset, .unset, .unset] [(.ref w_UNKNOWN), (.ref a12), (.ref b11), (.ref b11), (.ref b9)])) _
    refine st14 _ ?_
    show Steps p.tables e below (T14.setTop (mkF m 54 #[.val (.int p0), .val (.int p1), .val (.int p2), .val (.ref b1), .val (.ref b9), .unset, .unset, .unset, .unset, .unset, .unset] [(.ref a14), (.ref w_UNKNOWN), (.ref a12), (.ref b11), (.ref b11), (.ref b9)])) _
    refine st15.trans ?_
    show Steps p.tables e below (T15.setTop (mkF m 57 #[.val (.int p0), .val (.int p1), .val (.int p2), .val (.ref b1), .val (.ref b9), .unset, .unset, .unset, .unset, .unset, .unset] [(.ref b11), (.ref b9)])) _
    refine st16.trans ?_
    show Steps p.tables e below (T16.setTop (mkF m 60 #[.val (.int p0), .val (.int p1), .val (.int p2), .val (.ref b1), .val (.ref b9), .unset, .unset, .unset, .unset, .unset, .unset] [(.int (1 : Int32))])) _
    refine XS.pop X16.here hx rfl (hb hby at_60) rfl rfl ?_
    show Steps p.tables e below (T16.setTop (mkF m 61 #[.val (.int p0), .val (.int p1), .val (.int p2), .val (.ref b1), .val (.ref b9), .unset, .unset, .unset, .unset, .unset, .unset] [])) _
    refine st17 _ ?_
    show Steps p.tables e below (T17.setTop (mkF m 64 #[.val (.int p0), .val (.int p1), .val (.int p2), .val (.ref b1), .val (.ref b9), .unset, .unset, .unset, .unset, .unset, .unset] [(.ref b17)])) _
    refine XS.dup X17.here hx rfl (hb hby at_64) rfl rfl ?_
    show Steps p.tables e below (T17.setTop (mkF m 65 #[.val (.int p0), .val (.int p1), .val (.int p2), .val (.ref b1), .val (.ref b9), .unset, .unset, .unset, .unset, .unset, .unset] [(.ref b17), (.ref b17)])) _
    refine st18 _ ?_
    show Steps p.tables e below (T18.setTop (mkF m 67 #[.val (.int p0), .val (.int p1), .val (.int p2), .val (.ref b1), .val (.ref b9), .unset, .unset, .unset, .unset, .unset, .unset] [(.ref a18), (.ref b17), (.ref b17)])) _
    refine XS.lconst X18.here hx rfl (hb hby at_67) ?_
    show Steps p.tables e below (T18.setTop (mkF m 68 #[.val (.int p0), .val (.int p1), .val (.int p2), .val (.ref b1), .val (.ref b9), .unset, .unset, .unset, .unset, .unset, .unset] [(.long (0 : Int64)), (.ref a18), (.ref b17), (.ref b17)])) _
    refine XS.aloadN X18.here hx rfl (hb hby at_68) rfl rfl ?_
    show Steps p.tables e below (T18.setTop (mkF m 69 #[.val (.int p0), .val (.int p1), .val (.int p2), .val (.ref b1), .val (.ref b9), .unset, .unset, .unset, .unset, .unset, .unset] [(.ref b1), (.long (0 : Int64)), (.ref a18), (.ref b17), (.ref b17)])) _
    refine XS.aload X18.here hx rfl (hb hby at_69) rfl rfl ?_
    show Steps p.tables e below (T18.setTop (mkF m 71 #[.val (.int p0), .val (.int p1), .val (.int p2), .val (.ref b1), .val (.ref b9), .unset, .unset, .unset, .unset, .unset, .unset] [(.ref b9), (.ref b1), (.long (0 : Int64)), (.ref a18), (.ref b17), (.ref b17)])) _
    refine XS.iloadN X18.here hx rfl (hb hby at_71) rfl ?_
    show Steps p.tables e below (T18.setTop (mkF m 72 #[.val (.int p0), .val (.int p1), .val (.int p2), .val (.ref b1), .val (.ref b9), .unset, .unset, .unset, .unset, .unset, .unset] [(.int p0), (.ref b9), (.ref b1), (.long (0 : Int64)), (.ref a18), (.ref b17), (.ref b17)])) _
    refine XS.iloadN X18.here hx rfl (hb hby at_72) rfl ?_
    show Steps p.tables e below (T18.setTop (mkF m 73 #[.val (.int p0), .val (.int p1), .val (.int p2), .val (.ref b1), .val (.ref b9), .unset, .unset, .unset, .unset, .unset, .unset] [(.int p1), (.int p0), (.ref b9), (.ref b1), (.long (0 : Int64)), (.ref a18), (.ref b17), (.ref b17)])) _
    refine st19 _ ?_
    show Steps p.tables e below (T19.setTop (mkF m 76 #[.val (.int p0), .val (.int p1), .val (.int p2), .val (.ref b1), .val (.ref b9), .unset, .unset, .unset, .unset, .unset, .unset] [(.ref b19), (.int p1), (.int p0), (.ref b9), (.ref b1), (.long (0 : Int64)), (.ref a18), (.ref b17), (.ref b17)])) _
    refine XS.dup X19.here hx rfl (hb hby at_76) rfl rfl ?_
    show Steps p.tables e below (T19.setTop (mkF m 77 #[.val (.int p0), .val (.int p1), .val (.int p2), .val (.ref b1), .val (.ref b9), .unset, .unset, .unset, .unset, .unset, .unset] [(.ref b19), (.ref b19), (.int p1), (.int p0), (.ref b9), (.ref b1), (.long (0 : Int64)), (.ref a18), (.ref b17), (.ref b17)])) _
    refine st20.trans ?_
    show Steps p.tables e below (T20.setTop (mkF m 80 #[.val (.int p0), .val (.int p1), .val (.int p2), .val (.ref b1), .val (.ref b9), .unset, .unset, .unset, .unset, .unset, .unset] [(.ref b19), (.int p1), (.int p0), (.ref b9), (.ref b1), (.long (0 : Int64)), (.ref a18), (.ref b17), (.ref b17)])) _
    refine st21.trans ?_
    show Steps p.tables e below (T21.setTop (mkF m 83 #[.val (.int p0), .val (.int p1), .val (.int p2), .val (.ref b1), .val (.ref b9), .unset, .unset, .unset, .unset, .unset, .unset] [(.ref b17)])) _
    refine XS.astore X21.here hx rfl (hb hby at_83) rfl rfl (l' := #[.val (.int p0), .val (.int p1), .val (.int p2), .val (.ref b1), .val (.ref b9), .val (.ref b17), .unset, .unset, .unset, .unset, .unset]) rfl ?_
    show Steps p.tables e below (T21.setTop (mkF m 85 #[.val (.int p0), .val (.int p1), .val (.int p2), .val (.ref b1), .val (.ref b9), .val (.ref b17), .unset, .unset, .unset, .unset, .unset] [])) _
    refine XS.iloadN X21.here hx rfl (hb hby at_85) rfl ?_
    show Steps p.tables e below (T21.setTop (mkF m 86 #[.val (.int p0), .val (.int p1), .val (.int p2), .val (.ref b1), .val (.ref b9), .val (.ref b17), .unset, .unset, .unset, .unset, .unset] [(.int p2)])) _
    refine XS.i2l X21.here hx rfl (hb hby at_86) rfl ?_
    show Steps p.tables e below (T21.setTop (mkF m 87 #[.val (.int p0), .val (.int p1), .val (.int p2), .val (.ref b1), .val (.ref b9), .val (.ref b17), .unset, .unset, .unset, .unset, .unset] [(.long (p2.toInt64))])) _
    refine XS.iloadN X21.here hx rfl (hb hby at_87) rfl ?_
    show Steps p.tables e below (T21.setTop (mkF m 88 #[.val (.int p0), .val (.int p1), .val (.int p2), .val (.ref b1), .val (.ref b9), .val (.ref b17), .unset, .unset, .unset, .unset, .unset] [(.int p0), (.long (p2.toInt64))])) _
    refine XS.i2l X21.here hx rfl (hb hby at_88) rfl ?_
    show Steps p.tables e below (T21.setTop (mkF m 89 #[.val (.int p0), .val (.int p1), .val (.int p2), .val (.ref b1), .val (.ref b9), .val (.ref b17), .unset, .unset, .unset, .unset, .unset] [(.long (p0.toInt64)), (.long (p2.toInt64))])) _
    refine XS.lsub X21.here hx rfl (hb hby at_89) rfl ?_
    show Steps p.tables e below (T21.setTop (mkF m 90 #[.val (.int p0), .val (.int p1), .val (.int p2), .val (.ref b1), .val (.ref b9), .val (.ref b17), .unset, .unset, .unset, .unset, .unset] [(.long ((p2.toInt64) - (p0.toInt64)))])) _
    refine XS.lstore X21.here hx rfl (hb hby at_90) rfl (l' := #[.val (.int p0), .val (.int p1), .val (.int p2), .val (.ref b1), .val (.ref b9), .val (.ref b17), .val (.long ((p2.toInt64) - (p0.toInt64))), .second, .unset, .unset, .unset]) rfl ?_
    show Steps p.tables e below (T21.setTop (mkF m 92 #[.val (.int p0), .val (.int p1), .val (.int p2), .val (.ref b1), .val (.ref b9), .val (.ref b17), .val (.long ((p2.toInt64) - (p0.toInt64))), .second, .unset, .unset, .unset] [])) _
    refine XS.iloadN X21.here hx rfl (hb hby at_92) rfl ?_
    show Steps p.tables e below (T21.setTop (mkF m 93 #[.val (.int p0), .val (.int p1), .val (.int p2), .val (.ref b1), .val (.ref b9), .val (.ref b17), .val (.long ((p2.toInt64) - (p0.toInt64))), .second, .unset, .unset, .unset] [(.int p1)])) _
    refine XS.i2l X21.here hx rfl (hb hby at_93) rfl ?_
    show Steps p.tables e below (T21.setTop (mkF m 94 #[.val (.int p0), .val (.int p1), .val (.int p2), .val (.ref b1), .val (.ref b9), .val (.ref b17), .val (.long ((p2.toInt64) - (p0.toInt64))), .second, .unset, .unset, .unset] [(.long (p1.toInt64))])) _
    refine XS.iloadN X21.here hx rfl (hb hby at_94) rfl ?_
    show Steps p.tables e below (T21.setTop (mkF m 95 #[.val (.int p0), .val (.int p1), .val (.int p2), .val (.ref b1), .val (.ref b9), .val (.ref b17), .val (.long ((p2.toInt64) - (p0.toInt64))), .second, .unset, .unset, .unset] [(.int p0), (.long (p1.toInt64))])) _
    refine XS.i2l X21.here hx rfl (hb hby at_95) rfl ?_
    show Steps p.tables e below (T21.setTop (mkF m 96 #[.val (.int p0), .val (.int p1), .val (.int p2), .val (.ref b1), .val (.ref b9), .val (.ref b17), .val (.long ((p2.toInt64) - (p0.toInt64))), .second, .unset, .unset, .unset] [(.long (p0.toInt64)), (.long (p1.toInt64))])) _
    refine XS.lsub X21.here hx rfl (hb hby at_96) rfl ?_
    show Steps p.tables e below (T21.setTop (mkF m 97 #[.val (.int p0), .val (.int p1), .val (.int p2), .val (.ref b1), .val (.ref b9), .val (.ref b17), .val (.long ((p2.toInt64) - (p0.toInt64))), .second, .unset, .unset, .unset] [(.long ((p1.toInt64) - (p0.toInt64)))])) _
    refine XS.lstore X21.here hx rfl (hb hby at_97) rfl (l' := #[.val (.int p0), .val (.int p1), .val (.int p2), .val (.ref b1), .val (.ref b9), .val (.ref b17), .val (.long ((p2.toInt64) - (p0.toInt64))), .second, .val (.long ((p1.toInt64) - (p0.toInt64))), .second, .unset]) rfl ?_
    show Steps p.tables e below (T21.setTop (mkF m 99 #[.val (.int p0), .val (.int p1), .val (.int p2), .val (.ref b1), .val (.ref b9), .val (.ref b17), .val (.long ((p2.toInt64) - (p0.toInt64))), .second, .val (.long ((p1.toInt64) - (p0.toInt64))), .second, .unset] [])) _
    refine XS.lload X21.here hx rfl (hb hby at_99) rfl ?_
    show Steps p.tables e below (T21.setTop (mkF m 101 #[.val (.int p0), .val (.int p1), .val (.int p2), .val (.ref b1), .val (.ref b9), .val (.ref b17), .val (.long ((p2.toInt64) - (p0.toInt64))), .second, .val (.long ((p1.toInt64) - (p0.toInt64))), .second, .unset] [(.long ((p2.toInt64) - (p0.toInt64)))])) _
    refine XS.lconst X21.here hx rfl (hb hby at_101) ?_
    show Steps p.tables e below (T21.setTop (mkF m 102 #[.val (.int p0), .val (.int p1), .val (.int p2), .val (.ref b1), .val (.ref b9), .val (.ref b17), .val (.long ((p2.toInt64) - (p0.toInt64))), .second, .val (.long ((p1.toInt64) - (p0.toInt64))), .second, .unset] [(.long (0 : Int64)), (.long ((p2.toInt64) - (p0.toInt64)))])) _
    refine XS.lcmp X21.here hx rfl (hb hby at_102) rfl ?_
    show Steps p.tables e below (T21.setTop (mkF m 103 #[.val (.int p0), .val (.int p1), .val (.int p2), .val (.ref b1), .val (.ref b9), .val (.ref b17), .val (.long ((p2.toInt64) - (p0.toInt64))), .second, .val (.long ((p1.toInt64) - (p0.toInt64))), .second, .unset] [(.int (lcmpW ((p2.toInt64) - (p0.toInt64)) (0 : Int64)))])) _
    refine XS.ifYes X21.here hx rfl (pc0 := 103) (pc' := 118) rfl (hb hby at_103) rfl ((if0 _ _).trans (tlt ((lw_lt _ _).mpr ((own_neg _ _).mpr hA) : (lcmpW ((p2.toInt64) - (p0.toInt64)) (0 : Int64)) < (0 : Int32))).1) (by decide) (by decide) ?_
    show Steps p.tables e below (T21.setTop (mkF m 118 #[.val (.int p0), .val (.int p1), .val (.int p2), .val (.ref b1), .val (.ref b9), .val (.ref b17), .val (.long ((p2.toInt64) - (p0.toInt64))), .second, .val (.long ((p1.toInt64) - (p0.toInt64))), .second, .unset] [])) _
    refine XS.iconst X21.here hx rfl (hb hby at_118) ?_
    show Steps p.tables e below (T21.setTop (mkF m 119 #[.val (.int p0), .val (.int p1), .val (.int p2), .val (.ref b1), .val (.ref b9), .val (.ref b17), .val (.long ((p2.toInt64) - (p0.toInt64))), .second, .val (.long ((p1.toInt64) - (p0.toInt64))), .second, .unset] [(.int (0 : Int32))])) _
    refine XS.istore X21.here hx rfl (hb hby at_119) rfl (l' := #[.val (.int p0), .val (.int p1), .val (.int p2), .val (.ref b1), .val (.ref b9), .val (.ref b17), .val (.long ((p2.toInt64) - (p0.toInt64))), .second, .val (.long ((p1.toInt64) - (p0.toInt64))), .second, .val (.int (0 : Int32))]) rfl ?_
    show Steps p.tables e below (T21.setTop (mkF m 121 #[.val (.int p0), .val (.int p1), .val (.int p2), .val (.ref b1), .val (.ref b9), .val (.ref b17), .val (.long ((p2.toInt64) - (p0.toInt64))), .second, .val (.long ((p1.toInt64) - (p0.toInt64))), .second, .val (.int (0 : Int32))] [])) _
    refine XS.aload X21.here hx rfl (hb hby at_121) rfl rfl ?_
    show Steps p.tables e below (T21.setTop (mkF m 123 #[.val (.int p0), .val (.int p1), .val (.int p2), .val (.ref b1), .val (.ref b9), .val (.ref b17), .val (.long ((p2.toInt64) - (p0.toInt64))), .second, .val (.long ((p1.toInt64) - (p0.toInt64))), .second, .val (.int (0 : Int32))] [(.ref b17)])) _
    refine XS.iloadN X21.here hx rfl (hb hby at_123) rfl ?_
    show Steps p.tables e below (T21.setTop (mkF m 124 #[.val (.int p0), .val (.int p1), .val (.int p2), .val (.ref b1), .val (.ref b9), .val (.ref b17), .val (.long ((p2.toInt64) - (p0.toInt64))), .second, .val (.long ((p1.toInt64) - (p0.toInt64))), .second, .val (.int (0 : Int32))] [(.int p2), (.ref b17)])) _
    refine st22.trans ?_
    show Steps p.tables e below (T22.setTop (mkF m 127 #[.val (.int p0), .val (.int p1), .val (.int p2), .val (.ref b1), .val (.ref b9), .val (.ref b17), .val (.long ((p2.toInt64) - (p0.toInt64))), .second, .val (.long ((p1.toInt64) - (p0.toInt64))), .second, .val (.int (0 : Int32))] [(.int (0 : Int32))])) _
    refine XS.iload X22.here hx rfl (hb hby at_127) rfl ?_
    show Steps p.tables e below (T22.setTop (mkF m 129 #[.val (.int p0), .val (.int p1), .val (.int p2), .val (.ref b1), .val (.ref b9), .val (.ref b17), .val (.long ((p2.toInt64) - (p0.toInt64))), .second, .val (.long ((p1.toInt64) - (p0.toInt64))), .second, .val (.int (0 : Int32))] [(.int (0 : Int32)), (.int (0 : Int32))])) _
    refine XS.icmpNo X22.here hx rfl (hb hby at_129) rfl (teq (by decide : (0 : Int32) = (0 : Int32))).2 ?_
    show Steps p.tables e below (T22.setTop (mkF m 132 #[.val (.int p0), .val (.int p1), .val (.int p2), .val (.ref b1), .val (.ref b9), .val (.ref b17), .val (.long ((p2.toInt64) - (p0.toInt64))), .second, .val (.long ((p1.toInt64) - (p0.toInt64))), .second, .val (.int (0 : Int32))] [])) _
    refine XS.aload X22.here hx rfl (hb hby at_132) rfl rfl ?_
    show Steps p.tables e below (T22.setTop (mkF m 134 #[.val (.int p0), .val (.int p1), .val (.int p2), .val (.ref b1), .val (.ref b9), .val (.ref b17), .val (.long ((p2.toInt64) - (p0.toInt64))), .second, .val (.long ((p1.toInt64) - (p0.toInt64))), .second, .val (.int (0 : Int32))] [(.ref b17)])) _
    refine XS.iloadN X22.here hx rfl (hb hby at_134) rfl ?_
    show Steps p.tables e below (T22.setTop (mkF m 135 #[.val (.int p0), .val (.int p1), .val (.int p2), .val (.ref b1), .val (.ref b9), .val (.ref b17), .val (.long ((p2.toInt64) - (p0.toInt64))), .second, .val (.long ((p1.toInt64) - (p0.toInt64))), .second, .val (.int (0 : Int32))] [(.int p1), (.ref b17)])) _
    refine st23.trans ?_
    show Steps p.tables e below (T23.setTop (mkF m 138 #[.val (.int p0), .val (.int p1), .val (.int p2), .val (.ref b1), .val (.ref b9), .val (.ref b17), .val (.long ((p2.toInt64) - (p0.toInt64))), .second, .val (.long ((p1.toInt64) - (p0.toInt64))), .second, .val (.int (0 : Int32))] [(.int (0 : Int32))])) _
    refine XS.ifNo X23.here hx rfl (hb hby at_138) rfl ((if0 _ _).trans (teq (by decide : (0 : Int32) = (0 : Int32))).2) ?_
    show Steps p.tables e below (T23.setTop (mkF m 141 #[.val (.int p0), .val (.int p1), .val (.int p2), .val (.ref b1), .val (.ref b9), .val (.ref b17), .val (.long ((p2.toInt64) - (p0.toInt64))), .second, .val (.long ((p1.toInt64) - (p0.toInt64))), .second, .val (.int (0 : Int32))] [])) _
    refine XS.aload X23.here hx rfl (hb hby at_141) rfl rfl ?_
    show Steps p.tables e below (T23.setTop (mkF m 143 #[.val (.int p0), .val (.int p1), .val (.int p2), .val (.ref b1), .val (.ref b9), .val (.ref b17), .val (.long ((p2.toInt64) - (p0.toInt64))), .second, .val (.long ((p1.toInt64) - (p0.toInt64))), .second, .val (.int (0 : Int32))] [(.ref b17)])) _
    refine XS.iloadN X23.here hx rfl (hb hby at_143) rfl ?_
    show Steps p.tables e below (T23.setTop (mkF m 144 #[.val (.int p0), .val (.int p1), .val (.int p2), .val (.ref b1), .val (.ref b9), .val (.ref b17), .val (.long ((p2.toInt64) - (p0.toInt64))), .second, .val (.long ((p1.toInt64) - (p0.toInt64))), .second, .val (.int (0 : Int32))] [(.int p0), (.ref b17)])) _
    refine st24.trans ?_
    show Steps p.tables e below (T24.setTop (mkF m 147 #[.val (.int p0), .val (.int p1), .val (.int p2), .val (.ref b1), .val (.ref b9), .val (.ref b17), .val (.long ((p2.toInt64) - (p0.toInt64))), .second, .val (.long ((p1.toInt64) - (p0.toInt64))), .second, .val (.int (0 : Int32))] [(.int (0 : Int32))])) _
    refine XS.lload X24.here hx rfl (hb hby at_147) rfl ?_
    show Steps p.tables e below (T24.setTop (mkF m 149 #[.val (.int p0), .val (.int p1), .val (.int p2), .val (.ref b1), .val (.ref b9), .val (.ref b17), .val (.long ((p2.toInt64) - (p0.toInt64))), .second, .val (.long ((p1.toInt64) - (p0.toInt64))), .second, .val (.int (0 : Int32))] [(.long ((p1.toInt64) - (p0.toInt64))), (.int (0 : Int32))])) _
    refine XS.lconst X24.here hx rfl (hb hby at_149) ?_
    show Steps p.tables e below (T24.setTop (mkF m 150 #[.val (.int p0), .val (.int p1), .val (.int p2), .val (.ref b1), .val (.ref b9), .val (.ref b17), .val (.long ((p2.toInt64) - (p0.toInt64))), .second, .val (.long ((p1.toInt64) - (p0.toInt64))), .second, .val (.int (0 : Int32))] [(.long (0 : Int64)), (.long ((p1.toInt64) - (p0.toInt64))), (.int (0 : Int32))])) _
    refine XS.lcmp X24.here hx rfl (hb hby at_150) rfl ?_
    show Steps p.tables e below (T24.setTop (mkF m 151 #[.val (.int p0), .val (.int p1), .val (.int p2), .val (.ref b1), .val (.ref b9), .val (.ref b17), .val (.long ((p2.toInt64) - (p0.toInt64))), .second, .val (.long ((p1.toInt64) - (p0.toInt64))), .second, .val (.int (0 : Int32))] [(.int (lcmpW ((p1.toInt64) - (p0.toInt64)) (0 : Int64))), (.int (0 : Int32))])) _
    refine XS.ifYes X24.here hx rfl (pc0 := 151) (pc' := 158) rfl (hb hby at_151) rfl ((if0 _ _).trans (flt (fun q => hD ((own_pos _ _).mp ((lw_gt _ _).mp q)) : ¬ ((0 : Int32) < (lcmpW ((p1.toInt64) - (p0.toInt64)) (0 : Int64))))).2.2.2) (by decide) (by decide) ?_
    show Steps p.tables e below (T24.setTop (mkF m 158 #[.val (.int p0), .val (.int p1), .val (.int p2), .val (.ref b1), .val (.ref b9), .val (.ref b17), .val (.long ((p2.toInt64) - (p0.toInt64))), .second, .val (.long ((p1.toInt64) - (p0.toInt64))), .second, .val (.int (0 : Int32))] [(.int (0 : Int32))])) _
    refine XS.iconst X24.here hx rfl (hb hby at_158) ?_
    show Steps p.tables e below (T24.setTop (mkF m 159 #[.val (.int p0), .val (.int p1), .val (.int p2), .val (.ref b1), .val (.ref b9), .val (.ref b17), .val (.long ((p2.toInt64) - (p0.toInt64))), .second, .val (.long ((p1.toInt64) - (p0.toInt64))), .second, .val (.int (0 : Int32))] [(.int (0 : Int32)), (.int (0 : Int32))])) _
    refine XS.icmpNo X24.here hx rfl (hb hby at_159) rfl (teq (by decide : (0 : Int32) = (0 : Int32))).2 ?_
    show Steps p.tables e below (T24.setTop (mkF m 162 #[.val (.int p0), .val (.int p1), .val (.int p2), .val (.ref b1), .val (.ref b9), .val (.ref b17), .val (.long ((p2.toInt64) - (p0.toInt64))), .second, .val (.long ((p1.toInt64) - (p0.toInt64))), .second, .val (.int (0 : Int32))] [])) _
    refine XS.iconst X24.here hx rfl (hb hby at_162) ?_
    show Steps p.tables e below (T24.setTop (mkF m 163 #[.val (.int p0), .val (.int p1), .val (.int p2), .val (.ref b1), .val (.ref b9), .val (.ref b17), .val (.long ((p2.toInt64) - (p0.toInt64))), .second, .val (.long ((p1.toInt64) - (p0.toInt64))), .second, .val (.int (0 : Int32))] [(.int (1 : Int32))])) _
    refine XS.goto X24.here hx rfl (pc0 := 163) (pc' := 167) rfl (hb hby at_163) (by decide) (by decide) ?_
    show Steps p.tables e below (T24.setTop (mkF m 167 #[.val (.int p0), .val (.int p1), .val (.int p2), .val (.ref b1), .val (.ref b9), .val (.ref b17), .val (.long ((p2.toInt64) - (p0.toInt64))), .second, .val (.long ((p1.toInt64) - (p0.toInt64))), .second, .val (.int (0 : Int32))] [(.int (1 : Int32))])) _
    exact retOut X24 hx Bd.returns rfl (Or.inl ⟨rfl, Or.inr (Or.inl rfl), _, rfl⟩) (hb hby at_167) hr
  · show QL (some (.int (1 : Int32))) h0 n0 _ T24.heap _
    rw [e24]
    exact ⟨rfl, N24⟩
set_option maxRecDepth 65536 in
set_option maxHeartbeats 40000000 in
theorem law_by (l : Launch) (Z : State) (a0 : Array Value) (hw : ∀ d ∈ tables_1, d.before a0 Z = true) (ws : List Jvm.Cond) (p0 p1 p2 : Int32) (w_dc w_el w_em w_ee m_o w_CLASS w_UNKNOWN : Addr) (k_dc k_ee : ClassId) (h0 : Heap) (n0 : Nat) (Z0 : n0 ≤ h0.size) (S_dc : Sta Z h0 "java/util/ArrayList" "DEFAULTCAPACITY_EMPTY_ELEMENTDATA" "[Ljava/lang/Object;" (.ref w_dc)) (V_dc : Arv Z h0 w_dc k_dc (.object "java/lang/Object") (0 : Int32) [] .null) (S_el : Sta Z h0 "java/util/ImmutableCollections" "EMPTY_LIST" "Ljava/util/ImmutableCollections$ListN;" (.ref w_el)) (S_em : Sta Z h0 "java/util/ImmutableCollections" "EMPTY" "Ljava/lang/Object;" (.ref w_em)) (E_el : Exa Z h0 w_el "java/util/ImmutableCollections$ListN") (F_el : Fld Z h0 w_el "java/util/ImmutableCollections$ListN" "elements" "[Ljava/lang/Object;" (.ref w_ee)) (V_ee : Arv Z h0 w_ee k_ee (.object "java/lang/Object") (0 : Int32) [] .null) (M_o : Mir Z "[Ljava/lang/Object;" m_o) (S_w_CLASS : Sta Z h0 "com/example/refleash/refleash/heap/Trace$Root$Kind" "CLASS" "Lcom/example/refleash/refleash/heap/Trace$Root$Kind;" (.ref w_CLASS)) (S_w_UNKNOWN : Sta Z h0 "com/example/refleash/refleash/heap/Leak$Status" "UNKNOWN" "Lcom/example/refleash/refleash/heap/Leak$Status;" (.ref w_UNKNOWN)) (hA : ¬ (p2 < p0)) (hB : ¬ (p2 < p1)) (hD : p0 < p1) :
    MetFree l x (head1 (Jvm.Cond.code x code maxLocals ret :: ws) room_1) (fun a U => a = #[(.int p0), (.int p1), (.int p2)] ∧ Z.Warmed39 U.vm ∧ U.heap = h0) (fun _ _ _ _ _ => True) (fun _ U o U' => ∃ v L, o = .returned v ∧ QL (some (.int (1 : Int32))) h0 n0 v U'.heap L ∧ ReturnedEndW U o U' L room_1.cells room_1.slots) := by
  refine MetFree.of_bodySF (plainFor_of_name pn_com_example_refleash_refleash_heap_LeakIsSuspectPinLaw) hisR ?_
  intro p e s m args below meth c s₁ Bd hml0 hP hK
  obtain ⟨rfl, hZ, hh⟩ := hP
  have hx := Bd.exec
  have hby := Bd.bytes
  have hml : c.maxLocals = 11 := hml0
  have hown : s.vm.findClass "com/example/refleash/refleash/heap/LeakIsSuspectPinLaw" = some m.cls := findClass_of_methodNamed Bd.named
  have hnm := (name_of_methodNamed Bd.named Bd.method).1
  have X0 : Stand p l e room_1 s m #[(.int p0), (.int p1), (.int p2)] below meth c s₁ [] 0 0 := Stand.of_body Bd
  have e0 : s₁.heap = h0 := by rw [← hh, Bd.state]; rfl
  have N0 := Fr.nil n0
  have pre0 : ∀ t, Steps p.tables e below (s₁.setTop (mkF m 0 #[.val (.int p0), .val (.int p1), .val (.int p2), .unset, .unset, .unset, .unset, .unset, .unset, .unset, .unset] [])) t → Steps p.tables e below (s₁.setTop (entryFrame m #[(.int p0), (.int p1), (.int p2)] maxLocals)) t := fun t k => castTop (ef_0_III m p0 p1 p2) k
  obtain ⟨T1, h1, X1, e1, E1, A1, D1, -, st1⟩ := newO X0 hx hZ hown (hw _ (List.mem_of_getElem? (i := 0) rfl)) (hw _ (List.mem_of_getElem? (i := 1) rfl)) (hw _ (List.mem_of_getElem? (i := 2) rfl)) e0 (g := (mkF m 0 #[.val (.int p0), .val (.int p1), .val (.int p2), .unset, .unset, .unset, .unset, .unset, .unset, .unset, .unset] [])) rfl (hb hby at_0) (by decide) (by decide)
  obtain ⟨b1, gg1⟩ : ∃ z, z = h0.size := ⟨_, rfl⟩
  rw [← gg1] at A1 D1 st1
  have sz_b1 : h0.size ≤ b1 := Nat.le_of_eq gg1.symm
  have sz0_b1 : h0.size ≤ b1 := Nat.le_trans (Keep.refl h0 []).1 sz_b1
  have g_b1 : n0 ≤ b1 := Nat.le_trans Z0 sz0_b1
  have K1q : Keep h0 h1 [] := (Keep.refl _ []).ext E1
  have K1 : Keep h0 h1 [] := (Keep.refl h0 []).ext E1
  have F1_objectId : Fld Z h1 b1 "com/example/refleash/refleash/heap/Trace" "objectId" "J" (.long (0 : Int64)) := D1 (Or.inr (hw _ (List.mem_of_getElem? (i := 99) rfl))) (ty := .long) (by decide)
  have F1_root : Fld Z h1 b1 "com/example/refleash/refleash/heap/Trace" "root" "Lcom/example/refleash/refleash/heap/Trace$Root;" .null := D1 (Or.inr (hw _ (List.mem_of_getElem? (i := 101) rfl))) (ty := (.object "com/example/refleash/refleash/heap/Trace$Root")) (by decide)
  have F1_hops : Fld Z h1 b1 "com/example/refleash/refleash/heap/Trace" "hops" "Ljava/util/List;" .null := D1 (Or.inr (hw _ (List.mem_of_getElem? (i := 103) rfl))) (ty := (.object "java/util/List")) (by decide)
  have F1_retainedBytes : Fld Z h1 b1 "com/example/refleash/refleash/heap/Trace" "retainedBytes" "J" (.long (0 : Int64)) := D1 (Or.inr (hw _ (List.mem_of_getElem? (i := 105) rfl))) (ty := .long) (by decide)
  have F1_retainedObjects : Fld Z h1 b1 "com/example/refleash/refleash/heap/Trace" "retainedObjects" "J" (.long (0 : Int64)) := D1 (Or.inr (hw _ (List.mem_of_getElem? (i := 107) rfl))) (ty := .long) (by decide)
  obtain ⟨T2, h2, X2, e2, E2, A2, D2, -, st2⟩ := newO X1 hx hZ hown (hw _ (List.mem_of_getElem? (i := 3) rfl)) (hw _ (List.mem_of_getElem? (i := 4) rfl)) (hw _ (List.mem_of_getElem? (i := 5) rfl)) e1 (g := (mkF m 5 #[.val (.int p0), .val (.int p1), .val (.int p2), .unset, .unset, .unset, .unset, .unset, .unset, .unset, .unset] [(.long (0 : Int64)), (.ref b1), (.ref b1)])) rfl (hb hby at_5) (by decide) (by decide)
  obtain ⟨b2, gg2⟩ : ∃ z, z = h1.size := ⟨_, rfl⟩
  rw [← gg2] at A2 D2 st2
  have sz_b2 : h1.size ≤ b2 := Nat.le_of_eq gg2.symm
  have sz0_b2 : h0.size ≤ b2 := Nat.le_trans K1.1 sz_b2
  have g_b2 : n0 ≤ b2 := Nat.le_trans Z0 sz0_b2
  have K2q : Keep h1 h2 [] := (Keep.refl _ []).ext E2
  have K2 : Keep h0 h2 [] := K1.ext E2
  have F2_kind : Fld Z h2 b2 "com/example/refleash/refleash/heap/Trace$Root" "kind" "Lcom/example/refleash/refleash/heap/Trace$Root$Kind;" .null := D2 (Or.inr (hw _ (List.mem_of_getElem? (i := 33) rfl))) (ty := (.object "com/example/refleash/refleash/heap/Trace$Root$Kind")) (by decide)
  have F2_className : Fld Z h2 b2 "com/example/refleash/refleash/heap/Trace$Root" "className" "Ljava/lang/String;" .null := D2 (Or.inr (hw _ (List.mem_of_getElem? (i := 35) rfl))) (ty := (.object "java/lang/String")) (by decide)
  have F2_thread : Fld Z h2 b2 "com/example/refleash/refleash/heap/Trace$Root" "thread" "Ljava/lang/String;" .null := D2 (Or.inr (hw _ (List.mem_of_getElem? (i := 37) rfl))) (ty := (.object "java/lang/String")) (by decide)
  have F2_method : Fld Z h2 b2 "com/example/refleash/refleash/heap/Trace$Root" "method" "Ljava/lang/String;" .null := D2 (Or.inr (hw _ (List.mem_of_getElem? (i := 39) rfl))) (ty := (.object "java/lang/String")) (by decide)
  obtain ⟨T3, X3, e3, st3⟩ := getS2 X2 hx hZ hown (host := "") (Or.inl (hw _ (List.mem_of_getElem? (i := 6) rfl))) Via.refl e2 (own_sta_keep S_w_CLASS K2) (g := (mkF m 9 #[.val (.int p0), .val (.int p1), .val (.int p2), .unset, .unset, .unset, .unset, .unset, .unset, .unset, .unset] [(.ref b2), (.ref b2), (.long (0 : Int64)), (.ref b1), (.ref b1)])) rfl (hb hby at_9)
  have wS : ∀ d ∈ Bundle.stringAtoms, d.before a0 Z = true := fun d hd => hw d ((by decide +kernel : ∀ d ∈ Bundle.stringAtoms, d ∈ tables_1) d hd)
  obtain ⟨a4, T4, h4, k4, X4, e4, E4, S4, hk4, hZ, hown, st4⟩ := ldcS (s := s) (vm0 := s.vm) X3 hx hZ hown (hw _ (List.mem_of_getElem? (i := 9) rfl)) wS e3 ((State.WarmedH.refl s).since 0) (Nat.zero_le _) (g := (mkF m 12 #[.val (.int p0), .val (.int p1), .val (.int p2), .unset, .unset, .unset, .unset, .unset, .unset, .unset, .unset] [(.ref w_CLASS), (.ref b2), (.ref b2), (.long (0 : Int64)), (.ref b1), (.ref b1)])) rfl (hb hby at_12) (n := 4) (by decide) (by decide) (by decide) (by decide)
  have K4q : Keep h2 h4 [] := (Keep.refl _ []).ext E4
  have K4 : Keep h0 h4 [] := K2.ext E4
  obtain ⟨_, _, ⟨T5, L5, k5, n5⟩, -, X5, ⟨Lc5, hQ5, l5, y5, z5⟩, st5⟩ := X4.specialBack hx (y := (⟨"com/example/refleash/refleash/heap/Trace$Root", "<init>", "(Lcom/example/refleash/refleash/heap/Trace$Root$Kind;Ljava/lang/String;Ljava/lang/String;Ljava/lang/String;)V"⟩ : MethodName)) rfl hown (mvT hZ (hw _ (List.mem_of_getElem? (i := 17) rfl))) (mvT hZ (hw _ (List.mem_of_getElem? (i := 18) rfl))) (mvT hZ (hw _ (List.mem_of_getElem? (i := 19) rfl))) (by decide) (backOf (W := 5) (root_init l Z a0 hw [] b2 w_CLASS a4 h4 n0 (Nat.le_trans Z0 K4.1) (F2_kind.keep K4q nin0) (F2_className.keep K4q nin0) (F2_thread.keep K4q nin0) (F2_method.keep K4q nin0) (A2.keep K4q) g_b2) hZ (hw _ (List.mem_of_getElem? (i := 19) rfl)) (hw _ (List.mem_of_getElem? (i := 5) rfl)) (by decide) (by decide)) (g := (mkF m 16 #[.val (.int p0), .val (.int p1), .val (.int p2), .unset, .unset, .unset, .unset, .unset, .unset, .unset, .unset] [.null, .null, (.ref a4), (.ref w_CLASS), (.ref b2), (.ref b2), (.long (0 : Int64)), (.ref b1), (.ref b1)])) rfl (by rw [hml]; rfl) (Steps.refl _) (a := b2) (argsL := [(.ref w_CLASS), (.ref a4), .null, .null]) (rest := [(.ref b2), (.long (0 : Int64)), (.ref b1), (.ref b1)]) (lenOf pd__Lcom_example_refleash_refleash_heap_Trace_Root_Kind_Ljava_lang_String_Ljava_lang_String_Ljava_lang_String__V rfl) rfl (by show 2 * 0 + _ ≤ _; exact Nat.le_of_eq rfl) (hb hby at_16) (fun _ _ => ⟨rfl, e4, (by decide : 4 + 0 ≤ _), (by decide : 17 + 0 ≤ _)⟩)
  dsimp only [Pt.U, Pt.locs, Pt.cells, Pt.slots] at X5 l5 y5 z5 st5 hQ5
  subst l5 y5 z5
  obtain ⟨rfl, N5q, K5q⟩ := hQ5
  have N5 := Fr.app N0 N5q
  have K5 : Keep h0 T5.heap [] := K4.trans K5q (allS (Or.inr sz0_b2) all0)
  obtain ⟨T6, h6, X6, e6, E6, A6, D6, -, st6⟩ := newO X5 hx hZ hown (hw _ (List.mem_of_getElem? (i := 40) rfl)) (hw _ (List.mem_of_getElem? (i := 41) rfl)) (hw _ (List.mem_of_getElem? (i := 42) rfl)) rfl (g := (mkF m 19 #[.val (.int p0), .val (.int p1), .val (.int p2), .unset, .unset, .unset, .unset, .unset, .unset, .unset, .unset] [(.ref b2), (.long (0 : Int64)), (.ref b1), (.ref b1)])) rfl (hb hby at_19) (by decide) (by decide)
  obtain ⟨b6, gg6⟩ : ∃ z, z = T5.heap.size := ⟨_, rfl⟩
  rw [← gg6] at A6 D6 st6
  have sz_b6 : T5.heap.size ≤ b6 := Nat.le_of_eq gg6.symm
  have sz0_b6 : h0.size ≤ b6 := Nat.le_trans K5.1 sz_b6
  have g_b6 : n0 ≤ b6 := Nat.le_trans Z0 sz0_b6
  have K6q : Keep T5.heap h6 [] := (Keep.refl _ []).ext E6
  have K6 : Keep h0 h6 [] := K5.ext E6
  have F6_modCount : Fld Z h6 b6 "java/util/AbstractList" "modCount" "I" (.int (0 : Int32)) := D6 (Or.inl (hw _ (List.mem_of_getElem? (i := 60) rfl))) (ty := .int) (by decide)
  have F6_elementData : Fld Z h6 b6 "java/util/ArrayList" "elementData" "[Ljava/lang/Object;" .null := D6 (Or.inl (hw _ (List.mem_of_getElem? (i := 63) rfl))) (ty := (.array (.object "java/lang/Object"))) (by decide)
  have F6_size : Fld Z h6 b6 "java/util/ArrayList" "size" "I" (.int (0 : Int32)) := D6 (Or.inl (hw _ (List.mem_of_getElem? (i := 93) rfl))) (ty := .int) (by decide)
  obtain ⟨_, _, ⟨T7, L7, k7, n7⟩, -, X7, ⟨Lc7, hQ7, l7, y7, z7⟩, st7⟩ := X6.specialBack hx (y := (⟨"java/util/ArrayList", "<init>", "()V"⟩ : MethodName)) rfl hown (mvT hZ (hw _ (List.mem_of_getElem? (i := 43) rfl))) (mvT hZ (hw _ (List.mem_of_getElem? (i := 44) rfl))) (mvT hZ (hw _ (List.mem_of_getElem? (i := 45) rfl))) (by decide) (backOf (W := 6) (al_init l Z a0 hw [] b6 w_dc h6 n0 (Nat.le_trans Z0 K6.1) F6_modCount F6_elementData F6_size A6 g_b6 (own_sta_keep S_dc K6)) hZ (hw _ (List.mem_of_getElem? (i := 45) rfl)) (hw _ (List.mem_of_getElem? (i := 42) rfl)) (by decide) (by decide)) (g := (mkF m 23 #[.val (.int p0), .val (.int p1), .val (.int p2), .unset, .unset, .unset, .unset, .unset, .unset, .unset, .unset] [(.ref b6), (.ref b6), (.ref b2), (.long (0 : Int64)), (.ref b1), (.ref b1)])) rfl (by rw [hml]; rfl) (Steps.refl _) (a := b6) (argsL := []) (rest := [(.ref b6), (.ref b2), (.long (0 : Int64)), (.ref b1), (.ref b1)]) (lenOf pd___V rfl) rfl (by show 2 * 0 + _ ≤ _; exact Nat.le_of_eq rfl) (hb hby at_23) (fun _ _ => ⟨rfl, e6, (by decide : 5 + 0 ≤ _), (by decide : 20 + 0 ≤ _)⟩)
  dsimp only [Pt.U, Pt.locs, Pt.cells, Pt.slots] at X7 l7 y7 z7 st7 hQ7
  subst l7 y7 z7
  obtain ⟨rfl, N7q, K7q, E7q, F7q_modCount, F7q_elementData, F7q_size⟩ := hQ7
  have N7 := Fr.app N5 N7q
  have K7 : Keep h0 T7.heap [] := K6.trans K7q (allS (Or.inr sz0_b6) all0)
  obtain ⟨_, _, ⟨T8, L8, k8, n8⟩, -, X8, ⟨Lc8, hQ8, l8, y8, z8⟩, st8⟩ := X7.specialBack hx (y := (⟨"com/example/refleash/refleash/heap/Trace", "<init>", "(JLcom/example/refleash/refleash/heap/Trace$Root;Ljava/util/List;JJ)V"⟩ : MethodName)) rfl hown (mvT hZ (hw _ (List.mem_of_getElem? (i := 64) rfl))) (mvT hZ (hw _ (List.mem_of_getElem? (i := 65) rfl))) (mvT hZ (hw _ (List.mem_of_getElem? (i := 66) rfl))) (by decide) (backOf (W := 1) (trace_init l Z a0 hw [] b1 (0 : Int64) b2 b6 (0 : Int64) (0 : Int64) w_el T7.heap n0 (Nat.le_trans Z0 K7.1) (((((F1_objectId.keep K2q nin0).keep K4q nin0).keep K5q (ninS (Nat.ne_of_lt (Nat.lt_of_lt_of_le A1.lt sz_b2)) nin0)).keep K6q nin0).keep K7q (ninS (Nat.ne_of_lt (Nat.lt_of_lt_of_le (((A1.keep K2q).keep K4q).keep K5q).lt sz_b6)) nin0)) (((((F1_root.keep K2q nin0).keep K4q nin0).keep K5q (ninS (Nat.ne_of_lt (Nat.lt_of_lt_of_le A1.lt sz_b2)) nin0)).keep K6q nin0).keep K7q (ninS (Nat.ne_of_lt (Nat.lt_of_lt_of_le (((A1.keep K2q).keep K4q).keep K5q).lt sz_b6)) nin0)) (((((F1_hops.keep K2q nin0).keep K4q nin0).keep K5q (ninS (Nat.ne_of_lt (Nat.lt_of_lt_of_le A1.lt sz_b2)) nin0)).keep K6q nin0).keep K7q (ninS (Nat.ne_of_lt (Nat.lt_of_lt_of_le (((A1.keep K2q).keep K4q).keep K5q).lt sz_b6)) nin0)) (((((F1_retainedBytes.keep K2q nin0).keep K4q nin0).keep K5q (ninS (Nat.ne_of_lt (Nat.lt_of_lt_of_le A1.lt sz_b2)) nin0)).keep K6q nin0).keep K7q (ninS (Nat.ne_of_lt (Nat.lt_of_lt_of_le (((A1.keep K2q).keep K4q).keep K5q).lt sz_b6)) nin0)) (((((F1_retainedObjects.keep K2q nin0).keep K4q nin0).keep K5q (ninS (Nat.ne_of_lt (Nat.lt_of_lt_of_le A1.lt sz_b2)) nin0)).keep K6q nin0).keep K7q (ninS (Nat.ne_of_lt (Nat.lt_of_lt_of_le (((A1.keep K2q).keep K4q).keep K5q).lt sz_b6)) nin0)) (((((A1.keep K2q).keep K4q).keep K5q).keep K6q).keep K7q) g_b1 E7q F7q_size (own_sta_keep S_el K7)) hZ (hw _ (List.mem_of_getElem? (i := 66) rfl)) (hw _ (List.mem_of_getElem? (i := 2) rfl)) (by decide) (by decide)) (g := (mkF m 28 #[.val (.int p0), .val (.int p1), .val (.int p2), .unset, .unset, .unset, .unset, .unset, .unset, .unset, .unset] [(.long (0 : Int64)), (.long (0 : Int64)), (.ref b6), (.ref b2), (.long (0 : Int64)), (.ref b1), (.ref b1)])) rfl (by rw [hml]; rfl) (Steps.refl _) (a := b1) (argsL := [(.long (0 : Int64)), (.ref b2), (.ref b6), (.long (0 : Int64)), (.long (0 : Int64))]) (rest := [(.ref b1)]) (lenOf pd__JLcom_example_refleash_refleash_heap_Trace_Root_Ljava_util_List_JJ_V rfl) rfl (by show 2 * 0 + _ ≤ _; exact Nat.le_of_eq rfl) (hb hby at_28) (fun _ _ => ⟨rfl, rfl, (by decide : 5 + 0 ≤ _), (by decide : 20 + 0 ≤ _)⟩)
  dsimp only [Pt.U, Pt.locs, Pt.cells, Pt.slots] at X8 l8 y8 z8 st8 hQ8
  subst l8 y8 z8
  obtain ⟨rfl, N8q, K8q, E8q, F8q⟩ := hQ8
  have N8 := Fr.app N7 N8q
  have K8 : Keep h0 T8.heap [] := K7.trans K8q (allS (Or.inr sz0_b1) all0)
  obtain ⟨T9, h9, X9, e9, E9, A9, D9, -, st9⟩ := newO X8 hx hZ hown (hw _ (List.mem_of_getElem? (i := 40) rfl)) (hw _ (List.mem_of_getElem? (i := 41) rfl)) (hw _ (List.mem_of_getElem? (i := 42) rfl)) rfl (g := (mkF m 32 #[.val (.int p0), .val (.int p1), .val (.int p2), .val (.ref b1), .unset, .unset, .unset, .unset, .unset, .unset, .unset] [])) rfl (hb hby at_32) (by decide) (by decide)
  obtain ⟨b9, gg9⟩ : ∃ z, z = T8.heap.size := ⟨_, rfl⟩
  rw [← gg9] at A9 D9 st9
  have sz_b9 : T8.heap.size ≤ b9 := Nat.le_of_eq gg9.symm
  have sz0_b9 : h0.size ≤ b9 := Nat.le_trans K8.1 sz_b9
  have g_b9 : n0 ≤ b9 := Nat.le_trans Z0 sz0_b9
  have K9q : Keep T8.heap h9 [] := (Keep.refl _ []).ext E9
  have K9 : Keep h0 h9 [] := K8.ext E9
  have F9_modCount : Fld Z h9 b9 "java/util/AbstractList" "modCount" "I" (.int (0 : Int32)) := D9 (Or.inl (hw _ (List.mem_of_getElem? (i := 60) rfl))) (ty := .int) (by decide)
  have F9_elementData : Fld Z h9 b9 "java/util/ArrayList" "elementData" "[Ljava/lang/Object;" .null := D9 (Or.inl (hw _ (List.mem_of_getElem? (i := 63) rfl))) (ty := (.array (.object "java/lang/Object"))) (by decide)
  have F9_size : Fld Z h9 b9 "java/util/ArrayList" "size" "I" (.int (0 : Int32)) := D9 (Or.inl (hw _ (List.mem_of_getElem? (i := 93) rfl))) (ty := .int) (by decide)
  obtain ⟨_, _, ⟨T10, L10, k10, n10⟩, -, X10, ⟨Lc10, hQ10, l10, y10, z10⟩, st10⟩ := X9.specialBack hx (y := (⟨"java/util/ArrayList", "<init>", "()V"⟩ : MethodName)) rfl hown (mvT hZ (hw _ (List.mem_of_getElem? (i := 43) rfl))) (mvT hZ (hw _ (List.mem_of_getElem? (i := 44) rfl))) (mvT hZ (hw _ (List.mem_of_getElem? (i := 45) rfl))) (by decide) (backOf (W := 1) (al_init l Z a0 hw [] b9 w_dc h9 n0 (Nat.le_trans Z0 K9.1) F9_modCount F9_elementData F9_size A9 g_b9 (own_sta_keep S_dc K9)) hZ (hw _ (List.mem_of_getElem? (i := 45) rfl)) (hw _ (List.mem_of_getElem? (i := 42) rfl)) (by decide) (by decide)) (g := (mkF m 36 #[.val (.int p0), .val (.int p1), .val (.int p2), .val (.ref b1), .unset, .unset, .unset, .unset, .unset, .unset, .unset] [(.ref b9), (.ref b9)])) rfl (by rw [hml]; rfl) (Steps.refl _) (a := b9) (argsL := []) (rest := [(.ref b9)]) (lenOf pd___V rfl) rfl (by show 2 * 0 + _ ≤ _; exact Nat.le_of_eq rfl) (hb hby at_36) (fun _ _ => ⟨rfl, e9, (by decide : 6 + 0 ≤ _), (by decide : 23 + 0 ≤ _)⟩)
  dsimp only [Pt.U, Pt.locs, Pt.cells, Pt.slots] at X10 l10 y10 z10 st10 hQ10
  subst l10 y10 z10
  obtain ⟨rfl, N10q, K10q, E10q, F10q_modCount, F10q_elementData, F10q_size⟩ := hQ10
  have N10 := Fr.app N8 N10q
  have K10 : Keep h0 T10.heap [] := K9.trans K10q (allS (Or.inr sz0_b9) all0)
  obtain ⟨T11, h11, X11, e11, E11, A11, D11, -, st11⟩ := newO X10 hx hZ hown (hw _ (List.mem_of_getElem? (i := 108) rfl)) (hw _ (List.mem_of_getElem? (i := 109) rfl)) (hw _ (List.mem_of_getElem? (i := 110) rfl)) rfl (g := (mkF m 43 #[.val (.int p0), .val (.int p1), .val (.int p2), .val (.ref b1), .val (.ref b9), .unset, .unset, .unset, .unset, .unset, .unset] [(.ref b9)])) rfl (hb hby at_43) (by decide) (by decide)
  obtain ⟨b11, gg11⟩ : ∃ z, z = T10.heap.size := ⟨_, rfl⟩
  rw [← gg11] at A11 D11 st11
  have sz_b11 : T10.heap.size ≤ b11 := Nat.le_of_eq gg11.symm
  have sz0_b11 : h0.size ≤ b11 := Nat.le_trans K10.1 sz_b11
  have g_b11 : n0 ≤ b11 := Nat.le_trans Z0 sz0_b11
  have K11q : Keep T10.heap h11 [] := (Keep.refl _ []).ext E11
  have K11 : Keep h0 h11 [] := K10.ext E11
  have F11_className : Fld Z h11 b11 "com/example/refleash/refleash/heap/Leak$Node" "className" "Ljava/lang/String;" .null := D11 (Or.inr (hw _ (List.mem_of_getElem? (i := 121) rfl))) (ty := (.object "java/lang/String")) (by decide)
  have F11_status : Fld Z h11 b11 "com/example/refleash/refleash/heap/Leak$Node" "status" "Lcom/example/refleash/refleash/heap/Leak$Status;" .null := D11 (Or.inr (hw _ (List.mem_of_getElem? (i := 123) rfl))) (ty := (.object "com/example/refleash/refleash/heap/Leak$Status")) (by decide)
  have F11_reason : Fld Z h11 b11 "com/example/refleash/refleash/heap/Leak$Node" "reason" "Ljava/lang/String;" .null := D11 (Or.inr (hw _ (List.mem_of_getElem? (i := 125) rfl))) (ty := (.object "java/lang/String")) (by decide)
  obtain ⟨a12, T12, h12, k12, X12, e12, E12, S12, hk12, hZ, hown, st12⟩ := ldcS (s := s) (vm0 := T4.vm) X11 hx hZ hown (hw _ (List.mem_of_getElem? (i := 9) rfl)) wS e11 S4 (Nat.le_trans (Nat.le_trans (Nat.le_trans (Nat.le_trans (Nat.le_trans (Nat.le_trans (Nat.le_trans hk4 K5q.1) K6q.1) K7q.1) K8q.1) K9q.1) K10q.1) K11q.1) (g := (mkF m 47 #[.val (.int p0), .val (.int p1), .val (.int p2), .val (.ref b1), .val (.ref b9), .unset, .unset, .unset, .unset, .unset, .unset] [(.ref b11), (.ref b11), (.ref b9)])) rfl (hb hby at_47) (n := 4) (by decide) (by decide) (by decide) (by decide)
  have K12q : Keep h11 h12 [] := (Keep.refl _ []).ext E12
  have K12 : Keep h0 h12 [] := K11.ext E12
  obtain ⟨T13, X13, e13, st13⟩ := getS2 X12 hx hZ hown (host := "") (Or.inl (hw _ (List.mem_of_getElem? (i := 111) rfl))) Via.refl e12 (own_sta_keep S_w_UNKNOWN K12) (g := (mkF m 49 #[.val (.int p0), .val (.int p1), .val (.int p2), .val (.ref b1), .val (.ref b9), .unset, .unset, .unset, .unset, .unset, .unset] [(.ref a12), (.ref b11), (.ref b11), (.ref b9)])) rfl (hb hby at_49)
  obtain ⟨a14, T14, h14, k14, X14, e14, E14, S14, hk14, hZ, hown, st14⟩ := ldcS (s := s) (vm0 := T12.vm) X13 hx hZ hown (hw _ (List.mem_of_getElem? (i := 114) rfl)) wS e13 S12 hk12 (g := (mkF m 52 #[.val (.int p0), .val (.int p1), .val (.int p2), .val (.ref b1), .val (.ref b9), .unset, .unset, .unset, .unset, .unset, .unset] [(.ref w_UNKNOWN), (.ref a12), (.ref b11), (.ref b11), (.ref b9)])) rfl (hb hby at_52) (n := 4) (by decide) (by decide) (by decide) (by decide)
  have K14q : Keep h12 h14 [] := (Keep.refl _ []).ext E14
  have K14 : Keep h0 h14 [] := K12.ext E14
  obtain ⟨_, _, ⟨T15, L15, k15, n15⟩, -, X15, ⟨Lc15, hQ15, l15, y15, z15⟩, st15⟩ := X14.specialBack hx (y := (⟨"com/example/refleash/refleash/heap/Leak$Node", "<init>", "(Ljava/lang/String;Lcom/example/refleash/refleash/heap/Leak$Status;Ljava/lang/String;)V"⟩ : MethodName)) rfl hown (mvT hZ (hw _ (List.mem_of_getElem? (i := 115) rfl))) (mvT hZ (hw _ (List.mem_of_getElem? (i := 116) rfl))) (mvT hZ (hw _ (List.mem_of_getElem? (i := 117) rfl))) (by decide) (backOf (W := 2) (node_init l Z a0 hw [] b11 a12 w_UNKNOWN a14 h14 n0 (Nat.le_trans Z0 K14.1) ((F11_className.keep K12q nin0).keep K14q nin0) ((F11_status.keep K12q nin0).keep K14q nin0) ((F11_reason.keep K12q nin0).keep K14q nin0) ((A11.keep K12q).keep K14q) g_b11) hZ (hw _ (List.mem_of_getElem? (i := 117) rfl)) (hw _ (List.mem_of_getElem? (i := 110) rfl)) (by decide) (by decide)) (g := (mkF m 54 #[.val (.int p0), .val (.int p1), .val (.int p2), .val (.ref b1), .val (.ref b9), .unset, .unset, .unset, .unset, .unset, .unset] [(.ref a14), (.ref w_UNKNOWN), (.ref a12), (.ref b11), (.ref b11), (.ref b9)])) rfl (by rw [hml]; rfl) (Steps.refl _) (a := b11) (argsL := [(.ref a12), (.ref w_UNKNOWN), (.ref a14)]) (rest := [(.ref b11), (.ref b9)]) (lenOf pd__Ljava_lang_String_Lcom_example_refleash_refleash_heap_Leak_Status_Ljava_lang_String__V rfl) rfl (by show 2 * 0 + _ ≤ _; exact Nat.le_of_eq rfl) (hb hby at_54) (fun _ _ => ⟨rfl, e14, (by decide : 11 + 0 ≤ _), (by decide : 42 + 0 ≤ _)⟩)
  dsimp only [Pt.U, Pt.locs, Pt.cells, Pt.slots] at X15 l15 y15 z15 st15 hQ15
  subst l15 y15 z15
  obtain ⟨rfl, N15q, K15q, E15q⟩ := hQ15
  have N15 := Fr.app N10 N15q
  have K15 : Keep h0 T15.heap [] := K14.trans K15q (allS (Or.inr sz0_b11) all0)
  obtain ⟨cq16, kq16, q16a, q16b, q16c⟩ := isOf hZ rfl ((((E10q.keep K11q).keep K12q).keep K14q).keep K15q)
  obtain ⟨_, _, ⟨T16, L16, k16, n16⟩, -, X16, ⟨Lc16, hQ16, l16, y16, z16⟩, st16⟩ := X15.virtualBack hx (y := (⟨"java/util/ArrayList", "add", "(Ljava/lang/Object;)Z"⟩ : MethodName)) (z := (⟨"java/util/ArrayList", "add", "(Ljava/lang/Object;)Z"⟩ : MethodName)) hown (mvT hZ (hw _ (List.mem_of_getElem? (i := 126) rfl))) (mvT hZ (hw _ (List.mem_of_getElem? (i := 127) rfl))) (notFace_of_selects (args := #[]) (mvT hZ (hw _ (List.mem_of_getElem? (i := 129) rfl)))) (mvT hZ (hw _ (List.mem_of_getElem? (i := 129) rfl))) (mvT hZ (hw _ (List.mem_of_getElem? (i := 128) rfl))) (by decide) (backOf (W := 0) (add_1 l Z a0 hw [] b9 b11 (0 : Int32) w_dc k_dc T15.heap n0 (Nat.le_trans Z0 K15.1) ((((F10q_modCount.keep K11q nin0).keep K12q nin0).keep K14q nin0).keep K15q (ninS (Nat.ne_of_lt (Nat.lt_of_lt_of_le E10q.lt sz_b11)) nin0)) ((((F10q_elementData.keep K11q nin0).keep K12q nin0).keep K14q nin0).keep K15q (ninS (Nat.ne_of_lt (Nat.lt_of_lt_of_le E10q.lt sz_b11)) nin0)) ((((F10q_size.keep K11q nin0).keep K12q nin0).keep K14q nin0).keep K15q (ninS (Nat.ne_of_lt (Nat.lt_of_lt_of_le E10q.lt sz_b11)) nin0)) ((((E10q.keep K11q).keep K12q).keep K14q).keep K15q) g_b9 (((((((((((((V_dc.keep K1q nin0).keep K2q nin0).keep K4q nin0).keep K5q (ninS (Nat.ne_of_lt (Nat.lt_of_lt_of_le (V_dc.keep K1q nin0).lt sz_b2)) nin0)).keep K6q nin0).keep K7q (ninS (Nat.ne_of_lt (Nat.lt_of_lt_of_le ((((V_dc.keep K1q nin0).keep K2q nin0).keep K4q nin0).keep K5q (ninS (Nat.ne_of_lt (Nat.lt_of_lt_of_le (V_dc.keep K1q nin0).lt sz_b2)) nin0)).lt sz_b6)) nin0)).keep K8q (ninS (Nat.ne_of_lt (Nat.lt_of_lt_of_le V_dc.lt sz_b1)) nin0)).keep K9q nin0).keep K10q (ninS (Nat.ne_of_lt (Nat.lt_of_lt_of_le (((((((V_dc.keep K1q nin0).keep K2q nin0).keep K4q nin0).keep K5q (ninS (Nat.ne_of_lt (Nat.lt_of_lt_of_le (V_dc.keep K1q nin0).lt sz_b2)) nin0)).keep K6q nin0).keep K7q (ninS (Nat.ne_of_lt (Nat.lt_of_lt_of_le ((((V_dc.keep K1q nin0).keep K2q nin0).keep K4q nin0).keep K5q (ninS (Nat.ne_of_lt (Nat.lt_of_lt_of_le (V_dc.keep K1q nin0).lt sz_b2)) nin0)).lt sz_b6)) nin0)).keep K8q (ninS (Nat.ne_of_lt (Nat.lt_of_lt_of_le V_dc.lt sz_b1)) nin0)).lt sz_b9)) nin0)).keep K11q nin0).keep K12q nin0).keep K14q nin0).keep K15q (ninS (Nat.ne_of_lt (Nat.lt_of_lt_of_le (((((((((V_dc.keep K1q nin0).keep K2q nin0).keep K4q nin0).keep K5q (ninS (Nat.ne_of_lt (Nat.lt_of_lt_of_le (V_dc.keep K1q nin0).lt sz_b2)) nin0)).keep K6q nin0).keep K7q (ninS (Nat.ne_of_lt (Nat.lt_of_lt_of_le ((((V_dc.keep K1q nin0).keep K2q nin0).keep K4q nin0).keep K5q (ninS (Nat.ne_of_lt (Nat.lt_of_lt_of_le (V_dc.keep K1q nin0).lt sz_b2)) nin0)).lt sz_b6)) nin0)).keep K8q (ninS (Nat.ne_of_lt (Nat.lt_of_lt_of_le V_dc.lt sz_b1)) nin0)).keep K9q nin0).keep K10q (ninS (Nat.ne_of_lt (Nat.lt_of_lt_of_le (((((((V_dc.keep K1q nin0).keep K2q nin0).keep K4q nin0).keep K5q (ninS (Nat.ne_of_lt (Nat.lt_of_lt_of_le (V_dc.keep K1q nin0).lt sz_b2)) nin0)).keep K6q nin0).keep K7q (ninS (Nat.ne_of_lt (Nat.lt_of_lt_of_le ((((V_dc.keep K1q nin0).keep K2q nin0).keep K4q nin0).keep K5q (ninS (Nat.ne_of_lt (Nat.lt_of_lt_of_le (V_dc.keep K1q nin0).lt sz_b2)) nin0)).lt sz_b6)) nin0)).keep K8q (ninS (Nat.ne_of_lt (Nat.lt_of_lt_of_le V_dc.lt sz_b1)) nin0)).lt sz_b9)) nin0)).lt sz_b11)) nin0)) (own_sta_keep S_dc K15) (own_obj E15q (hw _ (List.mem_of_getElem? (i := 154) rfl))) (Nat.ne_of_lt (Nat.lt_of_lt_of_le (((((((V_dc.keep K1q nin0).keep K2q nin0).keep K4q nin0).keep K5q (ninS (Nat.ne_of_lt (Nat.lt_of_lt_of_le (V_dc.keep K1q nin0).lt sz_b2)) nin0)).keep K6q nin0).keep K7q (ninS (Nat.ne_of_lt (Nat.lt_of_lt_of_le ((((V_dc.keep K1q nin0).keep K2q nin0).keep K4q nin0).keep K5q (ninS (Nat.ne_of_lt (Nat.lt_of_lt_of_le (V_dc.keep K1q nin0).lt sz_b2)) nin0)).lt sz_b6)) nin0)).keep K8q (ninS (Nat.ne_of_lt (Nat.lt_of_lt_of_le V_dc.lt sz_b1)) nin0)).lt sz_b9))) hZ (hw _ (List.mem_of_getElem? (i := 130) rfl)) (hw _ (List.mem_of_getElem? (i := 42) rfl)) (by decide) (by decide)) q16a q16c (g := (mkF m 57 #[.val (.int p0), .val (.int p1), .val (.int p2), .val (.ref b1), .val (.ref b9), .unset, .unset, .unset, .unset, .unset, .unset] [(.ref b11), (.ref b9)])) rfl (by rw [hml]; rfl) (Steps.refl _) (argsL := [(.ref b11)]) (rest := []) (lenOf pd__Ljava_lang_Object__Z rfl) rfl (by show 2 * 0 + _ ≤ _; exact Nat.le_of_eq rfl) (hb hby at_57) (fun _ _ => ⟨rfl, rfl, (by decide : 11 + 1 ≤ _), (by decide : 42 + 10 ≤ _)⟩)
  dsimp only [Pt.U, Pt.locs, Pt.cells, Pt.slots] at X16 l16 y16 z16 st16 hQ16
  subst l16 y16 z16
  obtain ⟨r16, k16r, rfl, N16q, K16q, sz_r16, E16r, V16q, E16q, F16q_modCount, F16q_elementData, F16q_size⟩ := hQ16
  have sz0_r16 : h0.size ≤ r16 := Nat.le_trans K15.1 sz_r16
  have g_r16 : n0 ≤ r16 := Nat.le_trans Z0 sz0_r16
  have N16 := Fr.app N15 N16q
  have K16 : Keep h0 T16.heap [] := K15.trans K16q (allS (Or.inr sz0_b9) all0)
  obtain ⟨T17, h17, X17, e17, E17, A17, D17, -, st17⟩ := newO X16 hx hZ hown (hw _ (List.mem_of_getElem? (i := 155) rfl)) (hw _ (List.mem_of_getElem? (i := 156) rfl)) (hw _ (List.mem_of_getElem? (i := 157) rfl)) rfl (g := (mkF m 61 #[.val (.int p0), .val (.int p1), .val (.int p2), .val (.ref b1), .val (.ref b9), .unset, .unset, .unset, .unset, .unset, .unset] [])) rfl (hb hby at_61) (by decide) (by decide)
  obtain ⟨b17, gg17⟩ : ∃ z, z = T16.heap.size := ⟨_, rfl⟩
  rw [← gg17] at A17 D17 st17
  have sz_b17 : T16.heap.size ≤ b17 := Nat.le_of_eq gg17.symm
  have sz0_b17 : h0.size ≤ b17 := Nat.le_trans K16.1 sz_b17
  have g_b17 : n0 ≤ b17 := Nat.le_trans Z0 sz0_b17
  have K17q : Keep T16.heap h17 [] := (Keep.refl _ []).ext E17
  have K17 : Keep h0 h17 [] := K16.ext E17
  have F17_signature : Fld Z h17 b17 "com/example/refleash/refleash/heap/Leak" "signature" "Ljava/lang/String;" .null := D17 (Or.inr (hw _ (List.mem_of_getElem? (i := 249) rfl))) (ty := (.object "java/lang/String")) (by decide)
  have F17_retainedBytes : Fld Z h17 b17 "com/example/refleash/refleash/heap/Leak" "retainedBytes" "J" (.long (0 : Int64)) := D17 (Or.inr (hw _ (List.mem_of_getElem? (i := 251) rfl))) (ty := .long) (by decide)
  have F17_trace : Fld Z h17 b17 "com/example/refleash/refleash/heap/Leak" "trace" "Lcom/example/refleash/refleash/heap/Trace;" .null := D17 (Or.inr (hw _ (List.mem_of_getElem? (i := 253) rfl))) (ty := (.object "com/example/refleash/refleash/heap/Trace")) (by decide)
  have F17_nodes : Fld Z h17 b17 "com/example/refleash/refleash/heap/Leak" "nodes" "Ljava/util/List;" .null := D17 (Or.inr (hw _ (List.mem_of_getElem? (i := 255) rfl))) (ty := (.object "java/util/List")) (by decide)
  have F17_firstSuspect : Fld Z h17 b17 "com/example/refleash/refleash/heap/Leak" "firstSuspect" "I" (.int (0 : Int32)) := D17 (Or.inr (hw _ (List.mem_of_getElem? (i := 257) rfl))) (ty := .int) (by decide)
  have F17_endSuspect : Fld Z h17 b17 "com/example/refleash/refleash/heap/Leak" "endSuspect" "I" (.int (0 : Int32)) := D17 (Or.inr (hw _ (List.mem_of_getElem? (i := 259) rfl))) (ty := .int) (by decide)
  have F17_objects : Fld Z h17 b17 "com/example/refleash/refleash/heap/Leak" "objects" "Ljava/util/List;" .null := D17 (Or.inr (hw _ (List.mem_of_getElem? (i := 261) rfl))) (ty := (.object "java/util/List")) (by decide)
  obtain ⟨a18, T18, h18, k18, X18, e18, E18, S18, hk18, hZ, hown, st18⟩ := ldcS (s := s) (vm0 := T14.vm) X17 hx hZ hown (hw _ (List.mem_of_getElem? (i := 158) rfl)) wS e17 S14 (Nat.le_trans (Nat.le_trans (Nat.le_trans hk14 K15q.1) K16q.1) K17q.1) (g := (mkF m 65 #[.val (.int p0), .val (.int p1), .val (.int p2), .val (.ref b1), .val (.ref b9), .unset, .unset, .unset, .unset, .unset, .unset] [(.ref b17), (.ref b17)])) rfl (hb hby at_65) (n := 4) (by decide) (by decide) (by decide) (by decide)
  have K18q : Keep h17 h18 [] := (Keep.refl _ []).ext E18
  have K18 : Keep h0 h18 [] := K17.ext E18
  obtain ⟨T19, h19, X19, e19, E19, A19, D19, -, st19⟩ := newO X18 hx hZ hown (hw _ (List.mem_of_getElem? (i := 40) rfl)) (hw _ (List.mem_of_getElem? (i := 41) rfl)) (hw _ (List.mem_of_getElem? (i := 42) rfl)) e18 (g := (mkF m 73 #[.val (.int p0), .val (.int p1), .val (.int p2), .val (.ref b1), .val (.ref b9), .unset, .unset, .unset, .unset, .unset, .unset] [(.int p1), (.int p0), (.ref b9), (.ref b1), (.long (0 : Int64)), (.ref a18), (.ref b17), (.ref b17)])) rfl (hb hby at_73) (by decide) (by decide)
  obtain ⟨b19, gg19⟩ : ∃ z, z = h18.size := ⟨_, rfl⟩
  rw [← gg19] at A19 D19 st19
  have sz_b19 : h18.size ≤ b19 := Nat.le_of_eq gg19.symm
  have sz0_b19 : h0.size ≤ b19 := Nat.le_trans K18.1 sz_b19
  have g_b19 : n0 ≤ b19 := Nat.le_trans Z0 sz0_b19
  have K19q : Keep h18 h19 [] := (Keep.refl _ []).ext E19
  have K19 : Keep h0 h19 [] := K18.ext E19
  have F19_modCount : Fld Z h19 b19 "java/util/AbstractList" "modCount" "I" (.int (0 : Int32)) := D19 (Or.inl (hw _ (List.mem_of_getElem? (i := 60) rfl))) (ty := .int) (by decide)
  have F19_elementData : Fld Z h19 b19 "java/util/ArrayList" "elementData" "[Ljava/lang/Object;" .null := D19 (Or.inl (hw _ (List.mem_of_getElem? (i := 63) rfl))) (ty := (.array (.object "java/lang/Object"))) (by decide)
  have F19_size : Fld Z h19 b19 "java/util/ArrayList" "size" "I" (.int (0 : Int32)) := D19 (Or.inl (hw _ (List.mem_of_getElem? (i := 93) rfl))) (ty := .int) (by decide)
  obtain ⟨_, _, ⟨T20, L20, k20, n20⟩, -, X20, ⟨Lc20, hQ20, l20, y20, z20⟩, st20⟩ := X19.specialBack hx (y := (⟨"java/util/ArrayList", "<init>", "()V"⟩ : MethodName)) rfl hown (mvT hZ (hw _ (List.mem_of_getElem? (i := 43) rfl))) (mvT hZ (hw _ (List.mem_of_getElem? (i := 44) rfl))) (mvT hZ (hw _ (List.mem_of_getElem? (i := 45) rfl))) (by decide) (backOf (W := 10) (al_init l Z a0 hw [] b19 w_dc h19 n0 (Nat.le_trans Z0 K19.1) F19_modCount F19_elementData F19_size A19 g_b19 (own_sta_keep S_dc K19)) hZ (hw _ (List.mem_of_getElem? (i := 45) rfl)) (hw _ (List.mem_of_getElem? (i := 42) rfl)) (by decide) (by decide)) (g := (mkF m 77 #[.val (.int p0), .val (.int p1), .val (.int p2), .val (.ref b1), .val (.ref b9), .unset, .unset, .unset, .unset, .unset, .unset] [(.ref b19), (.ref b19), (.int p1), (.int p0), (.ref b9), (.ref b1), (.long (0 : Int64)), (.ref a18), (.ref b17), (.ref b17)])) rfl (by rw [hml]; rfl) (Steps.refl _) (a := b19) (argsL := []) (rest := [(.ref b19), (.int p1), (.int p0), (.ref b9), (.ref b1), (.long (0 : Int64)), (.ref a18), (.ref b17), (.ref b17)]) (lenOf pd___V rfl) rfl (by show 2 * 0 + _ ≤ _; exact Nat.le_of_eq rfl) (hb hby at_77) (fun _ _ => ⟨rfl, e19, (by decide : 16 + 0 ≤ _), (by decide : 70 + 0 ≤ _)⟩)
  dsimp only [Pt.U, Pt.locs, Pt.cells, Pt.slots] at X20 l20 y20 z20 st20 hQ20
  subst l20 y20 z20
  obtain ⟨rfl, N20q, K20q, E20q, F20q_modCount, F20q_elementData, F20q_size⟩ := hQ20
  have N20 := Fr.app N16 N20q
  have K20 : Keep h0 T20.heap [] := K19.trans K20q (allS (Or.inr sz0_b19) all0)
  obtain ⟨_, _, ⟨T21, L21, k21, n21⟩, -, X21, ⟨Lc21, hQ21, l21, y21, z21⟩, st21⟩ := X20.specialBack hx (y := (⟨"com/example/refleash/refleash/heap/Leak", "<init>", "(Ljava/lang/String;JLcom/example/refleash/refleash/heap/Trace;Ljava/util/List;IILjava/util/List;)V"⟩ : MethodName)) rfl hown (mvT hZ (hw _ (List.mem_of_getElem? (i := 159) rfl))) (mvT hZ (hw _ (List.mem_of_getElem? (i := 160) rfl))) (mvT hZ (hw _ (List.mem_of_getElem? (i := 161) rfl))) (by decide) (backOf (W := 1) (leak_init l Z a0 hw [] b17 a18 (0 : Int64) b1 b9 p0 p1 b19 r16 b11 m_o w_el w_em w_ee k16r k_ee T20.heap n0 (Nat.le_trans Z0 K20.1) (((F17_signature.keep K18q nin0).keep K19q nin0).keep K20q (ninS (Nat.ne_of_lt (Nat.lt_of_lt_of_le (A17.keep K18q).lt sz_b19)) nin0)) (((F17_retainedBytes.keep K18q nin0).keep K19q nin0).keep K20q (ninS (Nat.ne_of_lt (Nat.lt_of_lt_of_le (A17.keep K18q).lt sz_b19)) nin0)) (((F17_trace.keep K18q nin0).keep K19q nin0).keep K20q (ninS (Nat.ne_of_lt (Nat.lt_of_lt_of_le (A17.keep K18q).lt sz_b19)) nin0)) (((F17_nodes.keep K18q nin0).keep K19q nin0).keep K20q (ninS (Nat.ne_of_lt (Nat.lt_of_lt_of_le (A17.keep K18q).lt sz_b19)) nin0)) (((F17_firstSuspect.keep K18q nin0).keep K19q nin0).keep K20q (ninS (Nat.ne_of_lt (Nat.lt_of_lt_of_le (A17.keep K18q).lt sz_b19)) nin0)) (((F17_endSuspect.keep K18q nin0).keep K19q nin0).keep K20q (ninS (Nat.ne_of_lt (Nat.lt_of_lt_of_le (A17.keep K18q).lt sz_b19)) nin0)) (((F17_objects.keep K18q nin0).keep K19q nin0).keep K20q (ninS (Nat.ne_of_lt (Nat.lt_of_lt_of_le (A17.keep K18q).lt sz_b19)) nin0)) (((A17.keep K18q).keep K19q).keep K20q) g_b17 (((((((((((E8q.keep K9q).keep K10q).keep K11q).keep K12q).keep K14q).keep K15q).keep K16q).keep K17q).keep K18q).keep K19q).keep K20q) (((((((((((F8q.keep K9q nin0).keep K10q (ninS (Nat.ne_of_lt (Nat.lt_of_lt_of_le E8q.lt sz_b9)) nin0)).keep K11q nin0).keep K12q nin0).keep K14q nin0).keep K15q (ninS (Nat.ne_of_lt (Nat.lt_of_lt_of_le ((E8q.keep K9q).keep K10q).lt sz_b11)) nin0)).keep K16q (ninS (Nat.ne_of_lt (Nat.lt_of_lt_of_le E8q.lt sz_b9)) nin0)).keep K17q nin0).keep K18q nin0).keep K19q nin0).keep K20q (ninS (Nat.ne_of_lt (Nat.lt_of_lt_of_le (((((((((E8q.keep K9q).keep K10q).keep K11q).keep K12q).keep K14q).keep K15q).keep K16q).keep K17q).keep K18q).lt sz_b19)) nin0)) ((((E16q.keep K17q).keep K18q).keep K19q).keep K20q) ((((F16q_elementData.keep K17q nin0).keep K18q nin0).keep K19q nin0).keep K20q (ninS (Nat.ne_of_lt (Nat.lt_of_lt_of_le ((E16q.keep K17q).keep K18q).lt sz_b19)) nin0)) ((((F16q_size.keep K17q nin0).keep K18q nin0).keep K19q nin0).keep K20q (ninS (Nat.ne_of_lt (Nat.lt_of_lt_of_le ((E16q.keep K17q).keep K18q).lt sz_b19)) nin0)) ((((E16r.keep K17q).keep K18q).keep K19q).keep K20q) ((((V16q.keep K17q nin0).keep K18q nin0).keep K19q nin0).keep K20q (ninS (Nat.ne_of_lt (Nat.lt_of_lt_of_le ((E16r.keep K17q).keep K18q).lt sz_b19)) nin0)) (own_obj (((((E15q.keep K16q).keep K17q).keep K18q).keep K19q).keep K20q) (hw _ (List.mem_of_getElem? (i := 154) rfl))) E20q F20q_size (own_sta_keep S_el K20) (own_sta_keep S_em K20) ((((((((((((((((((E_el.keep K1q).keep K2q).keep K4q).keep K5q).keep K6q).keep K7q).keep K8q).keep K9q).keep K10q).keep K11q).keep K12q).keep K14q).keep K15q).keep K16q).keep K17q).keep K18q).keep K19q).keep K20q) ((((((((((((((((((F_el.keep K1q nin0).keep K2q nin0).keep K4q nin0).keep K5q (ninS (Nat.ne_of_lt (Nat.lt_of_lt_of_le (E_el.keep K1q).lt sz_b2)) nin0)).keep K6q nin0).keep K7q (ninS (Nat.ne_of_lt (Nat.lt_of_lt_of_le ((((E_el.keep K1q).keep K2q).keep K4q).keep K5q).lt sz_b6)) nin0)).keep K8q (ninS (Nat.ne_of_lt (Nat.lt_of_lt_of_le E_el.lt sz_b1)) nin0)).keep K9q nin0).keep K10q (ninS (Nat.ne_of_lt (Nat.lt_of_lt_of_le (((((((E_el.keep K1q).keep K2q).keep K4q).keep K5q).keep K6q).keep K7q).keep K8q).lt sz_b9)) nin0)).keep K11q nin0).keep K12q nin0).keep K14q nin0).keep K15q (ninS (Nat.ne_of_lt (Nat.lt_of_lt_of_le (((((((((E_el.keep K1q).keep K2q).keep K4q).keep K5q).keep K6q).keep K7q).keep K8q).keep K9q).keep K10q).lt sz_b11)) nin0)).keep K16q (ninS (Nat.ne_of_lt (Nat.lt_of_lt_of_le (((((((E_el.keep K1q).keep K2q).keep K4q).keep K5q).keep K6q).keep K7q).keep K8q).lt sz_b9)) nin0)).keep K17q nin0).keep K18q nin0).keep K19q nin0).keep K20q (ninS (Nat.ne_of_lt (Nat.lt_of_lt_of_le ((((((((((((((((E_el.keep K1q).keep K2q).keep K4q).keep K5q).keep K6q).keep K7q).keep K8q).keep K9q).keep K10q).keep K11q).keep K12q).keep K14q).keep K15q).keep K16q).keep K17q).keep K18q).lt sz_b19)) nin0)) ((((((((((((((((((V_ee.keep K1q nin0).keep K2q nin0).keep K4q nin0).keep K5q (ninS (Nat.ne_of_lt (Nat.lt_of_lt_of_le (V_ee.keep K1q nin0).lt sz_b2)) nin0)).keep K6q nin0).keep K7q (ninS (Nat.ne_of_lt (Nat.lt_of_lt_of_le ((((V_ee.keep K1q nin0).keep K2q nin0).keep K4q nin0).keep K5q (ninS (Nat.ne_of_lt (Nat.lt_of_lt_of_le (V_ee.keep K1q nin0).lt sz_b2)) nin0)).lt sz_b6)) nin0)).keep K8q (ninS (Nat.ne_of_lt (Nat.lt_of_lt_of_le V_ee.lt sz_b1)) nin0)).keep K9q nin0).keep K10q (ninS (Nat.ne_of_lt (Nat.lt_of_lt_of_le (((((((V_ee.keep K1q nin0).keep K2q nin0).keep K4q nin0).keep K5q (ninS (Nat.ne_of_lt (Nat.lt_of_lt_of_le (V_ee.keep K1q nin0).lt sz_b2)) nin0)).keep K6q nin0).keep K7q (ninS (Nat.ne_of_lt (Nat.lt_of_lt_of_le ((((V_ee.keep K1q nin0).keep K2q nin0).keep K4q nin0).keep K5q (ninS (Nat.ne_of_lt (Nat.lt_of_lt_of_le (V_ee.keep K1q nin0).lt sz_b2)) nin0)).lt sz_b6)) nin0)).keep K8q (ninS (Nat.ne_of_lt (Nat.lt_of_lt_of_le V_ee.lt sz_b1)) nin0)).lt sz_b9)) nin0)).keep K11q nin0).keep K12q nin0).keep K14q nin0).keep K15q (ninS (Nat.ne_of_lt (Nat.lt_of_lt_of_le (((((((((V_ee.keep K1q nin0).keep K2q nin0).keep K4q nin0).keep K5q (ninS (Nat.ne_of_lt (Nat.lt_of_lt_of_le (V_ee.keep K1q nin0).lt sz_b2)) nin0)).keep K6q nin0).keep K7q (ninS (Nat.ne_of_lt (Nat.lt_of_lt_of_le ((((V_ee.keep K1q nin0).keep K2q nin0).keep K4q nin0).keep K5q (ninS (Nat.ne_of_lt (Nat.lt_of_lt_of_le (V_ee.keep K1q nin0).lt sz_b2)) nin0)).lt sz_b6)) nin0)).keep K8q (ninS (Nat.ne_of_lt (Nat.lt_of_lt_of_le V_ee.lt sz_b1)) nin0)).keep K9q nin0).keep K10q (ninS (Nat.ne_of_lt (Nat.lt_of_lt_of_le (((((((V_ee.keep K1q nin0).keep K2q nin0).keep K4q nin0).keep K5q (ninS (Nat.ne_of_lt (Nat.lt_of_lt_of_le (V_ee.keep K1q nin0).lt sz_b2)) nin0)).keep K6q nin0).keep K7q (ninS (Nat.ne_of_lt (Nat.lt_of_lt_of_le ((((V_ee.keep K1q nin0).keep K2q nin0).keep K4q nin0).keep K5q (ninS (Nat.ne_of_lt (Nat.lt_of_lt_of_le (V_ee.keep K1q nin0).lt sz_b2)) nin0)).lt sz_b6)) nin0)).keep K8q (ninS (Nat.ne_of_lt (Nat.lt_of_lt_of_le V_ee.lt sz_b1)) nin0)).lt sz_b9)) nin0)).lt sz_b11)) nin0)).keep K16q (ninS (Nat.ne_of_lt (Nat.lt_of_lt_of_le (((((((V_ee.keep K1q nin0).keep K2q nin0).keep K4q nin0).keep K5q (ninS (Nat.ne_of_lt (Nat.lt_of_lt_of_le (V_ee.keep K1q nin0).lt sz_b2)) nin0)).keep K6q nin0).keep K7q (ninS (Nat.ne_of_lt (Nat.lt_of_lt_of_le ((((V_ee.keep K1q nin0).keep K2q nin0).keep K4q nin0).keep K5q (ninS (Nat.ne_of_lt (Nat.lt_of_lt_of_le (V_ee.keep K1q nin0).lt sz_b2)) nin0)).lt sz_b6)) nin0)).keep K8q (ninS (Nat.ne_of_lt (Nat.lt_of_lt_of_le V_ee.lt sz_b1)) nin0)).lt sz_b9)) nin0)).keep K17q nin0).keep K18q nin0).keep K19q nin0).keep K20q (ninS (Nat.ne_of_lt (Nat.lt_of_lt_of_le ((((((((((((((((V_ee.keep K1q nin0).keep K2q nin0).keep K4q nin0).keep K5q (ninS (Nat.ne_of_lt (Nat.lt_of_lt_of_le (V_ee.keep K1q nin0).lt sz_b2)) nin0)).keep K6q nin0).keep K7q (ninS (Nat.ne_of_lt (Nat.lt_of_lt_of_le ((((V_ee.keep K1q nin0).keep K2q nin0).keep K4q nin0).keep K5q (ninS (Nat.ne_of_lt (Nat.lt_of_lt_of_le (V_ee.keep K1q nin0).lt sz_b2)) nin0)).lt sz_b6)) nin0)).keep K8q (ninS (Nat.ne_of_lt (Nat.lt_of_lt_of_le V_ee.lt sz_b1)) nin0)).keep K9q nin0).keep K10q (ninS (Nat.ne_of_lt (Nat.lt_of_lt_of_le (((((((V_ee.keep K1q nin0).keep K2q nin0).keep K4q nin0).keep K5q (ninS (Nat.ne_of_lt (Nat.lt_of_lt_of_le (V_ee.keep K1q nin0).lt sz_b2)) nin0)).keep K6q nin0).keep K7q (ninS (Nat.ne_of_lt (Nat.lt_of_lt_of_le ((((V_ee.keep K1q nin0).keep K2q nin0).keep K4q nin0).keep K5q (ninS (Nat.ne_of_lt (Nat.lt_of_lt_of_le (V_ee.keep K1q nin0).lt sz_b2)) nin0)).lt sz_b6)) nin0)).keep K8q (ninS (Nat.ne_of_lt (Nat.lt_of_lt_of_le V_ee.lt sz_b1)) nin0)).lt sz_b9)) nin0)).keep K11q nin0).keep K12q nin0).keep K14q nin0).keep K15q (ninS (Nat.ne_of_lt (Nat.lt_of_lt_of_le (((((((((V_ee.keep K1q nin0).keep K2q nin0).keep K4q nin0).keep K5q (ninS (Nat.ne_of_lt (Nat.lt_of_lt_of_le (V_ee.keep K1q nin0).lt sz_b2)) nin0)).keep K6q nin0).keep K7q (ninS (Nat.ne_of_lt (Nat.lt_of_lt_of_le ((((V_ee.keep K1q nin0).keep K2q nin0).keep K4q nin0).keep K5q (ninS (Nat.ne_of_lt (Nat.lt_of_lt_of_le (V_ee.keep K1q nin0).lt sz_b2)) nin0)).lt sz_b6)) nin0)).keep K8q (ninS (Nat.ne_of_lt (Nat.lt_of_lt_of_le V_ee.lt sz_b1)) nin0)).keep K9q nin0).keep K10q (ninS (Nat.ne_of_lt (Nat.lt_of_lt_of_le (((((((V_ee.keep K1q nin0).keep K2q nin0).keep K4q nin0).keep K5q (ninS (Nat.ne_of_lt (Nat.lt_of_lt_of_le (V_ee.keep K1q nin0).lt sz_b2)) nin0)).keep K6q nin0).keep K7q (ninS (Nat.ne_of_lt (Nat.lt_of_lt_of_le ((((V_ee.keep K1q nin0).keep K2q nin0).keep K4q nin0).keep K5q (ninS (Nat.ne_of_lt (Nat.lt_of_lt_of_le (V_ee.keep K1q nin0).lt sz_b2)) nin0)).lt sz_b6)) nin0)).keep K8q (ninS (Nat.ne_of_lt (Nat.lt_of_lt_of_le V_ee.lt sz_b1)) nin0)).lt sz_b9)) nin0)).lt sz_b11)) nin0)).keep K16q (ninS (Nat.ne_of_lt (Nat.lt_of_lt_of_le (((((((V_ee.keep K1q nin0).keep K2q nin0).keep K4q nin0).keep K5q (ninS (Nat.ne_of_lt (Nat.lt_of_lt_of_le (V_ee.keep K1q nin0).lt sz_b2)) nin0)).keep K6q nin0).keep K7q (ninS (Nat.ne_of_lt (Nat.lt_of_lt_of_le ((((V_ee.keep K1q nin0).keep K2q nin0).keep K4q nin0).keep K5q (ninS (Nat.ne_of_lt (Nat.lt_of_lt_of_le (V_ee.keep K1q nin0).lt sz_b2)) nin0)).lt sz_b6)) nin0)).keep K8q (ninS (Nat.ne_of_lt (Nat.lt_of_lt_of_le V_ee.lt sz_b1)) nin0)).lt sz_b9)) nin0)).keep K17q nin0).keep K18q nin0).lt sz_b19)) nin0)) M_o) hZ (hw _ (List.mem_of_getElem? (i := 161) rfl)) (hw _ (List.mem_of_getElem? (i := 157) rfl)) (by decide) (by decide)) (g := (mkF m 80 #[.val (.int p0), .val (.int p1), .val (.int p2), .val (.ref b1), .val (.ref b9), .unset, .unset, .unset, .unset, .unset, .unset] [(.ref b19), (.int p1), (.int p0), (.ref b9), (.ref b1), (.long (0 : Int64)), (.ref a18), (.ref b17), (.ref b17)])) rfl (by rw [hml]; rfl) (Steps.refl _) (a := b17) (argsL := [(.ref a18), (.long (0 : Int64)), (.ref b1), (.ref b9), (.int p0), (.int p1), (.ref b19)]) (rest := [(.ref b17)]) (lenOf pd__Ljava_lang_String_JLcom_example_refleash_refleash_heap_Trace_Ljava_util_List_IILjava_util_List__V rfl) rfl (by show 2 * 0 + _ ≤ _; exact Nat.le_of_eq rfl) (hb hby at_80) (fun _ _ => ⟨rfl, rfl, (by decide : 16 + 2 ≤ _), (by decide : 70 + 3 ≤ _)⟩)
  dsimp only [Pt.U, Pt.locs, Pt.cells, Pt.slots] at X21 l21 y21 z21 st21 hQ21
  subst l21 y21 z21
  obtain ⟨rfl, N21q, K21q, E21q, F21qf, F21qe⟩ := hQ21
  have N21 := Fr.app N20 N21q
  have K21 : Keep h0 T21.heap [] := K20.trans K21q (allS (Or.inr sz0_b17) all0)
  obtain ⟨cq22, kq22, q22a, q22b, q22c⟩ := isOf hZ rfl E21q
  obtain ⟨_, _, ⟨T22, L22, k22, n22⟩, -, X22, ⟨Lc22, hQ22, l22, y22, z22⟩, st22⟩ := X21.virtualBack hx (y := (⟨"com/example/refleash/refleash/heap/Leak", "isSuspect", "(I)Z"⟩ : MethodName)) (z := (⟨"com/example/refleash/refleash/heap/Leak", "isSuspect", "(I)Z"⟩ : MethodName)) hown (mvT hZ (hw _ (List.mem_of_getElem? (i := 262) rfl))) (mvT hZ (hw _ (List.mem_of_getElem? (i := 263) rfl))) (notFace_of_selects (args := #[]) (mvT hZ (hw _ (List.mem_of_getElem? (i := 265) rfl)))) (mvT hZ (hw _ (List.mem_of_getElem? (i := 265) rfl))) (mvT hZ (hw _ (List.mem_of_getElem? (i := 264) rfl))) (by decide) (backOf (W := 0) (susp_0 l Z a0 hw [] b17 p2 p0 p1 T21.heap n0 (Nat.le_trans Z0 K21.1) F21qf F21qe (Or.inr hB)) hZ (hw _ (List.mem_of_getElem? (i := 266) rfl)) (hw _ (List.mem_of_getElem? (i := 157) rfl)) (by decide) (by decide)) q22a q22c (g := (mkF m 124 #[.val (.int p0), .val (.int p1), .val (.int p2), .val (.ref b1), .val (.ref b9), .val (.ref b17), .val (.long ((p2.toInt64) - (p0.toInt64))), .second, .val (.long ((p1.toInt64) - (p0.toInt64))), .second, .val (.int (0 : Int32))] [(.int p2), (.ref b17)])) rfl (by rw [hml]; rfl) (Steps.refl _) (argsL := [(.int p2)]) (rest := []) (lenOf pd__I_Z rfl) rfl (by show 2 * 0 + _ ≤ _; exact Nat.le_of_eq rfl) (hb hby at_124) (fun _ _ => ⟨rfl, rfl, (by decide : 18 + 0 ≤ _), (by decide : 73 + 0 ≤ _)⟩)
  dsimp only [Pt.U, Pt.locs, Pt.cells, Pt.slots] at X22 l22 y22 z22 st22 hQ22
  subst l22 y22 z22
  obtain ⟨rfl, N22q, e22⟩ := hQ22
  have N22 := Fr.app N21 N22q
  obtain ⟨cq23, kq23, q23a, q23b, q23c⟩ := isOf hZ e22 E21q
  obtain ⟨_, _, ⟨T23, L23, k23, n23⟩, -, X23, ⟨Lc23, hQ23, l23, y23, z23⟩, st23⟩ := X22.virtualBack hx (y := (⟨"com/example/refleash/refleash/heap/Leak", "isSuspect", "(I)Z"⟩ : MethodName)) (z := (⟨"com/example/refleash/refleash/heap/Leak", "isSuspect", "(I)Z"⟩ : MethodName)) hown (mvT hZ (hw _ (List.mem_of_getElem? (i := 262) rfl))) (mvT hZ (hw _ (List.mem_of_getElem? (i := 263) rfl))) (notFace_of_selects (args := #[]) (mvT hZ (hw _ (List.mem_of_getElem? (i := 265) rfl)))) (mvT hZ (hw _ (List.mem_of_getElem? (i := 265) rfl))) (mvT hZ (hw _ (List.mem_of_getElem? (i := 264) rfl))) (by decide) (backOf (W := 0) (susp_0 l Z a0 hw [] b17 p1 p0 p1 T21.heap n0 (Nat.le_trans Z0 K21.1) F21qf F21qe (Or.inr (own_irr p1))) hZ (hw _ (List.mem_of_getElem? (i := 266) rfl)) (hw _ (List.mem_of_getElem? (i := 157) rfl)) (by decide) (by decide)) q23a q23c (g := (mkF m 135 #[.val (.int p0), .val (.int p1), .val (.int p2), .val (.ref b1), .val (.ref b9), .val (.ref b17), .val (.long ((p2.toInt64) - (p0.toInt64))), .second, .val (.long ((p1.toInt64) - (p0.toInt64))), .second, .val (.int (0 : Int32))] [(.int p1), (.ref b17)])) rfl (by rw [hml]; rfl) (Steps.refl _) (argsL := [(.int p1)]) (rest := []) (lenOf pd__I_Z rfl) rfl (by show 2 * 0 + _ ≤ _; exact Nat.le_of_eq rfl) (hb hby at_135) (fun _ _ => ⟨rfl, e22, (by decide : 18 + 0 ≤ _), (by decide : 73 + 0 ≤ _)⟩)
  dsimp only [Pt.U, Pt.locs, Pt.cells, Pt.slots] at X23 l23 y23 z23 st23 hQ23
  subst l23 y23 z23
  obtain ⟨rfl, N23q, e23⟩ := hQ23
  have N23 := Fr.app N22 N23q
  obtain ⟨cq24, kq24, q24a, q24b, q24c⟩ := isOf hZ e23 E21q
  obtain ⟨_, _, ⟨T24, L24, k24, n24⟩, -, X24, ⟨Lc24, hQ24, l24, y24, z24⟩, st24⟩ := X23.virtualBack hx (y := (⟨"com/example/refleash/refleash/heap/Leak", "isSuspect", "(I)Z"⟩ : MethodName)) (z := (⟨"com/example/refleash/refleash/heap/Leak", "isSuspect", "(I)Z"⟩ : MethodName)) hown (mvT hZ (hw _ (List.mem_of_getElem? (i := 262) rfl))) (mvT hZ (hw _ (List.mem_of_getElem? (i := 263) rfl))) (notFace_of_selects (args := #[]) (mvT hZ (hw _ (List.mem_of_getElem? (i := 265) rfl)))) (mvT hZ (hw _ (List.mem_of_getElem? (i := 265) rfl))) (mvT hZ (hw _ (List.mem_of_getElem? (i := 264) rfl))) (by decide) (backOf (W := 0) (susp_1 l Z a0 hw [] b17 p0 p0 p1 T21.heap n0 (Nat.le_trans Z0 K21.1) F21qf F21qe (own_irr p0) hD) hZ (hw _ (List.mem_of_getElem? (i := 266) rfl)) (hw _ (List.mem_of_getElem? (i := 157) rfl)) (by decide) (by decide)) q24a q24c (g := (mkF m 144 #[.val (.int p0), .val (.int p1), .val (.int p2), .val (.ref b1), .val (.ref b9), .val (.ref b17), .val (.long ((p2.toInt64) - (p0.toInt64))), .second, .val (.long ((p1.toInt64) - (p0.toInt64))), .second, .val (.int (0 : Int32))] [(.int p0), (.ref b17)])) rfl (by rw [hml]; rfl) (Steps.refl _) (argsL := [(.int p0)]) (rest := []) (lenOf pd__I_Z rfl) rfl (by show 2 * 0 + _ ≤ _; exact Nat.le_of_eq rfl) (hb hby at_144) (fun _ _ => ⟨rfl, e23, (by decide : 18 + 0 ≤ _), (by decide : 73 + 0 ≤ _)⟩)
  dsimp only [Pt.U, Pt.locs, Pt.cells, Pt.slots] at X24 l24 y24 z24 st24 hQ24
  subst l24 y24 z24
  obtain ⟨rfl, N24q, e24⟩ := hQ24
  have N24 := Fr.app N23 N24q
  obtain ⟨fs, hr, hrun, hended, hEnd⟩ := leaveW X24 S18 (by rw [e24]; exact (Nat.le_trans (Nat.le_trans (Nat.le_trans hk18 K19q.1) K20q.1) K21q.1)) (v := some (.int (1 : Int32))) (fun h => by rw [Bd.returns] at h; cases h) Bd.notSynchronized
  refine ⟨_, _, pre0 _ ?_, hrun, hended, _, _, rfl, ?_, hEnd.1, hEnd.2.1, hEnd.2.2.1, hEnd.2.2.2.mono (by decide) (by decide)⟩
  · show Steps p.tables e below (s₁.setTop (mkF m 0 #[.val (.int p0), .val (.int p1), .val (.int p2), .unset, .unset, .unset, .unset, .unset, .unset, .unset, .unset] [])) _
    refine st1 _ ?_
    show Steps p.tables e below (T1.setTop (mkF m 3 #[.val (.int p0), .val (.int p1), .val (.int p2), .unset, .unset, .unset, .unset, .unset, .unset, .unset, .unset] [(.ref b1)])) _
    refine XS.dup X1.here hx rfl (hb hby at_3) rfl rfl ?_
    show Steps p.tables e below (T1.setTop (mkF m 4 #[.val (.int p0), .val (.int p1), .val (.int p2), .unset, .unset, .unset, .unset, .unset, .unset, .unset, .unset] [(.ref b1), (.ref b1)])) _
    refine XS.lconst X1.here hx rfl (hb hby at_4) ?_
    show Steps p.tables e below (T1.setTop (mkF m 5 #[.val (.int p0), .val (.int p1), .val (.int p2), .unset, .unset, .unset, .unset, .unset, .unset, .unset, .unset] [(.long (0 : Int64)), (.ref b1), (.ref b1)])) _
    refine st2 _ ?_
    show Steps p.tables e below (T2.setTop (mkF m 8 #[.val (.int p0), .val (.int p1), .val (.int p2), .unset, .unset, .unset, .unset, .unset, .unset, .unset, .unset] [(.ref b2), (.long (0 : Int64)), (.ref b1), (.ref b1)])) _
    refine XS.dup X2.here hx rfl (hb hby at_8) rfl rfl ?_
    show Steps p.tables e below (T2.setTop (mkF m 9 #[.val (.int p0), .val (.int p1), .val (.int p2), .unset, .unset, .unset, .unset, .unset, .unset, .unset, .unset] [(.ref b2), (.ref b2), (.long (0 : Int64)), (.ref b1), (.ref b1)])) _
    refine st3 _ ?_
    show Steps p.tables e below (T3.setTop (mkF m 12 #[.val (.int p0), .val (.int p1), .val (.int p2), .unset, .unset, .unset, .unset, .unset, .unset, .unset, .unset] [(.ref w_CLASS), (.ref b2), (.ref b2), (.long (0 : Int64)), (.ref b1), (.ref b1)])) _
    refine st4 _ ?_
    show Steps p.tables e below (T4.setTop (mkF m 14 #[.val (.int p0), .val (.int p1), .val (.int p2), .unset, .unset, .unset, .unset, .unset, .unset, .unset, .unset] [(.ref a4), (.ref w_CLASS), (.ref b2), (.ref b2), (.long (0 : Int64)), (.ref b1), (.ref b1)])) _
    refine XS.aconstNull X4.here hx rfl (hb hby at_14) ?_
    show Steps p.tables e below (T4.setTop (mkF m 15 #[.val (.int p0), .val (.int p1), .val (.int p2), .unset, .unset, .unset, .unset, .unset, .unset, .unset, .unset] [.null, (.ref a4), (.ref w_CLASS), (.ref b2), (.ref b2), (.long (0 : Int64)), (.ref b1), (.ref b1)])) _
    refine XS.aconstNull X4.here hx rfl (hb hby at_15) ?_
    show Steps p.tables e below (T4.setTop (mkF m 16 #[.val (.int p0), .val (.int p1), .val (.int p2), .unset, .unset, .unset, .unset, .unset, .unset, .unset, .unset] [.null, .null, (.ref a4), (.ref w_CLASS), (.ref b2), (.ref b2), (.long (0 : Int64)), (.ref b1), (.ref b1)])) _
    refine st5.trans ?_
    show Steps p.tables e below (T5.setTop (mkF m 19 #[.val (.int p0), .val (.int p1), .val (.int p2), .unset, .unset, .unset, .unset, .unset, .unset, .unset, .unset] [(.ref b2), (.long (0 : Int64)), (.ref b1), (.ref b1)])) _
    refine st6 _ ?_
    show Steps p.tables e below (T6.setTop (mkF m 22 #[.val (.int p0), .val (.int p1), .val (.int p2), .unset, .unset, .unset, .unset, .unset, .unset, .unset, .unset] [(.ref b6), (.ref b2), (.long (0 : Int64)), (.ref b1), (.ref b1)])) _
    refine XS.dup X6.here hx rfl (hb hby at_22) rfl rfl ?_
    show Steps p.tables e below (T6.setTop (mkF m 23 #[.val (.int p0), .val (.int p1), .val (.int p2), .unset, .unset, .unset, .unset, .unset, .unset, .unset, .unset] [(.ref b6), (.ref b6), (.ref b2), (.long (0 : Int64)), (.ref b1), (.ref b1)])) _
    refine st7.trans ?_
    show Steps p.tables e below (T7.setTop (mkF m 26 #[.val (.int p0), .val (.int p1), .val (.int p2), .unset, .unset, .unset, .unset, .unset, .unset, .unset, .unset] [(.ref b6), (.ref b2), (.long (0 : Int64)), (.ref b1), (.ref b1)])) _
    refine XS.lconst X7.here hx rfl (hb hby at_26) ?_
    show Steps p.tables e below (T7.setTop (mkF m 27 #[.val (.int p0), .val (.int p1), .val (.int p2), .unset, .unset, .unset, .unset, .unset, .unset, .unset, .unset] [(.long (0 : Int64)), (.ref b6), (.ref b2), (.long (0 : Int64)), (.ref b1), (.ref b1)])) _
    refine XS.lconst X7.here hx rfl (hb hby at_27) ?_
    show Steps p.tables e below (T7.setTop (mkF m 28 #[.val (.int p0), .val (.int p1), .val (.int p2), .unset, .unset, .unset, .unset, .unset, .unset, .unset, .unset] [(.long (0 : Int64)), (.long (0 : Int64)), (.ref b6), (.ref b2), (.long (0 : Int64)), (.ref b1), (.ref b1)])) _
    refine st8.trans ?_
    show Steps p.tables e below (T8.setTop (mkF m 31 #[.val (.int p0), .val (.int p1), .val (.int p2), .unset, .unset, .unset, .unset, .unset, .unset, .unset, .unset] [(.ref b1)])) _
    refine XS.astoreN X8.here hx rfl (hb hby at_31) rfl rfl (l' := #[.val (.int p0), .val (.int p1), .val (.int p2), .val (.ref b1), .unset, .unset, .unset, .unset, .unset, .unset, .unset]) rfl ?_
    show Steps p.tables e below (T8.setTop (mkF m 32 #[.val (.int p0), .val (.int p1), .val (.int p2), .val (.ref b1), .unset, .unset, .unset, .unset, .unset, .unset, .unset] [])) _
    refine st9 _ ?_
    show Steps p.tables e below (T9.setTop (mkF m 35 #[.val (.int p0), .val (.int p1), .val (.int p2), .val (.ref b1), .unset, .unset, .unset, .unset, .unset, .unset, .unset] [(.ref b9)])) _
    refine XS.dup X9.here hx rfl (hb hby at_35) rfl rfl ?_
    show Steps p.tables e below (T9.setTop (mkF m 36 #[.val (.int p0), .val (.int p1), .val (.int p2), .val (.ref b1), .unset, .unset, .unset, .unset, .unset, .unset, .unset] [(.ref b9), (.ref b9)])) _
    refine st10.trans ?_
    show Steps p.tables e below (T10.setTop (mkF m 39 #[.val (.int p0), .val (.int p1), .val (.int p2), .val (.ref b1), .unset, .unset, .unset, .unset, .unset, .unset, .unset] [(.ref b9)])) _
    refine XS.astore X10.here hx rfl (hb hby at_39) rfl rfl (l' := #[.val (.int p0), .val (.int p1), .val (.int p2), .val (.ref b1), .val (.ref b9), .unset, .unset, .unset, .unset, .unset, .unset]) rfl ?_
    show Steps p.tables e below (T10.setTop (mkF m 41 #[.val (.int p0), .val (.int p1), .val (.int p2), .val (.ref b1), .val (.ref b9), .unset, .unset, .unset, .unset, .unset, .unset] [])) _
    refine XS.aload X10.here hx rfl (hb hby at_41) rfl rfl ?_
    show Steps p.tables e below (T10.setTop (mkF m 43 #[.val (.int p0), .val (.int p1), .val (.int p2), .val (.ref b1), .val (.ref b9), .unset, .unset, .unset, .unset, .unset, .unset] [(.ref b9)])) _
    refine st11 _ ?_
    show Steps p.tables e below (T11.setTop (mkF m 46 #[.val (.int p0), .val (.int p1), .val (.int p2), .val (.ref b1), .val (.ref b9), .unset, .unset, .unset, .unset, .unset, .unset] [(.ref b11), (.ref b9)])) _
    refine XS.dup X11.here hx rfl (hb hby at_46) rfl rfl ?_
    show Steps p.tables e below (T11.setTop (mkF m 47 #[.val (.int p0), .val (.int p1), .val (.int p2), .val (.ref b1), .val (.ref b9), .unset, .unset, .unset, .unset, .unset, .unset] [(.ref b11), (.ref b11), (.ref b9)])) _
    refine st12 _ ?_
    show Steps p.tables e below (T12.setTop (mkF m 49 #[.val (.int p0), .val (.int p1), .val (.int p2), .val (.ref b1), .val (.ref b9), .unset, .unset, .unset, .unset, .unset, .unset] [(.ref a12), (.ref b11), (.ref b11), (.ref b9)])) _
    refine st13 _ ?_
    show Steps p.tables e below (T13.setTop (mkF m 52 #[.val (.int p0), .val (.int p1), .val (.int p2), .val (.ref b1), .val (.ref b9), .unset, .unset, .unset, .unset, .unset, .unset] [(.ref w_UNKNOWN), (.ref a12), (.ref b11), (.ref b11), (.ref b9)])) _
    refine st14 _ ?_
    show Steps p.tables e below (T14.setTop (mkF m 54 #[.val (.int p0), .val (.int p1), .val (.int p2), .val (.ref b1), .val (.ref b9), .unset, .unset, .unset, .unset, .unset, .unset] [(.ref a14), (.ref w_UNKNOWN), (.ref a12), (.ref b11), (.ref b11), (.ref b9)])) _
    refine st15.trans ?_
    show Steps p.tables e below (T15.setTop (mkF m 57 #[.val (.int p0), .val (.int p1), .val (.int p2), .val (.ref b1), .val (.ref b9), .unset, .unset, .unset, .unset, .unset, .unset] [(.ref b11), (.ref b9)])) _
    refine st16.trans ?_
    show Steps p.tables e below (T16.setTop (mkF m 60 #[.val (.int p0), .val (.int p1), .val (.int p2), .val (.ref b1), .val (.ref b9), .unset, .unset, .unset, .unset, .unset, .unset] [(.int (1 : Int32))])) _
    refine XS.pop X16.here hx rfl (hb hby at_60) rfl rfl ?_
    show Steps p.tables e below (T16.setTop (mkF m 61 #[.val (.int p0), .val (.int p1), .val (.int p2), .val (.ref b1), .val (.ref b9), .unset, .unset, .unset, .unset, .unset, .unset] [])) _
    refine st17 _ ?_
    show Steps p.tables e below (T17.setTop (mkF m 64 #[.val (.int p0), .val (.int p1), .val (.int p2), .val (.ref b1), .val (.ref b9), .unset, .unset, .unset, .unset, .unset, .unset] [(.ref b17)])) _
    refine XS.dup X17.here hx rfl (hb hby at_64) rfl rfl ?_
    show Steps p.tables e below (T17.setTop (mkF m 65 #[.val (.int p0), .val (.int p1), .val (.int p2), .val (.ref b1), .val (.ref b9), .unset, .unset, .unset, .unset, .unset, .unset] [(.ref b17), (.ref b17)])) _
    refine st18 _ ?_
    show Steps p.tables e below (T18.setTop (mkF m 67 #[.val (.int p0), .val (.int p1), .val (.int p2), .val (.ref b1), .val (.ref b9), .unset, .unset, .unset, .unset, .unset, .unset] [(.ref a18), (.ref b17), (.ref b17)])) _
    refine XS.lconst X18.here hx rfl (hb hby at_67) ?_
    show Steps p.tables e below (T18.setTop (mkF m 68 #[.val (.int p0), .val (.int p1), .val (.int p2), .val (.ref b1), .val (.ref b9), .unset, .unset, .unset, .unset, .unset, .unset] [(.long (0 : Int64)), (.ref a18), (.ref b17), (.ref b17)])) _
    refine XS.aloadN X18.here hx rfl (hb hby at_68) rfl rfl ?_
    show Steps p.tables e below (T18.setTop (mkF m 69 #[.val (.int p0), .val (.int p1), .val (.int p2), .val (.ref b1), .val (.ref b9), .unset, .unset, .unset, .unset, .unset, .unset] [(.ref b1), (.long (0 : Int64)), (.ref a18), (.ref b17), (.ref b17)])) _
    refine XS.aload X18.here hx rfl (hb hby at_69) rfl rfl ?_
    show Steps p.tables e below (T18.setTop (mkF m 71 #[.val (.int p0), .val (.int p1), .val (.int p2), .val (.ref b1), .val (.ref b9), .unset, .unset, .unset, .unset, .unset, .unset] [(.ref b9), (.ref b1), (.long (0 : Int64)), (.ref a18), (.ref b17), (.ref b17)])) _
    refine XS.iloadN X18.here hx rfl (hb hby at_71) rfl ?_
    show Steps p.tables e below (T18.setTop (mkF m 72 #[.val (.int p0), .val (.int p1), .val (.int p2), .val (.ref b1), .val (.ref b9), .unset, .unset, .unset, .unset, .unset, .unset] [(.int p0), (.ref b9), (.ref b1), (.long (0 : Int64)), (.ref a18), (.ref b17), (.ref b17)])) _
    refine XS.iloadN X18.here hx rfl (hb hby at_72) rfl ?_
    show Steps p.tables e below (T18.setTop (mkF m 73 #[.val (.int p0), .val (.int p1), .val (.int p2), .val (.ref b1), .val (.ref b9), .unset, .unset, .unset, .unset, .unset, .unset] [(.int p1), (.int p0), (.ref b9), (.ref b1), (.long (0 : Int64)), (.ref a18), (.ref b17), (.ref b17)])) _
    refine st19 _ ?_
    show Steps p.tables e below (T19.setTop (mkF m 76 #[.val (.int p0), .val (.int p1), .val (.int p2), .val (.ref b1), .val (.ref b9), .unset, .unset, .unset, .unset, .unset, .unset] [(.ref b19), (.int p1), (.int p0), (.ref b9), (.ref b1), (.long (0 : Int64)), (.ref a18), (.ref b17), (.ref b17)])) _
    refine XS.dup X19.here hx rfl (hb hby at_76) rfl rfl ?_
    show Steps p.tables e below (T19.setTop (mkF m 77 #[.val (.int p0), .val (.int p1), .val (.int p2), .val (.ref b1), .val (.ref b9), .unset, .unset, .unset, .unset, .unset, .unset] [(.ref b19), (.ref b19), (.int p1), (.int p0), (.ref b9), (.ref b1), (.long (0 : Int64)), (.ref a18), (.ref b17), (.ref b17)])) _
    refine st20.trans ?_
    show Steps p.tables e below (T20.setTop (mkF m 80 #[.val (.int p0), .val (.int p1), .val (.int p2), .val (.ref b1), .val (.ref b9), .unset, .unset, .unset, .unset, .unset, .unset] [(.ref b19), (.int p1), (.int p0), (.ref b9), (.ref b1), (.long (0 : Int64)), (.ref a18), (.ref b17), (.ref b17)])) _
    refine st21.trans ?_
    show Steps p.tables e below (T21.setTop (mkF m 83 #[.val (.int p0), .val (.int p1), .val (.int p2), .val (.ref b1), .val (.ref b9), .unset, .unset, .unset, .unset, .unset, .unset] [(.ref b17)])) _
    refine XS.astore X21.here hx rfl (hb hby at_83) rfl rfl (l' := #[.val (.int p0), .val (.int p1), .val (.int p2), .val (.ref b1), .val (.ref b9), .val (.ref b17), .unset, .unset, .unset, .unset, .unset]) rfl ?_
    show Steps p.tables e below (T21.setTop (mkF m 85 #[.val (.int p0), .val (.int p1), .val (.int p2), .val (.ref b1), .val (.ref b9), .val (.ref b17), .unset, .unset, .unset, .unset, .unset] [])) _
    refine XS.iloadN X21.here hx rfl (hb hby at_85) rfl ?_
    show Steps p.tables e below (T21.setTop (mkF m 86 #[.val (.int p0), .val (.int p1), .val (.int p2), .val (.ref b1), .val (.ref b9), .val (.ref b17), .unset, .unset, .unset, .unset, .unset] [(.int p2)])) _
    refine XS.i2l X21.here hx rfl (hb hby at_86) rfl ?_
    show Steps p.tables e below (T21.setTop (mkF m 87 #[.val (.int p0), .val (.int p1), .val (.int p2), .val (.ref b1), .val (.ref b9), .val (.ref b17), .unset, .unset, .unset, .unset, .unset] [(.long (p2.toInt64))])) _
    refine XS.iloadN X21.here hx rfl (hb hby at_87) rfl ?_
    show Steps p.tables e below (T21.setTop (mkF m 88 #[.val (.int p0), .val (.int p1), .val (.int p2), .val (.ref b1), .val (.ref b9), .val (.ref b17), .unset, .unset, .unset, .unset, .unset] [(.int p0), (.long (p2.toInt64))])) _
    refine XS.i2l X21.here hx rfl (hb hby at_88) rfl ?_
    show Steps p.tables e below (T21.setTop (mkF m 89 #[.val (.int p0), .val (.int p1), .val (.int p2), .val (.ref b1), .val (.ref b9), .val (.ref b17), .unset, .unset, .unset, .unset, .unset] [(.long (p0.toInt64)), (.long (p2.toInt64))])) _
    refine XS.lsub X21.here hx rfl (hb hby at_89) rfl ?_
    show Steps p.tables e below (T21.setTop (mkF m 90 #[.val (.int p0), .val (.int p1), .val (.int p2), .val (.ref b1), .val (.ref b9), .val (.ref b17), .unset, .unset, .unset, .unset, .unset] [(.long ((p2.toInt64) - (p0.toInt64)))])) _
    refine XS.lstore X21.here hx rfl (hb hby at_90) rfl (l' := #[.val (.int p0), .val (.int p1), .val (.int p2), .val (.ref b1), .val (.ref b9), .val (.ref b17), .val (.long ((p2.toInt64) - (p0.toInt64))), .second, .unset, .unset, .unset]) rfl ?_
    show Steps p.tables e below (T21.setTop (mkF m 92 #[.val (.int p0), .val (.int p1), .val (.int p2), .val (.ref b1), .val (.ref b9), .val (.ref b17), .val (.long ((p2.toInt64) - (p0.toInt64))), .second, .unset, .unset, .unset] [])) _
    refine XS.iloadN X21.here hx rfl (hb hby at_92) rfl ?_
    show Steps p.tables e below (T21.setTop (mkF m 93 #[.val (.int p0), .val (.int p1), .val (.int p2), .val (.ref b1), .val (.ref b9), .val (.ref b17), .val (.long ((p2.toInt64) - (p0.toInt64))), .second, .unset, .unset, .unset] [(.int p1)])) _
    refine XS.i2l X21.here hx rfl (hb hby at_93) rfl ?_
    show Steps p.tables e below (T21.setTop (mkF m 94 #[.val (.int p0), .val (.int p1), .val (.int p2), .val (.ref b1), .val (.ref b9), .val (.ref b17), .val (.long ((p2.toInt64) - (p0.toInt64))), .second, .unset, .unset, .unset] [(.long (p1.toInt64))])) _
    refine XS.iloadN X21.here hx rfl (hb hby at_94) rfl ?_
    show Steps p.tables e below (T21.setTop (mkF m 95 #[.val (.int p0), .val (.int p1), .val (.int p2), .val (.ref b1), .val (.ref b9), .val (.ref b17), .val (.long ((p2.toInt64) - (p0.toInt64))), .second, .unset, .unset, .unset] [(.int p0), (.long (p1.toInt64))])) _
    refine XS.i2l X21.here hx rfl (hb hby at_95) rfl ?_
    show Steps p.tables e below (T21.setTop (mkF m 96 #[.val (.int p0), .val (.int p1), .val (.int p2), .val (.ref b1), .val (.ref b9), .val (.ref b17), .val (.long ((p2.toInt64) - (p0.toInt64))), .second, .unset, .unset, .unset] [(.long (p0.toInt64)), (.long (p1.toInt64))])) _
    refine XS.lsub X21.here hx rfl (hb hby at_96) rfl ?_
    show Steps p.tables e below (T21.setTop (mkF m 97 #[.val (.int p0), .val (.int p1), .val (.int p2), .val (.ref b1), .val (.ref b9), .val (.ref b17), .val (.long ((p2.toInt64) - (p0.toInt64))), .second, .unset, .unset, .unset] [(.long ((p1.toInt64) - (p0.toInt64)))])) _
    refine XS.lstore X21.here hx rfl (hb hby at_97) rfl (l' := #[.val (.int p0), .val (.int p1), .val (.int p2), .val (.ref b1), .val (.ref b9), .val (.ref b17), .val (.long ((p2.toInt64) - (p0.toInt64))), .second, .val (.long ((p1.toInt64) - (p0.toInt64))), .second, .unset]) rfl ?_
    show Steps p.tables e below (T21.setTop (mkF m 99 #[.val (.int p0), .val (.int p1), .val (.int p2), .val (.ref b1), .val (.ref b9), .val (.ref b17), .val (.long ((p2.toInt64) - (p0.toInt64))), .second, .val (.long ((p1.toInt64) - (p0.toInt64))), .second, .unset] [])) _
    refine XS.lload X21.here hx rfl (hb hby at_99) rfl ?_
    show Steps p.tables e below (T21.setTop (mkF m 101 #[.val (.int p0), .val (.int p1), .val (.int p2), .val (.ref b1), .val (.ref b9), .val (.ref b17), .val (.long ((p2.toInt64) - (p0.toInt64))), .second, .val (.long ((p1.toInt64) - (p0.toInt64))), .second, .unset] [(.long ((p2.toInt64) - (p0.toInt64)))])) _
    refine XS.lconst X21.here hx rfl (hb hby at_101) ?_
    show Steps p.tables e below (T21.setTop (mkF m 102 #[.val (.int p0), .val (.int p1), .val (.int p2), .val (.ref b1), .val (.ref b9), .val (.ref b17), .val (.long ((p2.toInt64) - (p0.toInt64))), .second, .val (.long ((p1.toInt64) - (p0.toInt64))), .second, .unset] [(.long (0 : Int64)), (.long ((p2.toInt64) - (p0.toInt64)))])) _
    refine XS.lcmp X21.here hx rfl (hb hby at_102) rfl ?_
    show Steps p.tables e below (T21.setTop (mkF m 103 #[.val (.int p0), .val (.int p1), .val (.int p2), .val (.ref b1), .val (.ref b9), .val (.ref b17), .val (.long ((p2.toInt64) - (p0.toInt64))), .second, .val (.long ((p1.toInt64) - (p0.toInt64))), .second, .unset] [(.int (lcmpW ((p2.toInt64) - (p0.toInt64)) (0 : Int64)))])) _
    refine XS.ifNo X21.here hx rfl (hb hby at_103) rfl ((if0 _ _).trans (flt (fun q => hA ((own_neg _ _).mp ((lw_lt _ _).mp q)) : ¬ ((lcmpW ((p2.toInt64) - (p0.toInt64)) (0 : Int64)) < (0 : Int32)))).1) ?_
    show Steps p.tables e below (T21.setTop (mkF m 106 #[.val (.int p0), .val (.int p1), .val (.int p2), .val (.ref b1), .val (.ref b9), .val (.ref b17), .val (.long ((p2.toInt64) - (p0.toInt64))), .second, .val (.long ((p1.toInt64) - (p0.toInt64))), .second, .unset] [])) _
    refine XS.lload X21.here hx rfl (hb hby at_106) rfl ?_
    show Steps p.tables e below (T21.setTop (mkF m 108 #[.val (.int p0), .val (.int p1), .val (.int p2), .val (.ref b1), .val (.ref b9), .val (.ref b17), .val (.long ((p2.toInt64) - (p0.toInt64))), .second, .val (.long ((p1.toInt64) - (p0.toInt64))), .second, .unset] [(.long ((p2.toInt64) - (p0.toInt64)))])) _
    refine XS.lload X21.here hx rfl (hb hby at_108) rfl ?_
    show Steps p.tables e below (T21.setTop (mkF m 110 #[.val (.int p0), .val (.int p1), .val (.int p2), .val (.ref b1), .val (.ref b9), .val (.ref b17), .val (.long ((p2.toInt64) - (p0.toInt64))), .second, .val (.long ((p1.toInt64) - (p0.toInt64))), .second, .unset] [(.long ((p1.toInt64) - (p0.toInt64))), (.long ((p2.toInt64) - (p0.toInt64)))])) _
    refine XS.lcmp X21.here hx rfl (hb hby at_110) rfl ?_
    show Steps p.tables e below (T21.setTop (mkF m 111 #[.val (.int p0), .val (.int p1), .val (.int p2), .val (.ref b1), .val (.ref b9), .val (.ref b17), .val (.long ((p2.toInt64) - (p0.toInt64))), .second, .val (.long ((p1.toInt64) - (p0.toInt64))), .second, .unset] [(.int (lcmpW ((p2.toInt64) - (p0.toInt64)) ((p1.toInt64) - (p0.toInt64))))])) _
    refine XS.ifYes X21.here hx rfl (pc0 := 111) (pc' := 118) rfl (hb hby at_111) rfl ((if0 _ _).trans (flt (fun q => hB ((own_cmp _ _ _).mp ((lw_lt _ _).mp q)) : ¬ ((lcmpW ((p2.toInt64) - (p0.toInt64)) ((p1.toInt64) - (p0.toInt64))) < (0 : Int32)))).2.1) (by decide) (by decide) ?_
    show Steps p.tables e below (T21.setTop (mkF m 118 #[.val (.int p0), .val (.int p1), .val (.int p2), .val (.ref b1), .val (.ref b9), .val (.ref b17), .val (.long ((p2.toInt64) - (p0.toInt64))), .second, .val (.long ((p1.toInt64) - (p0.toInt64))), .second, .unset] [])) _
    refine XS.iconst X21.here hx rfl (hb hby at_118) ?_
    show Steps p.tables e below (T21.setTop (mkF m 119 #[.val (.int p0), .val (.int p1), .val (.int p2), .val (.ref b1), .val (.ref b9), .val (.ref b17), .val (.long ((p2.toInt64) - (p0.toInt64))), .second, .val (.long ((p1.toInt64) - (p0.toInt64))), .second, .unset] [(.int (0 : Int32))])) _
    refine XS.istore X21.here hx rfl (hb hby at_119) rfl (l' := #[.val (.int p0), .val (.int p1), .val (.int p2), .val (.ref b1), .val (.ref b9), .val (.ref b17), .val (.long ((p2.toInt64) - (p0.toInt64))), .second, .val (.long ((p1.toInt64) - (p0.toInt64))), .second, .val (.int (0 : Int32))]) rfl ?_
    show Steps p.tables e below (T21.setTop (mkF m 121 #[.val (.int p0), .val (.int p1), .val (.int p2), .val (.ref b1), .val (.ref b9), .val (.ref b17), .val (.long ((p2.toInt64) - (p0.toInt64))), .second, .val (.long ((p1.toInt64) - (p0.toInt64))), .second, .val (.int (0 : Int32))] [])) _
    refine XS.aload X21.here hx rfl (hb hby at_121) rfl rfl ?_
    show Steps p.tables e below (T21.setTop (mkF m 123 #[.val (.int p0), .val (.int p1), .val (.int p2), .val (.ref b1), .val (.ref b9), .val (.ref b17), .val (.long ((p2.toInt64) - (p0.toInt64))), .second, .val (.long ((p1.toInt64) - (p0.toInt64))), .second, .val (.int (0 : Int32))] [(.ref b17)])) _
    refine XS.iloadN X21.here hx rfl (hb hby at_123) rfl ?_
    show Steps p.tables e below (T21.setTop (mkF m 124 #[.val (.int p0), .val (.int p1), .val (.int p2), .val (.ref b1), .val (.ref b9), .val (.ref b17), .val (.long ((p2.toInt64) - (p0.toInt64))), .second, .val (.long ((p1.toInt64) - (p0.toInt64))), .second, .val (.int (0 : Int32))] [(.int p2), (.ref b17)])) _
    refine st22.trans ?_
    show Steps p.tables e below (T22.setTop (mkF m 127 #[.val (.int p0), .val (.int p1), .val (.int p2), .val (.ref b1), .val (.ref b9), .val (.ref b17), .val (.long ((p2.toInt64) - (p0.toInt64))), .second, .val (.long ((p1.toInt64) - (p0.toInt64))), .second, .val (.int (0 : Int32))] [(.int (0 : Int32))])) _
    refine XS.iload X22.here hx rfl (hb hby at_127) rfl ?_
    show Steps p.tables e below (T22.setTop (mkF m 129 #[.val (.int p0), .val (.int p1), .val (.int p2), .val (.ref b1), .val (.ref b9), .val (.ref b17), .val (.long ((p2.toInt64) - (p0.toInt64))), .second, .val (.long ((p1.toInt64) - (p0.toInt64))), .second, .val (.int (0 : Int32))] [(.int (0 : Int32)), (.int (0 : Int32))])) _
    refine XS.icmpNo X22.here hx rfl (hb hby at_129) rfl (teq (by decide : (0 : Int32) = (0 : Int32))).2 ?_
    show Steps p.tables e below (T22.setTop (mkF m 132 #[.val (.int p0), .val (.int p1), .val (.int p2), .val (.ref b1), .val (.ref b9), .val (.ref b17), .val (.long ((p2.toInt64) - (p0.toInt64))), .second, .val (.long ((p1.toInt64) - (p0.toInt64))), .second, .val (.int (0 : Int32))] [])) _
    refine XS.aload X22.here hx rfl (hb hby at_132) rfl rfl ?_
    show Steps p.tables e below (T22.setTop (mkF m 134 #[.val (.int p0), .val (.int p1), .val (.int p2), .val (.ref b1), .val (.ref b9), .val (.ref b17), .val (.long ((p2.toInt64) - (p0.toInt64))), .second, .val (.long ((p1.toInt64) - (p0.toInt64))), .second, .val (.int (0 : Int32))] [(.ref b17)])) _
    refine XS.iloadN X22.here hx rfl (hb hby at_134) rfl ?_
    show Steps p.tables e below (T22.setTop (mkF m 135 #[.val (.int p0), .val (.int p1), .val (.int p2), .val (.ref b1), .val (.ref b9), .val (.ref b17), .val (.long ((p2.toInt64) - (p0.toInt64))), .second, .val (.long ((p1.toInt64) - (p0.toInt64))), .second, .val (.int (0 : Int32))] [(.int p1), (.ref b17)])) _
    refine st23.trans ?_
    show Steps p.tables e below (T23.setTop (mkF m 138 #[.val (.int p0), .val (.int p1), .val (.int p2), .val (.ref b1), .val (.ref b9), .val (.ref b17), .val (.long ((p2.toInt64) - (p0.toInt64))), .second, .val (.long ((p1.toInt64) - (p0.toInt64))), .second, .val (.int (0 : Int32))] [(.int (0 : Int32))])) _
    refine XS.ifNo X23.here hx rfl (hb hby at_138) rfl ((if0 _ _).trans (teq (by decide : (0 : Int32) = (0 : Int32))).2) ?_
    show Steps p.tables e below (T23.setTop (mkF m 141 #[.val (.int p0), .val (.int p1), .val (.int p2), .val (.ref b1), .val (.ref b9), .val (.ref b17), .val (.long ((p2.toInt64) - (p0.toInt64))), .second, .val (.long ((p1.toInt64) - (p0.toInt64))), .second, .val (.int (0 : Int32))] [])) _
    refine XS.aload X23.here hx rfl (hb hby at_141) rfl rfl ?_
    show Steps p.tables e below (T23.setTop (mkF m 143 #[.val (.int p0), .val (.int p1), .val (.int p2), .val (.ref b1), .val (.ref b9), .val (.ref b17), .val (.long ((p2.toInt64) - (p0.toInt64))), .second, .val (.long ((p1.toInt64) - (p0.toInt64))), .second, .val (.int (0 : Int32))] [(.ref b17)])) _
    refine XS.iloadN X23.here hx rfl (hb hby at_143) rfl ?_
    show Steps p.tables e below (T23.setTop (mkF m 144 #[.val (.int p0), .val (.int p1), .val (.int p2), .val (.ref b1), .val (.ref b9), .val (.ref b17), .val (.long ((p2.toInt64) - (p0.toInt64))), .second, .val (.long ((p1.toInt64) - (p0.toInt64))), .second, .val (.int (0 : Int32))] [(.int p0), (.ref b17)])) _
    refine st24.trans ?_
    show Steps p.tables e below (T24.setTop (mkF m 147 #[.val (.int p0), .val (.int p1), .val (.int p2), .val (.ref b1), .val (.ref b9), .val (.ref b17), .val (.long ((p2.toInt64) - (p0.toInt64))), .second, .val (.long ((p1.toInt64) - (p0.toInt64))), .second, .val (.int (0 : Int32))] [(.int (1 : Int32))])) _
    refine XS.lload X24.here hx rfl (hb hby at_147) rfl ?_
    show Steps p.tables e below (T24.setTop (mkF m 149 #[.val (.int p0), .val (.int p1), .val (.int p2), .val (.ref b1), .val (.ref b9), .val (.ref b17), .val (.long ((p2.toInt64) - (p0.toInt64))), .second, .val (.long ((p1.toInt64) - (p0.toInt64))), .second, .val (.int (0 : Int32))] [(.long ((p1.toInt64) - (p0.toInt64))), (.int (1 : Int32))])) _
    refine XS.lconst X24.here hx rfl (hb hby at_149) ?_
    show Steps p.tables e below (T24.setTop (mkF m 150 #[.val (.int p0), .val (.int p1), .val (.int p2), .val (.ref b1), .val (.ref b9), .val (.ref b17), .val (.long ((p2.toInt64) - (p0.toInt64))), .second, .val (.long ((p1.toInt64) - (p0.toInt64))), .second, .val (.int (0 : Int32))] [(.long (0 : Int64)), (.long ((p1.toInt64) - (p0.toInt64))), (.int (1 : Int32))])) _
    refine XS.lcmp X24.here hx rfl (hb hby at_150) rfl ?_
    show Steps p.tables e below (T24.setTop (mkF m 151 #[.val (.int p0), .val (.int p1), .val (.int p2), .val (.ref b1), .val (.ref b9), .val (.ref b17), .val (.long ((p2.toInt64) - (p0.toInt64))), .second, .val (.long ((p1.toInt64) - (p0.toInt64))), .second, .val (.int (0 : Int32))] [(.int (lcmpW ((p1.toInt64) - (p0.toInt64)) (0 : Int64))), (.int (1 : Int32))])) _
    refine XS.ifNo X24.here hx rfl (hb hby at_151) rfl ((if0 _ _).trans (tlt ((lw_gt _ _).mpr ((own_pos _ _).mpr hD) : (0 : Int32) < (lcmpW ((p1.toInt64) - (p0.toInt64)) (0 : Int64)))).2.2.2) ?_
    show Steps p.tables e below (T24.setTop (mkF m 154 #[.val (.int p0), .val (.int p1), .val (.int p2), .val (.ref b1), .val (.ref b9), .val (.ref b17), .val (.long ((p2.toInt64) - (p0.toInt64))), .second, .val (.long ((p1.toInt64) - (p0.toInt64))), .second, .val (.int (0 : Int32))] [(.int (1 : Int32))])) _
    refine XS.iconst X24.here hx rfl (hb hby at_154) ?_
    show Steps p.tables e below (T24.setTop (mkF m 155 #[.val (.int p0), .val (.int p1), .val (.int p2), .val (.ref b1), .val (.ref b9), .val (.ref b17), .val (.long ((p2.toInt64) - (p0.toInt64))), .second, .val (.long ((p1.toInt64) - (p0.toInt64))), .second, .val (.int (0 : Int32))] [(.int (1 : Int32)), (.int (1 : Int32))])) _
    refine XS.goto X24.here hx rfl (pc0 := 155) (pc' := 159) rfl (hb hby at_155) (by decide) (by decide) ?_
    show Steps p.tables e below (T24.setTop (mkF m 159 #[.val (.int p0), .val (.int p1), .val (.int p2), .val (.ref b1), .val (.ref b9), .val (.ref b17), .val (.long ((p2.toInt64) - (p0.toInt64))), .second, .val (.long ((p1.toInt64) - (p0.toInt64))), .second, .val (.int (0 : Int32))] [(.int (1 : Int32)), (.int (1 : Int32))])) _
    refine XS.icmpNo X24.here hx rfl (hb hby at_159) rfl (teq (by decide : (1 : Int32) = (1 : Int32))).2 ?_
    show Steps p.tables e below (T24.setTop (mkF m 162 #[.val (.int p0), .val (.int p1), .val (.int p2), .val (.ref b1), .val (.ref b9), .val (.ref b17), .val (.long ((p2.toInt64) - (p0.toInt64))), .second, .val (.long ((p1.toInt64) - (p0.toInt64))), .second, .val (.int (0 : Int32))] [])) _
    refine XS.iconst X24.here hx rfl (hb hby at_162) ?_
    show Steps p.tables e below (T24.setTop (mkF m 163 #[.val (.int p0), .val (.int p1), .val (.int p2), .val (.ref b1), .val (.ref b9), .val (.ref b17), .val (.long ((p2.toInt64) - (p0.toInt64))), .second, .val (.long ((p1.toInt64) - (p0.toInt64))), .second, .val (.int (0 : Int32))] [(.int (1 : Int32))])) _
    refine XS.goto X24.here hx rfl (pc0 := 163) (pc' := 167) rfl (hb hby at_163) (by decide) (by decide) ?_
    show Steps p.tables e below (T24.setTop (mkF m 167 #[.val (.int p0), .val (.int p1), .val (.int p2), .val (.ref b1), .val (.ref b9), .val (.ref b17), .val (.long ((p2.toInt64) - (p0.toInt64))), .second, .val (.long ((p1.toInt64) - (p0.toInt64))), .second, .val (.int (0 : Int32))] [(.int (1 : Int32))])) _
    exact retOut X24 hx Bd.returns rfl (Or.inl ⟨rfl, Or.inr (Or.inl rfl), _, rfl⟩) (hb hby at_167) hr
  · show QL (some (.int (1 : Int32))) h0 n0 _ T24.heap _
    rw [e24]
    exact ⟨rfl, N24⟩
set_option maxRecDepth 65536 in
set_option maxHeartbeats 40000000 in
theorem law_bn (l : Launch) (Z : State) (a0 : Array Value) (hw : ∀ d ∈ tables_1, d.before a0 Z = true) (ws : List Jvm.Cond) (p0 p1 p2 : Int32) (w_dc w_el w_em w_ee m_o w_CLASS w_UNKNOWN : Addr) (k_dc k_ee : ClassId) (h0 : Heap) (n0 : Nat) (Z0 : n0 ≤ h0.size) (S_dc : Sta Z h0 "java/util/ArrayList" "DEFAULTCAPACITY_EMPTY_ELEMENTDATA" "[Ljava/lang/Object;" (.ref w_dc)) (V_dc : Arv Z h0 w_dc k_dc (.object "java/lang/Object") (0 : Int32) [] .null) (S_el : Sta Z h0 "java/util/ImmutableCollections" "EMPTY_LIST" "Ljava/util/ImmutableCollections$ListN;" (.ref w_el)) (S_em : Sta Z h0 "java/util/ImmutableCollections" "EMPTY" "Ljava/lang/Object;" (.ref w_em)) (E_el : Exa Z h0 w_el "java/util/ImmutableCollections$ListN") (F_el : Fld Z h0 w_el "java/util/ImmutableCollections$ListN" "elements" "[Ljava/lang/Object;" (.ref w_ee)) (V_ee : Arv Z h0 w_ee k_ee (.object "java/lang/Object") (0 : Int32) [] .null) (M_o : Mir Z "[Ljava/lang/Object;" m_o) (S_w_CLASS : Sta Z h0 "com/example/refleash/refleash/heap/Trace$Root$Kind" "CLASS" "Lcom/example/refleash/refleash/heap/Trace$Root$Kind;" (.ref w_CLASS)) (S_w_UNKNOWN : Sta Z h0 "com/example/refleash/refleash/heap/Leak$Status" "UNKNOWN" "Lcom/example/refleash/refleash/heap/Leak$Status;" (.ref w_UNKNOWN)) (hA : ¬ (p2 < p0)) (hB : ¬ (p2 < p1)) (hD : ¬ (p0 < p1)) :
    MetFree l x (head1 (Jvm.Cond.code x code maxLocals ret :: ws) room_1) (fun a U => a = #[(.int p0), (.int p1), (.int p2)] ∧ Z.Warmed39 U.vm ∧ U.heap = h0) (fun _ _ _ _ _ => True) (fun _ U o U' => ∃ v L, o = .returned v ∧ QL (some (.int (1 : Int32))) h0 n0 v U'.heap L ∧ ReturnedEndW U o U' L room_1.cells room_1.slots) := by
  refine MetFree.of_bodySF (plainFor_of_name pn_com_example_refleash_refleash_heap_LeakIsSuspectPinLaw) hisR ?_
  intro p e s m args below meth c s₁ Bd hml0 hP hK
  obtain ⟨rfl, hZ, hh⟩ := hP
  have hx := Bd.exec
  have hby := Bd.bytes
  have hml : c.maxLocals = 11 := hml0
  have hown : s.vm.findClass "com/example/refleash/refleash/heap/LeakIsSuspectPinLaw" = some m.cls := findClass_of_methodNamed Bd.named
  have hnm := (name_of_methodNamed Bd.named Bd.method).1
  have X0 : Stand p l e room_1 s m #[(.int p0), (.int p1), (.int p2)] below meth c s₁ [] 0 0 := Stand.of_body Bd
  have e0 : s₁.heap = h0 := by rw [← hh, Bd.state]; rfl
  have N0 := Fr.nil n0
  have pre0 : ∀ t, Steps p.tables e below (s₁.setTop (mkF m 0 #[.val (.int p0), .val (.int p1), .val (.int p2), .unset, .unset, .unset, .unset, .unset, .unset, .unset, .unset] [])) t → Steps p.tables e below (s₁.setTop (entryFrame m #[(.int p0), (.int p1), (.int p2)] maxLocals)) t := fun t k => castTop (ef_0_III m p0 p1 p2) k
  obtain ⟨T1, h1, X1, e1, E1, A1, D1, -, st1⟩ := newO X0 hx hZ hown (hw _ (List.mem_of_getElem? (i := 0) rfl)) (hw _ (List.mem_of_getElem? (i := 1) rfl)) (hw _ (List.mem_of_getElem? (i := 2) rfl)) e0 (g := (mkF m 0 #[.val (.int p0), .val (.int p1), .val (.int p2), .unset, .unset, .unset, .unset, .unset, .unset, .unset, .unset] [])) rfl (hb hby at_0) (by decide) (by decide)
  obtain ⟨b1, gg1⟩ : ∃ z, z = h0.size := ⟨_, rfl⟩
  rw [← gg1] at A1 D1 st1
  have sz_b1 : h0.size ≤ b1 := Nat.le_of_eq gg1.symm
  have sz0_b1 : h0.size ≤ b1 := Nat.le_trans (Keep.refl h0 []).1 sz_b1
  have g_b1 : n0 ≤ b1 := Nat.le_trans Z0 sz0_b1
  have K1q : Keep h0 h1 [] := (Keep.refl _ []).ext E1
  have K1 : Keep h0 h1 [] := (Keep.refl h0 []).ext E1
  have F1_objectId : Fld Z h1 b1 "com/example/refleash/refleash/heap/Trace" "objectId" "J" (.long (0 : Int64)) := D1 (Or.inr (hw _ (List.mem_of_getElem? (i := 99) rfl))) (ty := .long) (by decide)
  have F1_root : Fld Z h1 b1 "com/example/refleash/refleash/heap/Trace" "root" "Lcom/example/refleash/refleash/heap/Trace$Root;" .null := D1 (Or.inr (hw _ (List.mem_of_getElem? (i := 101) rfl))) (ty := (.object "com/example/refleash/refleash/heap/Trace$Root")) (by decide)
  have F1_hops : Fld Z h1 b1 "com/example/refleash/refleash/heap/Trace" "hops" "Ljava/util/List;" .null := D1 (Or.inr (hw _ (List.mem_of_getElem? (i := 103) rfl))) (ty := (.object "java/util/List")) (by decide)
  have F1_retainedBytes : Fld Z h1 b1 "com/example/refleash/refleash/heap/Trace" "retainedBytes" "J" (.long (0 : Int64)) := D1 (Or.inr (hw _ (List.mem_of_getElem? (i := 105) rfl))) (ty := .long) (by decide)
  have F1_retainedObjects : Fld Z h1 b1 "com/example/refleash/refleash/heap/Trace" "retainedObjects" "J" (.long (0 : Int64)) := D1 (Or.inr (hw _ (List.mem_of_getElem? (i := 107) rfl))) (ty := .long) (by decide)
  obtain ⟨T2, h2, X2, e2, E2, A2, D2, -, st2⟩ := newO X1 hx hZ hown (hw _ (List.mem_of_getElem? (i := 3) rfl)) (hw _ (List.mem_of_getElem? (i := 4) rfl)) (hw _ (List.mem_of_getElem? (i := 5) rfl)) e1 (g := (mkF m 5 #[.val (.int p0), .val (.int p1), .val (.int p2), .unset, .unset, .unset, .unset, .unset, .unset, .unset, .unset] [(.long (0 : Int64)), (.ref b1), (.ref b1)])) rfl (hb hby at_5) (by decide) (by decide)
  obtain ⟨b2, gg2⟩ : ∃ z, z = h1.size := ⟨_, rfl⟩
  rw [← gg2] at A2 D2 st2
  have sz_b2 : h1.size ≤ b2 := Nat.le_of_eq gg2.symm
  have sz0_b2 : h0.size ≤ b2 := Nat.le_trans K1.1 sz_b2
  have g_b2 : n0 ≤ b2 := Nat.le_trans Z0 sz0_b2
  have K2q : Keep h1 h2 [] := (Keep.refl _ []).ext E2
  have K2 : Keep h0 h2 [] := K1.ext E2
  have F2_kind : Fld Z h2 b2 "com/example/refleash/refleash/heap/Trace$Root" "kind" "Lcom/example/refleash/refleash/heap/Trace$Root$Kind;" .null := D2 (Or.inr (hw _ (List.mem_of_getElem? (i := 33) rfl))) (ty := (.object "com/example/refleash/refleash/heap/Trace$Root$Kind")) (by decide)
  have F2_className : Fld Z h2 b2 "com/example/refleash/refleash/heap/Trace$Root" "className" "Ljava/lang/String;" .null := D2 (Or.inr (hw _ (List.mem_of_getElem? (i := 35) rfl))) (ty := (.object "java/lang/String")) (by decide)
  have F2_thread : Fld Z h2 b2 "com/example/refleash/refleash/heap/Trace$Root" "thread" "Ljava/lang/String;" .null := D2 (Or.inr (hw _ (List.mem_of_getElem? (i := 37) rfl))) (ty := (.object "java/lang/String")) (by decide)
  have F2_method : Fld Z h2 b2 "com/example/refleash/refleash/heap/Trace$Root" "method" "Ljava/lang/String;" .null := D2 (Or.inr (hw _ (List.mem_of_getElem? (i := 39) rfl))) (ty := (.object "java/lang/String")) (by decide)
  obtain ⟨T3, X3, e3, st3⟩ := getS2 X2 hx hZ hown (host := "") (Or.inl (hw _ (List.mem_of_getElem? (i := 6) rfl))) Via.refl e2 (own_sta_keep S_w_CLASS K2) (g := (mkF m 9 #[.val (.int p0), .val (.int p1), .val (.int p2), .unset, .unset, .unset, .unset, .unset, .unset, .unset, .unset] [(.ref b2), (.ref b2), (.long (0 : Int64)), (.ref b1), (.ref b1)])) rfl (hb hby at_9)
  have wS : ∀ d ∈ Bundle.stringAtoms, d.before a0 Z = true := fun d hd => hw d ((by decide +kernel : ∀ d ∈ Bundle.stringAtoms, d ∈ tables_1) d hd)
  obtain ⟨a4, T4, h4, k4, X4, e4, E4, S4, hk4, hZ, hown, st4⟩ := ldcS (s := s) (vm0 := s.vm) X3 hx hZ hown (hw _ (List.mem_of_getElem? (i := 9) rfl)) wS e3 ((State.WarmedH.refl s).since 0) (Nat.zero_le _) (g := (mkF m 12 #[.val (.int p0), .val (.int p1), .val (.int p2), .unset, .unset, .unset, .unset, .unset, .unset, .unset, .unset] [(.ref w_CLASS), (.ref b2), (.ref b2), (.long (0 : Int64)), (.ref b1), (.ref b1)])) rfl (hb hby at_12) (n := 4) (by decide) (by decide) (by decide) (by decide)
  have K4q : Keep h2 h4 [] := (Keep.refl _ []).ext E4
  have K4 : Keep h0 h4 [] := K2.ext E4
  obtain ⟨_, _, ⟨T5, L5, k5, n5⟩, -, X5, ⟨Lc5, hQ5, l5, y5, z5⟩, st5⟩ := X4.specialBack hx (y := (⟨"com/example/refleash/refleash/heap/Trace$Root", "<init>", "(Lcom/example/refleash/refleash/heap/Trace$Root$Kind;Ljava/lang/String;Ljava/lang/String;Ljava/lang/String;)V"⟩ : MethodName)) rfl hown (mvT hZ (hw _ (List.mem_of_getElem? (i := 17) rfl))) (mvT hZ (hw _ (List.mem_of_getElem? (i := 18) rfl))) (mvT hZ (hw _ (List.mem_of_getElem? (i := 19) rfl))) (by decide) (backOf (W := 5) (root_init l Z a0 hw [] b2 w_CLASS a4 h4 n0 (Nat.le_trans Z0 K4.1) (F2_kind.keep K4q nin0) (F2_className.keep K4q nin0) (F2_thread.keep K4q nin0) (F2_method.keep K4q nin0) (A2.keep K4q) g_b2) hZ (hw _ (List.mem_of_getElem? (i := 19) rfl)) (hw _ (List.mem_of_getElem? (i := 5) rfl)) (by decide) (by decide)) (g := (mkF m 16 #[.val (.int p0), .val (.int p1), .val (.int p2), .unset, .unset, .unset, .unset, .unset, .unset, .unset, .unset] [.null, .null, (.ref a4), (.ref w_CLASS), (.ref b2), (.ref b2), (.long (0 : Int64)), (.ref b1), (.ref b1)])) rfl (by rw [hml]; rfl) (Steps.refl _) (a := b2) (argsL := [(.ref w_CLASS), (.ref a4), .null, .null]) (rest := [(.ref b2), (.long (0 : Int64)), (.ref b1), (.ref b1)]) (lenOf pd__Lcom_example_refleash_refleash_heap_Trace_Root_Kind_Ljava_lang_String_Ljava_lang_String_Ljava_lang_String__V rfl) rfl (by show 2 * 0 + _ ≤ _; exact Nat.le_of_eq rfl) (hb hby at_16) (fun _ _ => ⟨rfl, e4, (by decide : 4 + 0 ≤ _), (by decide : 17 + 0 ≤ _)⟩)
  dsimp only [Pt.U, Pt.locs, Pt.cells, Pt.slots] at X5 l5 y5 z5 st5 hQ5
  subst l5 y5 z5
  obtain ⟨rfl, N5q, K5q⟩ := hQ5
  have N5 := Fr.app N0 N5q
  have K5 : Keep h0 T5.heap [] := K4.trans K5q (allS (Or.inr sz0_b2) all0)
  obtain ⟨T6, h6, X6, e6, E6, A6, D6, -, st6⟩ := newO X5 hx hZ hown (hw _ (List.mem_of_getElem? (i := 40) rfl)) (hw _ (List.mem_of_getElem? (i := 41) rfl)) (hw _ (List.mem_of_getElem? (i := 42) rfl)) rfl (g := (mkF m 19 #[.val (.int p0), .val (.int p1), .val (.int p2), .unset, .unset, .unset, .unset, .unset, .unset, .unset, .unset] [(.ref b2), (.long (0 : Int64)), (.ref b1), (.ref b1)])) rfl (hb hby at_19) (by decide) (by decide)
  obtain ⟨b6, gg6⟩ : ∃ z, z = T5.heap.size := ⟨_, rfl⟩
  rw [← gg6] at A6 D6 st6
  have sz_b6 : T5.heap.size ≤ b6 := Nat.le_of_eq gg6.symm
  have sz0_b6 : h0.size ≤ b6 := Nat.le_trans K5.1 sz_b6
  have g_b6 : n0 ≤ b6 := Nat.le_trans Z0 sz0_b6
  have K6q : Keep T5.heap h6 [] := (Keep.refl _ []).ext E6
  have K6 : Keep h0 h6 [] := K5.ext E6
  have F6_modCount : Fld Z h6 b6 "java/util/AbstractList" "modCount" "I" (.int (0 : Int32)) := D6 (Or.inl (hw _ (List.mem_of_getElem? (i := 60) rfl))) (ty := .int) (by decide)
  have F6_elementData : Fld Z h6 b6 "java/util/ArrayList" "elementData" "[Ljava/lang/Object;" .null := D6 (Or.inl (hw _ (List.mem_of_getElem? (i := 63) rfl))) (ty := (.array (.object "java/lang/Object"))) (by decide)
  have F6_size : Fld Z h6 b6 "java/util/ArrayList" "size" "I" (.int (0 : Int32)) := D6 (Or.inl (hw _ (List.mem_of_getElem? (i := 93) rfl))) (ty := .int) (by decide)
  obtain ⟨_, _, ⟨T7, L7, k7, n7⟩, -, X7, ⟨Lc7, hQ7, l7, y7, z7⟩, st7⟩ := X6.specialBack hx (y := (⟨"java/util/ArrayList", "<init>", "()V"⟩ : MethodName)) rfl hown (mvT hZ (hw _ (List.mem_of_getElem? (i := 43) rfl))) (mvT hZ (hw _ (List.mem_of_getElem? (i := 44) rfl))) (mvT hZ (hw _ (List.mem_of_getElem? (i := 45) rfl))) (by decide) (backOf (W := 6) (al_init l Z a0 hw [] b6 w_dc h6 n0 (Nat.le_trans Z0 K6.1) F6_modCount F6_elementData F6_size A6 g_b6 (own_sta_keep S_dc K6)) hZ (hw _ (List.mem_of_getElem? (i := 45) rfl)) (hw _ (List.mem_of_getElem? (i := 42) rfl)) (by decide) (by decide)) (g := (mkF m 23 #[.val (.int p0), .val (.int p1), .val (.int p2), .unset, .unset, .unset, .unset, .unset, .unset, .unset, .unset] [(.ref b6), (.ref b6), (.ref b2), (.long (0 : Int64)), (.ref b1), (.ref b1)])) rfl (by rw [hml]; rfl) (Steps.refl _) (a := b6) (argsL := []) (rest := [(.ref b6), (.ref b2), (.long (0 : Int64)), (.ref b1), (.ref b1)]) (lenOf pd___V rfl) rfl (by show 2 * 0 + _ ≤ _; exact Nat.le_of_eq rfl) (hb hby at_23) (fun _ _ => ⟨rfl, e6, (by decide : 5 + 0 ≤ _), (by decide : 20 + 0 ≤ _)⟩)
  dsimp only [Pt.U, Pt.locs, Pt.cells, Pt.slots] at X7 l7 y7 z7 st7 hQ7
  subst l7 y7 z7
  obtain ⟨rfl, N7q, K7q, E7q, F7q_modCount, F7q_elementData, F7q_size⟩ := hQ7
  have N7 := Fr.app N5 N7q
  have K7 : Keep h0 T7.heap [] := K6.trans K7q (allS (Or.inr sz0_b6) all0)
  obtain ⟨_, _, ⟨T8, L8, k8, n8⟩, -, X8, ⟨Lc8, hQ8, l8, y8, z8⟩, st8⟩ := X7.specialBack hx (y := (⟨"com/example/refleash/refleash/heap/Trace", "<init>", "(JLcom/example/refleash/refleash/heap/Trace$Root;Ljava/util/List;JJ)V"⟩ : MethodName)) rfl hown (mvT hZ (hw _ (List.mem_of_getElem? (i := 64) rfl))) (mvT hZ (hw _ (List.mem_of_getElem? (i := 65) rfl))) (mvT hZ (hw _ (List.mem_of_getElem? (i := 66) rfl))) (by decide) (backOf (W := 1) (trace_init l Z a0 hw [] b1 (0 : Int64) b2 b6 (0 : Int64) (0 : Int64) w_el T7.heap n0 (Nat.le_trans Z0 K7.1) (((((F1_objectId.keep K2q nin0).keep K4q nin0).keep K5q (ninS (Nat.ne_of_lt (Nat.lt_of_lt_of_le A1.lt sz_b2)) nin0)).keep K6q nin0).keep K7q (ninS (Nat.ne_of_lt (Nat.lt_of_lt_of_le (((A1.keep K2q).keep K4q).keep K5q).lt sz_b6)) nin0)) (((((F1_root.keep K2q nin0).keep K4q nin0).keep K5q (ninS (Nat.ne_of_lt (Nat.lt_of_lt_of_le A1.lt sz_b2)) nin0)).keep K6q nin0).keep K7q (ninS (Nat.ne_of_lt (Nat.lt_of_lt_of_le (((A1.keep K2q).keep K4q).keep K5q).lt sz_b6)) nin0)) (((((F1_hops.keep K2q nin0).keep K4q nin0).keep K5q (ninS (Nat.ne_of_lt (Nat.lt_of_lt_of_le A1.lt sz_b2)) nin0)).keep K6q nin0).keep K7q (ninS (Nat.ne_of_lt (Nat.lt_of_lt_of_le (((A1.keep K2q).keep K4q).keep K5q).lt sz_b6)) nin0)) (((((F1_retainedBytes.keep K2q nin0).keep K4q nin0).keep K5q (ninS (Nat.ne_of_lt (Nat.lt_of_lt_of_le A1.lt sz_b2)) nin0)).keep K6q nin0).keep K7q (ninS (Nat.ne_of_lt (Nat.lt_of_lt_of_le (((A1.keep K2q).keep K4q).keep K5q).lt sz_b6)) nin0)) (((((F1_retainedObjects.keep K2q nin0).keep K4q nin0).keep K5q (ninS (Nat.ne_of_lt (Nat.lt_of_lt_of_le A1.lt sz_b2)) nin0)).keep K6q nin0).keep K7q (ninS (Nat.ne_of_lt (Nat.lt_of_lt_of_le (((A1.keep K2q).keep K4q).keep K5q).lt sz_b6)) nin0)) (((((A1.keep K2q).keep K4q).keep K5q).keep K6q).keep K7q) g_b1 E7q F7q_size (own_sta_keep S_el K7)) hZ (hw _ (List.mem_of_getElem? (i := 66) rfl)) (hw _ (List.mem_of_getElem? (i := 2) rfl)) (by decide) (by decide)) (g := (mkF m 28 #[.val (.int p0), .val (.int p1), .val (.int p2), .unset, .unset, .unset, .unset, .unset, .unset, .unset, .unset] [(.long (0 : Int64)), (.long (0 : Int64)), (.ref b6), (.ref b2), (.long (0 : Int64)), (.ref b1), (.ref b1)])) rfl (by rw [hml]; rfl) (Steps.refl _) (a := b1) (argsL := [(.long (0 : Int64)), (.ref b2), (.ref b6), (.long (0 : Int64)), (.long (0 : Int64))]) (rest := [(.ref b1)]) (lenOf pd__JLcom_example_refleash_refleash_heap_Trace_Root_Ljava_util_List_JJ_V rfl) rfl (by show 2 * 0 + _ ≤ _; exact Nat.le_of_eq rfl) (hb hby at_28) (fun _ _ => ⟨rfl, rfl, (by decide : 5 + 0 ≤ _), (by decide : 20 + 0 ≤ _)⟩)
  dsimp only [Pt.U, Pt.locs, Pt.cells, Pt.slots] at X8 l8 y8 z8 st8 hQ8
  subst l8 y8 z8
  obtain ⟨rfl, N8q, K8q, E8q, F8q⟩ := hQ8
  have N8 := Fr.app N7 N8q
  have K8 : Keep h0 T8.heap [] := K7.trans K8q (allS (Or.inr sz0_b1) all0)
  obtain ⟨T9, h9, X9, e9, E9, A9, D9, -, st9⟩ := newO X8 hx hZ hown (hw _ (List.mem_of_getElem? (i := 40) rfl)) (hw _ (List.mem_of_getElem? (i := 41) rfl)) (hw _ (List.mem_of_getElem? (i := 42) rfl)) rfl (g := (mkF m 32 #[.val (.int p0), .val (.int p1), .val (.int p2), .val (.ref b1), .unset, .unset, .unset, .unset, .unset, .unset, .unset] [])) rfl (hb hby at_32) (by decide) (by decide)
  obtain ⟨b9, gg9⟩ : ∃ z, z = T8.heap.size := ⟨_, rfl⟩
  rw [← gg9] at A9 D9 st9
  have sz_b9 : T8.heap.size ≤ b9 := Nat.le_of_eq gg9.symm
  have sz0_b9 : h0.size ≤ b9 := Nat.le_trans K8.1 sz_b9
  have g_b9 : n0 ≤ b9 := Nat.le_trans Z0 sz0_b9
  have K9q : Keep T8.heap h9 [] := (Keep.refl _ []).ext E9
  have K9 : Keep h0 h9 [] := K8.ext E9
  have F9_modCount : Fld Z h9 b9 "java/util/AbstractList" "modCount" "I" (.int (0 : Int32)) := D9 (Or.inl (hw _ (List.mem_of_getElem? (i := 60) rfl))) (ty := .int) (by decide)
  have F9_elementData : Fld Z h9 b9 "java/util/ArrayList" "elementData" "[Ljava/lang/Object;" .null := D9 (Or.inl (hw _ (List.mem_of_getElem? (i := 63) rfl))) (ty := (.array (.object "java/lang/Object"))) (by decide)
  have F9_size : Fld Z h9 b9 "java/util/ArrayList" "size" "I" (.int (0 : Int32)) := D9 (Or.inl (hw _ (List.mem_of_getElem? (i := 93) rfl))) (ty := .int) (by decide)
  obtain ⟨_, _, ⟨T10, L10, k10, n10⟩, -, X10, ⟨Lc10, hQ10, l10, y10, z10⟩, st10⟩ := X9.specialBack hx (y := (⟨"java/util/ArrayList", "<init>", "()V"⟩ : MethodName)) rfl hown (mvT hZ (hw _ (List.mem_of_getElem? (i := 43) rfl))) (mvT hZ (hw _ (List.mem_of_getElem? (i := 44) rfl))) (mvT hZ (hw _ (List.mem_of_getElem? (i := 45) rfl))) (by decide) (backOf (W := 1) (al_init l Z a0 hw [] b9 w_dc h9 n0 (Nat.le_trans Z0 K9.1) F9_modCount F9_elementData F9_size A9 g_b9 (own_sta_keep S_dc K9)) hZ (hw _ (List.mem_of_getElem? (i := 45) rfl)) (hw _ (List.mem_of_getElem? (i := 42) rfl)) (by decide) (by decide)) (g := (mkF m 36 #[.val (.int p0), .val (.int p1), .val (.int p2), .val (.ref b1), .unset, .unset, .unset, .unset, .unset, .unset, .unset] [(.ref b9), (.ref b9)])) rfl (by rw [hml]; rfl) (Steps.refl _) (a := b9) (argsL := []) (rest := [(.ref b9)]) (lenOf pd___V rfl) rfl (by show 2 * 0 + _ ≤ _; exact Nat.le_of_eq rfl) (hb hby at_36) (fun _ _ => ⟨rfl, e9, (by decide : 6 + 0 ≤ _), (by decide : 23 + 0 ≤ _)⟩)
  dsimp only [Pt.U, Pt.locs, Pt.cells, Pt.slots] at X10 l10 y10 z10 st10 hQ10
  subst l10 y10 z10
  obtain ⟨rfl, N10q, K10q, E10q, F10q_modCount, F10q_elementData, F10q_size⟩ := hQ10
  have N10 := Fr.app N8 N10q
  have K10 : Keep h0 T10.heap [] := K9.trans K10q (allS (Or.inr sz0_b9) all0)
  obtain ⟨T11, h11, X11, e11, E11, A11, D11, -, st11⟩ := newO X10 hx hZ hown (hw _ (List.mem_of_getElem? (i := 108) rfl)) (hw _ (List.mem_of_getElem? (i := 109) rfl)) (hw _ (List.mem_of_getElem? (i := 110) rfl)) rfl (g := (mkF m 43 #[.val (.int p0), .val (.int p1), .val (.int p2), .val (.ref b1), .val (.ref b9), .unset, .unset, .unset, .unset, .unset, .unset] [(.ref b9)])) rfl (hb hby at_43) (by decide) (by decide)
  obtain ⟨b11, gg11⟩ : ∃ z, z = T10.heap.size := ⟨_, rfl⟩
  rw [← gg11] at A11 D11 st11
  have sz_b11 : T10.heap.size ≤ b11 := Nat.le_of_eq gg11.symm
  have sz0_b11 : h0.size ≤ b11 := Nat.le_trans K10.1 sz_b11
  have g_b11 : n0 ≤ b11 := Nat.le_trans Z0 sz0_b11
  have K11q : Keep T10.heap h11 [] := (Keep.refl _ []).ext E11
  have K11 : Keep h0 h11 [] := K10.ext E11
  have F11_className : Fld Z h11 b11 "com/example/refleash/refleash/heap/Leak$Node" "className" "Ljava/lang/String;" .null := D11 (Or.inr (hw _ (List.mem_of_getElem? (i := 121) rfl))) (ty := (.object "java/lang/String")) (by decide)
  have F11_status : Fld Z h11 b11 "com/example/refleash/refleash/heap/Leak$Node" "status" "Lcom/example/refleash/refleash/heap/Leak$Status;" .null := D11 (Or.inr (hw _ (List.mem_of_getElem? (i := 123) rfl))) (ty := (.object "com/example/refleash/refleash/heap/Leak$Status")) (by decide)
  have F11_reason : Fld Z h11 b11 "com/example/refleash/refleash/heap/Leak$Node" "reason" "Ljava/lang/String;" .null := D11 (Or.inr (hw _ (List.mem_of_getElem? (i := 125) rfl))) (ty := (.object "java/lang/String")) (by decide)
  obtain ⟨a12, T12, h12, k12, X12, e12, E12, S12, hk12, hZ, hown, st12⟩ := ldcS (s := s) (vm0 := T4.vm) X11 hx hZ hown (hw _ (List.mem_of_getElem? (i := 9) rfl)) wS e11 S4 (Nat.le_trans (Nat.le_trans (Nat.le_trans (Nat.le_trans (Nat.le_trans (Nat.le_trans (Nat.le_trans hk4 K5q.1) K6q.1) K7q.1) K8q.1) K9q.1) K10q.1) K11q.1) (g := (mkF m 47 #[.val (.int p0), .val (.int p1), .val (.int p2), .val (.ref b1), .val (.ref b9), .unset, .unset, .unset, .unset, .unset, .unset] [(.ref b11), (.ref b11), (.ref b9)])) rfl (hb hby at_47) (n := 4) (by decide) (by decide) (by decide) (by decide)
  have K12q : Keep h11 h12 [] := (Keep.refl _ []).ext E12
  have K12 : Keep h0 h12 [] := K11.ext E12
  obtain ⟨T13, X13, e13, st13⟩ := getS2 X12 hx hZ hown (host := "") (Or.inl (hw _ (List.mem_of_getElem? (i := 111) rfl))) Via.refl e12 (own_sta_keep S_w_UNKNOWN K12) (g := (mkF m 49 #[.val (.int p0), .val (.int p1), .val (.int p2), .val (.ref b1), .val (.ref b9), .unset, .unset, .unset, .unset, .unset, .unset] [(.ref a12), (.ref b11), (.ref b11), (.ref b9)])) rfl (hb hby at_49)
  obtain ⟨a14, T14, h14, k14, X14, e14, E14, S14, hk14, hZ, hown, st14⟩ := ldcS (s := s) (vm0 := T12.vm) X13 hx hZ hown (hw _ (List.mem_of_getElem? (i := 114) rfl)) wS e13 S12 hk12 (g := (mkF m 52 #[.val (.int p0), .val (.int p1), .val (.int p2), .val (.ref b1), .val (.ref b9), .unset, .unset, .unset, .unset, .unset, .unset] [(.ref w_UNKNOWN), (.ref a12), (.ref b11), (.ref b11), (.ref b9)])) rfl (hb hby at_52) (n := 4) (by decide) (by decide) (by decide) (by decide)
  have K14q : Keep h12 h14 [] := (Keep.refl _ []).ext E14
  have K14 : Keep h0 h14 [] := K12.ext E14
  obtain ⟨_, _, ⟨T15, L15, k15, n15⟩, -, X15, ⟨Lc15, hQ15, l15, y15, z15⟩, st15⟩ := X14.specialBack hx (y := (⟨"com/example/refleash/refleash/heap/Leak$Node", "<init>", "(Ljava/lang/String;Lcom/example/refleash/refleash/heap/Leak$Status;Ljava/lang/String;)V"⟩ : MethodName)) rfl hown (mvT hZ (hw _ (List.mem_of_getElem? (i := 115) rfl))) (mvT hZ (hw _ (List.mem_of_getElem? (i := 116) rfl))) (mvT hZ (hw _ (List.mem_of_getElem? (i := 117) rfl))) (by decide) (backOf (W := 2) (node_init l Z a0 hw [] b11 a12 w_UNKNOWN a14 h14 n0 (Nat.le_trans Z0 K14.1) ((F11_className.keep K12q nin0).keep K14q nin0) ((F11_status.keep K12q nin0).keep K14q nin0) ((F11_reason.keep K12q nin0).keep K14q nin0) ((A11.keep K12q).keep K14q) g_b11) hZ (hw _ (List.mem_of_getElem? (i := 117) rfl)) (hw _ (List.mem_of_getElem? (i := 110) rfl)) (by decide) (by decide)) (g := (mkF m 54 #[.val (.int p0), .val (.int p1), .val (.int p2), .val (.ref b1), .val (.ref b9), .unset, .unset, .unset, .unset, .unset, .unset] [(.ref a14), (.ref w_UNKNOWN), (.ref a12), (.ref b11), (.ref b11), (.ref b9)])) rfl (by rw [hml]; rfl) (Steps.refl _) (a := b11) (argsL := [(.ref a12), (.ref w_UNKNOWN), (.ref a14)]) (rest := [(.ref b11), (.ref b9)]) (lenOf pd__Ljava_lang_String_Lcom_example_refleash_refleash_heap_Leak_Status_Ljava_lang_String__V rfl) rfl (by show 2 * 0 + _ ≤ _; exact Nat.le_of_eq rfl) (hb hby at_54) (fun _ _ => ⟨rfl, e14, (by decide : 11 + 0 ≤ _), (by decide : 42 + 0 ≤ _)⟩)
  dsimp only [Pt.U, Pt.locs, Pt.cells, Pt.slots] at X15 l15 y15 z15 st15 hQ15
  subst l15 y15 z15
  obtain ⟨rfl, N15q, K15q, E15q⟩ := hQ15
  have N15 := Fr.app N10 N15q
  have K15 : Keep h0 T15.heap [] := K14.trans K15q (allS (Or.inr sz0_b11) all0)
  obtain ⟨cq16, kq16, q16a, q16b, q16c⟩ := isOf hZ rfl ((((E10q.keep K11q).keep K12q).keep K14q).keep K15q)
  obtain ⟨_, _, ⟨T16, L16, k16, n16⟩, -, X16, ⟨Lc16, hQ16, l16, y16, z16⟩, st16⟩ := X15.virtualBack hx (y := (⟨"java/util/ArrayList", "add", "(Ljava/lang/Object;)Z"⟩ : MethodName)) (z := (⟨"java/util/ArrayList", "add", "(Ljava/lang/Object;)Z"⟩ : MethodName)) hown (mvT hZ (hw _ (List.mem_of_getElem? (i := 126) rfl))) (mvT hZ (hw _ (List.mem_of_getElem? (i := 127) rfl))) (notFace_of_selects (args := #[]) (mvT hZ (hw _ (List.mem_of_getElem? (i := 129) rfl)))) (mvT hZ (hw _ (List.mem_of_getElem? (i := 129) rfl))) (mvT hZ (hw _ (List.mem_of_getElem? (i := 128) rfl))) (by decide) (backOf (W := 0) (add_1 l Z a0 hw [] b9 b11 (0 : Int32) w_dc k_dc T15.heap n0 (Nat.le_trans Z0 K15.1) ((((F10q_modCount.keep K11q nin0).keep K12q nin0).keep K14q nin0).keep K15q (ninS (Nat.ne_of_lt (Nat.lt_of_lt_of_le E10q.lt sz_b11)) nin0)) ((((F10q_elementData.keep K11q nin0).keep K12q nin0).keep K14q nin0).keep K15q (ninS (Nat.ne_of_lt (Nat.lt_of_lt_of_le E10q.lt sz_b11)) nin0)) ((((F10q_size.keep K11q nin0).keep K12q nin0).keep K14q nin0).keep K15q (ninS (Nat.ne_of_lt (Nat.lt_of_lt_of_le E10q.lt sz_b11)) nin0)) ((((E10q.keep K11q).keep K12q).keep K14q).keep K15q) g_b9 (((((((((((((V_dc.keep K1q nin0).keep K2q nin0).keep K4q nin0).keep K5q (ninS (Nat.ne_of_lt (Nat.lt_of_lt_of_le (V_dc.keep K1q nin0).lt sz_b2)) nin0)).keep K6q nin0).keep K7q (ninS (Nat.ne_of_lt (Nat.lt_of_lt_of_le ((((V_dc.keep K1q nin0).keep K2q nin0).keep K4q nin0).keep K5q (ninS (Nat.ne_of_lt (Nat.lt_of_lt_of_le (V_dc.keep K1q nin0).lt sz_b2)) nin0)).lt sz_b6)) nin0)).keep K8q (ninS (Nat.ne_of_lt (Nat.lt_of_lt_of_le V_dc.lt sz_b1)) nin0)).keep K9q nin0).keep K10q (ninS (Nat.ne_of_lt (Nat.lt_of_lt_of_le (((((((V_dc.keep K1q nin0).keep K2q nin0).keep K4q nin0).keep K5q (ninS (Nat.ne_of_lt (Nat.lt_of_lt_of_le (V_dc.keep K1q nin0).lt sz_b2)) nin0)).keep K6q nin0).keep K7q (ninS (Nat.ne_of_lt (Nat.lt_of_lt_of_le ((((V_dc.keep K1q nin0).keep K2q nin0).keep K4q nin0).keep K5q (ninS (Nat.ne_of_lt (Nat.lt_of_lt_of_le (V_dc.keep K1q nin0).lt sz_b2)) nin0)).lt sz_b6)) nin0)).keep K8q (ninS (Nat.ne_of_lt (Nat.lt_of_lt_of_le V_dc.lt sz_b1)) nin0)).lt sz_b9)) nin0)).keep K11q nin0).keep K12q nin0).keep K14q nin0).keep K15q (ninS (Nat.ne_of_lt (Nat.lt_of_lt_of_le (((((((((V_dc.keep K1q nin0).keep K2q nin0).keep K4q nin0).keep K5q (ninS (Nat.ne_of_lt (Nat.lt_of_lt_of_le (V_dc.keep K1q nin0).lt sz_b2)) nin0)).keep K6q nin0).keep K7q (ninS (Nat.ne_of_lt (Nat.lt_of_lt_of_le ((((V_dc.keep K1q nin0).keep K2q nin0).keep K4q nin0).keep K5q (ninS (Nat.ne_of_lt (Nat.lt_of_lt_of_le (V_dc.keep K1q nin0).lt sz_b2)) nin0)).lt sz_b6)) nin0)).keep K8q (ninS (Nat.ne_of_lt (Nat.lt_of_lt_of_le V_dc.lt sz_b1)) nin0)).keep K9q nin0).keep K10q (ninS (Nat.ne_of_lt (Nat.lt_of_lt_of_le (((((((V_dc.keep K1q nin0).keep K2q nin0).keep K4q nin0).keep K5q (ninS (Nat.ne_of_lt (Nat.lt_of_lt_of_le (V_dc.keep K1q nin0).lt sz_b2)) nin0)).keep K6q nin0).keep K7q (ninS (Nat.ne_of_lt (Nat.lt_of_lt_of_le ((((V_dc.keep K1q nin0).keep K2q nin0).keep K4q nin0).keep K5q (ninS (Nat.ne_of_lt (Nat.lt_of_lt_of_le (V_dc.keep K1q nin0).lt sz_b2)) nin0)).lt sz_b6)) nin0)).keep K8q (ninS (Nat.ne_of_lt (Nat.lt_of_lt_of_le V_dc.lt sz_b1)) nin0)).lt sz_b9)) nin0)).lt sz_b11)) nin0)) (own_sta_keep S_dc K15) (own_obj E15q (hw _ (List.mem_of_getElem? (i := 154) rfl))) (Nat.ne_of_lt (Nat.lt_of_lt_of_le (((((((V_dc.keep K1q nin0).keep K2q nin0).keep K4q nin0).keep K5q (ninS (Nat.ne_of_lt (Nat.lt_of_lt_of_le (V_dc.keep K1q nin0).lt sz_b2)) nin0)).keep K6q nin0).keep K7q (ninS (Nat.ne_of_lt (Nat.lt_of_lt_of_le ((((V_dc.keep K1q nin0).keep K2q nin0).keep K4q nin0).keep K5q (ninS (Nat.ne_of_lt (Nat.lt_of_lt_of_le (V_dc.keep K1q nin0).lt sz_b2)) nin0)).lt sz_b6)) nin0)).keep K8q (ninS (Nat.ne_of_lt (Nat.lt_of_lt_of_le V_dc.lt sz_b1)) nin0)).lt sz_b9))) hZ (hw _ (List.mem_of_getElem? (i := 130) rfl)) (hw _ (List.mem_of_getElem? (i := 42) rfl)) (by decide) (by decide)) q16a q16c (g := (mkF m 57 #[.val (.int p0), .val (.int p1), .val (.int p2), .val (.ref b1), .val (.ref b9), .unset, .unset, .unset, .unset, .unset, .unset] [(.ref b11), (.ref b9)])) rfl (by rw [hml]; rfl) (Steps.refl _) (argsL := [(.ref b11)]) (rest := []) (lenOf pd__Ljava_lang_Object__Z rfl) rfl (by show 2 * 0 + _ ≤ _; exact Nat.le_of_eq rfl) (hb hby at_57) (fun _ _ => ⟨rfl, rfl, (by decide : 11 + 1 ≤ _), (by decide : 42 + 10 ≤ _)⟩)
  dsimp only [Pt.U, Pt.locs, Pt.cells, Pt.slots] at X16 l16 y16 z16 st16 hQ16
  subst l16 y16 z16
  obtain ⟨r16, k16r, rfl, N16q, K16q, sz_r16, E16r, V16q, E16q, F16q_modCount, F16q_elementData, F16q_size⟩ := hQ16
  have sz0_r16 : h0.size ≤ r16 := Nat.le_trans K15.1 sz_r16
  have g_r16 : n0 ≤ r16 := Nat.le_trans Z0 sz0_r16
  have N16 := Fr.app N15 N16q
  have K16 : Keep h0 T16.heap [] := K15.trans K16q (allS (Or.inr sz0_b9) all0)
  obtain ⟨T17, h17, X17, e17, E17, A17, D17, -, st17⟩ := newO X16 hx hZ hown (hw _ (List.mem_of_getElem? (i := 155) rfl)) (hw _ (List.mem_of_getElem? (i := 156) rfl)) (hw _ (List.mem_of_getElem? (i := 157) rfl)) rfl (g := (mkF m 61 #[.val (.int p0), .val (.int p1), .val (.int p2), .val (.ref b1), .val (.ref b9), .unset, .unset, .unset, .unset, .unset, .unset] [])) rfl (hb hby at_61) (by decide) (by decide)
  obtain ⟨b17, gg17⟩ : ∃ z, z = T16.heap.size := ⟨_, rfl⟩
  rw [← gg17] at A17 D17 st17
  have sz_b17 : T16.heap.size ≤ b17 := Nat.le_of_eq gg17.symm
  have sz0_b17 : h0.size ≤ b17 := Nat.le_trans K16.1 sz_b17
  have g_b17 : n0 ≤ b17 := Nat.le_trans Z0 sz0_b17
  have K17q : Keep T16.heap h17 [] := (Keep.refl _ []).ext E17
  have K17 : Keep h0 h17 [] := K16.ext E17
  have F17_signature : Fld Z h17 b17 "com/example/refleash/refleash/heap/Leak" "signature" "Ljava/lang/String;" .null := D17 (Or.inr (hw _ (List.mem_of_getElem? (i := 249) rfl))) (ty := (.object "java/lang/String")) (by decide)
  have F17_retainedBytes : Fld Z h17 b17 "com/example/refleash/refleash/heap/Leak" "retainedBytes" "J" (.long (0 : Int64)) := D17 (Or.inr (hw _ (List.mem_of_getElem? (i := 251) rfl))) (ty := .long) (by decide)
  have F17_trace : Fld Z h17 b17 "com/example/refleash/refleash/heap/Leak" "trace" "Lcom/example/refleash/refleash/heap/Trace;" .null := D17 (Or.inr (hw _ (List.mem_of_getElem? (i := 253) rfl))) (ty := (.object "com/example/refleash/refleash/heap/Trace")) (by decide)
  have F17_nodes : Fld Z h17 b17 "com/example/refleash/refleash/heap/Leak" "nodes" "Ljava/util/List;" .null := D17 (Or.inr (hw _ (List.mem_of_getElem? (i := 255) rfl))) (ty := (.object "java/util/List")) (by decide)
  have F17_firstSuspect : Fld Z h17 b17 "com/example/refleash/refleash/heap/Leak" "firstSuspect" "I" (.int (0 : Int32)) := D17 (Or.inr (hw _ (List.mem_of_getElem? (i := 257) rfl))) (ty := .int) (by decide)
  have F17_endSuspect : Fld Z h17 b17 "com/example/refleash/refleash/heap/Leak" "endSuspect" "I" (.int (0 : Int32)) := D17 (Or.inr (hw _ (List.mem_of_getElem? (i := 259) rfl))) (ty := .int) (by decide)
  have F17_objects : Fld Z h17 b17 "com/example/refleash/refleash/heap/Leak" "objects" "Ljava/util/List;" .null := D17 (Or.inr (hw _ (List.mem_of_getElem? (i := 261) rfl))) (ty := (.object "java/util/List")) (by decide)
  obtain ⟨a18, T18, h18, k18, X18, e18, E18, S18, hk18, hZ, hown, st18⟩ := ldcS (s := s) (vm0 := T14.vm) X17 hx hZ hown (hw _ (List.mem_of_getElem? (i := 158) rfl)) wS e17 S14 (Nat.le_trans (Nat.le_trans (Nat.le_trans hk14 K15q.1) K16q.1) K17q.1) (g := (mkF m 65 #[.val (.int p0), .val (.int p1), .val (.int p2), .val (.ref b1), .val (.ref b9), .unset, .unset, .unset, .unset, .unset, .unset] [(.ref b17), (.ref b17)])) rfl (hb hby at_65) (n := 4) (by decide) (by decide) (by decide) (by decide)
  have K18q : Keep h17 h18 [] := (Keep.refl _ []).ext E18
  have K18 : Keep h0 h18 [] := K17.ext E18
  obtain ⟨T19, h19, X19, e19, E19, A19, D19, -, st19⟩ := newO X18 hx hZ hown (hw _ (List.mem_of_getElem? (i := 40) rfl)) (hw _ (List.mem_of_getElem? (i := 41) rfl)) (hw _ (List.mem_of_getElem? (i := 42) rfl)) e18 (g := (mkF m 73 #[.val (.int p0), .val (.int p1), .val (.int p2), .val (.ref b1), .val (.ref b9), .unset, .unset, .unset, .unset, .unset, .unset] [(.int p1), (.int p0), (.ref b9), (.ref b1), (.long (0 : Int64)), (.ref a18), (.ref b17), (.ref b17)])) rfl (hb hby at_73) (by decide) (by decide)
  obtain ⟨b19, gg19⟩ : ∃ z, z = h18.size := ⟨_, rfl⟩
  rw [← gg19] at A19 D19 st19
  have sz_b19 : h18.size ≤ b19 := Nat.le_of_eq gg19.symm
  have sz0_b19 : h0.size ≤ b19 := Nat.le_trans K18.1 sz_b19
  have g_b19 : n0 ≤ b19 := Nat.le_trans Z0 sz0_b19
  have K19q : Keep h18 h19 [] := (Keep.refl _ []).ext E19
  have K19 : Keep h0 h19 [] := K18.ext E19
  have F19_modCount : Fld Z h19 b19 "java/util/AbstractList" "modCount" "I" (.int (0 : Int32)) := D19 (Or.inl (hw _ (List.mem_of_getElem? (i := 60) rfl))) (ty := .int) (by decide)
  have F19_elementData : Fld Z h19 b19 "java/util/ArrayList" "elementData" "[Ljava/lang/Object;" .null := D19 (Or.inl (hw _ (List.mem_of_getElem? (i := 63) rfl))) (ty := (.array (.object "java/lang/Object"))) (by decide)
  have F19_size : Fld Z h19 b19 "java/util/ArrayList" "size" "I" (.int (0 : Int32)) := D19 (Or.inl (hw _ (List.mem_of_getElem? (i := 93) rfl))) (ty := .int) (by decide)
  obtain ⟨_, _, ⟨T20, L20, k20, n20⟩, -, X20, ⟨Lc20, hQ20, l20, y20, z20⟩, st20⟩ := X19.specialBack hx (y := (⟨"java/util/ArrayList", "<init>", "()V"⟩ : MethodName)) rfl hown (mvT hZ (hw _ (List.mem_of_getElem? (i := 43) rfl))) (mvT hZ (hw _ (List.mem_of_getElem? (i := 44) rfl))) (mvT hZ (hw _ (List.mem_of_getElem? (i := 45) rfl))) (by decide) (backOf (W := 10) (al_init l Z a0 hw [] b19 w_dc h19 n0 (Nat.le_trans Z0 K19.1) F19_modCount F19_elementData F19_size A19 g_b19 (own_sta_keep S_dc K19)) hZ (hw _ (List.mem_of_getElem? (i := 45) rfl)) (hw _ (List.mem_of_getElem? (i := 42) rfl)) (by decide) (by decide)) (g := (mkF m 77 #[.val (.int p0), .val (.int p1), .val (.int p2), .val (.ref b1), .val (.ref b9), .unset, .unset, .unset, .unset, .unset, .unset] [(.ref b19), (.ref b19), (.int p1), (.int p0), (.ref b9), (.ref b1), (.long (0 : Int64)), (.ref a18), (.ref b17), (.ref b17)])) rfl (by rw [hml]; rfl) (Steps.refl _) (a := b19) (argsL := []) (rest := [(.ref b19), (.int p1), (.int p0), (.ref b9), (.ref b1), (.long (0 : Int64)), (.ref a18), (.ref b17), (.ref b17)]) (lenOf pd___V rfl) rfl (by show 2 * 0 + _ ≤ _; exact Nat.le_of_eq rfl) (hb hby at_77) (fun _ _ => ⟨rfl, e19, (by decide : 16 + 0 ≤ _), (by decide : 70 + 0 ≤ _)⟩)
  dsimp only [Pt.U, Pt.locs, Pt.cells, Pt.slots] at X20 l20 y20 z20 st20 hQ20
  subst l20 y20 z20
  obtain ⟨rfl, N20q, K20q, E20q, F20q_modCount, F20q_elementData, F20q_size⟩ := hQ20
  have N20 := Fr.app N16 N20q
  have K20 : Keep h0 T20.heap [] := K19.trans K20q (allS (Or.inr sz0_b19) all0)
  obtain ⟨_, _, ⟨T21, L21, k21, n21⟩, -, X21, ⟨Lc21, hQ21, l21, y21, z21⟩, st21⟩ := X20.specialBack hx (y := (⟨"com/example/refleash/refleash/heap/Leak", "<init>", "(Ljava/lang/String;JLcom/example/refleash/refleash/heap/Trace;Ljava/util/List;IILjava/util/List;)V"⟩ : MethodName)) rfl hown (mvT hZ (hw _ (List.mem_of_getElem? (i := 159) rfl))) (mvT hZ (hw _ (List.mem_of_getElem? (i := 160) rfl))) (mvT hZ (hw _ (List.mem_of_getElem? (i := 161) rfl))) (by decide) (backOf (W := 1) (leak_init l Z a0 hw [] b17 a18 (0 : Int64) b1 b9 p0 p1 b19 r16 b11 m_o w_el w_em w_ee k16r k_ee T20.heap n0 (Nat.le_trans Z0 K20.1) (((F17_signature.keep K18q nin0).keep K19q nin0).keep K20q (ninS (Nat.ne_of_lt (Nat.lt_of_lt_of_le (A17.keep K18q).lt sz_b19)) nin0)) (((F17_retainedBytes.keep K18q nin0).keep K19q nin0).keep K20q (ninS (Nat.ne_of_lt (Nat.lt_of_lt_of_le (A17.keep K18q).lt sz_b19)) nin0)) (((F17_trace.keep K18q nin0).keep K19q nin0).keep K20q (ninS (Nat.ne_of_lt (Nat.lt_of_lt_of_le (A17.keep K18q).lt sz_b19)) nin0)) (((F17_nodes.keep K18q nin0).keep K19q nin0).keep K20q (ninS (Nat.ne_of_lt (Nat.lt_of_lt_of_le (A17.keep K18q).lt sz_b19)) nin0)) (((F17_firstSuspect.keep K18q nin0).keep K19q nin0).keep K20q (ninS (Nat.ne_of_lt (Nat.lt_of_lt_of_le (A17.keep K18q).lt sz_b19)) nin0)) (((F17_endSuspect.keep K18q nin0).keep K19q nin0).keep K20q (ninS (Nat.ne_of_lt (Nat.lt_of_lt_of_le (A17.keep K18q).lt sz_b19)) nin0)) (((F17_objects.keep K18q nin0).keep K19q nin0).keep K20q (ninS (Nat.ne_of_lt (Nat.lt_of_lt_of_le (A17.keep K18q).lt sz_b19)) nin0)) (((A17.keep K18q).keep K19q).keep K20q) g_b17 (((((((((((E8q.keep K9q).keep K10q).keep K11q).keep K12q).keep K14q).keep K15q).keep K16q).keep K17q).keep K18q).keep K19q).keep K20q) (((((((((((F8q.keep K9q nin0).keep K10q (ninS (Nat.ne_of_lt (Nat.lt_of_lt_of_le E8q.lt sz_b9)) nin0)).keep K11q nin0).keep K12q nin0).keep K14q nin0).keep K15q (ninS (Nat.ne_of_lt (Nat.lt_of_lt_of_le ((E8q.keep K9q).keep K10q).lt sz_b11)) nin0)).keep K16q (ninS (Nat.ne_of_lt (Nat.lt_of_lt_of_le E8q.lt sz_b9)) nin0)).keep K17q nin0).keep K18q nin0).keep K19q nin0).keep K20q (ninS (Nat.ne_of_lt (Nat.lt_of_lt_of_le (((((((((E8q.keep K9q).keep K10q).keep K11q).keep K12q).keep K14q).keep K15q).keep K16q).keep K17q).keep K18q).lt sz_b19)) nin0)) ((((E16q.keep K17q).keep K18q).keep K19q).keep K20q) ((((F16q_elementData.keep K17q nin0).keep K18q nin0).keep K19q nin0).keep K20q (ninS (Nat.ne_of_lt (Nat.lt_of_lt_of_le ((E16q.keep K17q).keep K18q).lt sz_b19)) nin0)) ((((F16q_size.keep K17q nin0).keep K18q nin0).keep K19q nin0).keep K20q (ninS (Nat.ne_of_lt (Nat.lt_of_lt_of_le ((E16q.keep K17q).keep K18q).lt sz_b19)) nin0)) ((((E16r.keep K17q).keep K18q).keep K19q).keep K20q) ((((V16q.keep K17q nin0).keep K18q nin0).keep K19q nin0).keep K20q (ninS (Nat.ne_of_lt (Nat.lt_of_lt_of_le ((E16r.keep K17q).keep K18q).lt sz_b19)) nin0)) (own_obj (((((E15q.keep K16q).keep K17q).keep K18q).keep K19q).keep K20q) (hw _ (List.mem_of_getElem? (i := 154) rfl))) E20q F20q_size (own_sta_keep S_el K20) (own_sta_keep S_em K20) ((((((((((((((((((E_el.keep K1q).keep K2q).keep K4q).keep K5q).keep K6q).keep K7q).keep K8q).keep K9q).keep K10q).keep K11q).keep K12q).keep K14q).keep K15q).keep K16q).keep K17q).keep K18q).keep K19q).keep K20q) ((((((((((((((((((F_el.keep K1q nin0).keep K2q nin0).keep K4q nin0).keep K5q (ninS (Nat.ne_of_lt (Nat.lt_of_lt_of_le (E_el.keep K1q).lt sz_b2)) nin0)).keep K6q nin0).keep K7q (ninS (Nat.ne_of_lt (Nat.lt_of_lt_of_le ((((E_el.keep K1q).keep K2q).keep K4q).keep K5q).lt sz_b6)) nin0)).keep K8q (ninS (Nat.ne_of_lt (Nat.lt_of_lt_of_le E_el.lt sz_b1)) nin0)).keep K9q nin0).keep K10q (ninS (Nat.ne_of_lt (Nat.lt_of_lt_of_le (((((((E_el.keep K1q).keep K2q).keep K4q).keep K5q).keep K6q).keep K7q).keep K8q).lt sz_b9)) nin0)).keep K11q nin0).keep K12q nin0).keep K14q nin0).keep K15q (ninS (Nat.ne_of_lt (Nat.lt_of_lt_of_le (((((((((E_el.keep K1q).keep K2q).keep K4q).keep K5q).keep K6q).keep K7q).keep K8q).keep K9q).keep K10q).lt sz_b11)) nin0)).keep K16q (ninS (Nat.ne_of_lt (Nat.lt_of_lt_of_le (((((((E_el.keep K1q).keep K2q).keep K4q).keep K5q).keep K6q).keep K7q).keep K8q).lt sz_b9)) nin0)).keep K17q nin0).keep K18q nin0).keep K19q nin0).keep K20q (ninS (Nat.ne_of_lt (Nat.lt_of_lt_of_le ((((((((((((((((E_el.keep K1q).keep K2q).keep K4q).keep K5q).keep K6q).keep K7q).keep K8q).keep K9q).keep K10q).keep K11q).keep K12q).keep K14q).keep K15q).keep K16q).keep K17q).keep K18q).lt sz_b19)) nin0)) ((((((((((((((((((V_ee.keep K1q nin0).keep K2q nin0).keep K4q nin0).keep K5q (ninS (Nat.ne_of_lt (Nat.lt_of_lt_of_le (V_ee.keep K1q nin0).lt sz_b2)) nin0)).keep K6q nin0).keep K7q (ninS (Nat.ne_of_lt (Nat.lt_of_lt_of_le ((((V_ee.keep K1q nin0).keep K2q nin0).keep K4q nin0).keep K5q (ninS (Nat.ne_of_lt (Nat.lt_of_lt_of_le (V_ee.keep K1q nin0).lt sz_b2)) nin0)).lt sz_b6)) nin0)).keep K8q (ninS (Nat.ne_of_lt (Nat.lt_of_lt_of_le V_ee.lt sz_b1)) nin0)).keep K9q nin0).keep K10q (ninS (Nat.ne_of_lt (Nat.lt_of_lt_of_le (((((((V_ee.keep K1q nin0).keep K2q nin0).keep K4q nin0).keep K5q (ninS (Nat.ne_of_lt (Nat.lt_of_lt_of_le (V_ee.keep K1q nin0).lt sz_b2)) nin0)).keep K6q nin0).keep K7q (ninS (Nat.ne_of_lt (Nat.lt_of_lt_of_le ((((V_ee.keep K1q nin0).keep K2q nin0).keep K4q nin0).keep K5q (ninS (Nat.ne_of_lt (Nat.lt_of_lt_of_le (V_ee.keep K1q nin0).lt sz_b2)) nin0)).lt sz_b6)) nin0)).keep K8q (ninS (Nat.ne_of_lt (Nat.lt_of_lt_of_le V_ee.lt sz_b1)) nin0)).lt sz_b9)) nin0)).keep K11q nin0).keep K12q nin0).keep K14q nin0).keep K15q (ninS (Nat.ne_of_lt (Nat.lt_of_lt_of_le (((((((((V_ee.keep K1q nin0).keep K2q nin0).keep K4q nin0).keep K5q (ninS (Nat.ne_of_lt (Nat.lt_of_lt_of_le (V_ee.keep K1q nin0).lt sz_b2)) nin0)).keep K6q nin0).keep K7q (ninS (Nat.ne_of_lt (Nat.lt_of_lt_of_le ((((V_ee.keep K1q nin0).keep K2q nin0).keep K4q nin0).keep K5q (ninS (Nat.ne_of_lt (Nat.lt_of_lt_of_le (V_ee.keep K1q nin0).lt sz_b2)) nin0)).lt sz_b6)) nin0)).keep K8q (ninS (Nat.ne_of_lt (Nat.lt_of_lt_of_le V_ee.lt sz_b1)) nin0)).keep K9q nin0).keep K10q (ninS (Nat.ne_of_lt (Nat.lt_of_lt_of_le (((((((V_ee.keep K1q nin0).keep K2q nin0).keep K4q nin0).keep K5q (ninS (Nat.ne_of_lt (Nat.lt_of_lt_of_le (V_ee.keep K1q nin0).lt sz_b2)) nin0)).keep K6q nin0).keep K7q (ninS (Nat.ne_of_lt (Nat.lt_of_lt_of_le ((((V_ee.keep K1q nin0).keep K2q nin0).keep K4q nin0).keep K5q (ninS (Nat.ne_of_lt (Nat.lt_of_lt_of_le (V_ee.keep K1q nin0).lt sz_b2)) nin0)).lt sz_b6)) nin0)).keep K8q (ninS (Nat.ne_of_lt (Nat.lt_of_lt_of_le V_ee.lt sz_b1)) nin0)).lt sz_b9)) nin0)).lt sz_b11)) nin0)).keep K16q (ninS (Nat.ne_of_lt (Nat.lt_of_lt_of_le (((((((V_ee.keep K1q nin0).keep K2q nin0).keep K4q nin0).keep K5q (ninS (Nat.ne_of_lt (Nat.lt_of_lt_of_le (V_ee.keep K1q nin0).lt sz_b2)) nin0)).keep K6q nin0).keep K7q (ninS (Nat.ne_of_lt (Nat.lt_of_lt_of_le ((((V_ee.keep K1q nin0).keep K2q nin0).keep K4q nin0).keep K5q (ninS (Nat.ne_of_lt (Nat.lt_of_lt_of_le (V_ee.keep K1q nin0).lt sz_b2)) nin0)).lt sz_b6)) nin0)).keep K8q (ninS (Nat.ne_of_lt (Nat.lt_of_lt_of_le V_ee.lt sz_b1)) nin0)).lt sz_b9)) nin0)).keep K17q nin0).keep K18q nin0).keep K19q nin0).keep K20q (ninS (Nat.ne_of_lt (Nat.lt_of_lt_of_le ((((((((((((((((V_ee.keep K1q nin0).keep K2q nin0).keep K4q nin0).keep K5q (ninS (Nat.ne_of_lt (Nat.lt_of_lt_of_le (V_ee.keep K1q nin0).lt sz_b2)) nin0)).keep K6q nin0).keep K7q (ninS (Nat.ne_of_lt (Nat.lt_of_lt_of_le ((((V_ee.keep K1q nin0).keep K2q nin0).keep K4q nin0).keep K5q (ninS (Nat.ne_of_lt (Nat.lt_of_lt_of_le (V_ee.keep K1q nin0).lt sz_b2)) nin0)).lt sz_b6)) nin0)).keep K8q (ninS (Nat.ne_of_lt (Nat.lt_of_lt_of_le V_ee.lt sz_b1)) nin0)).keep K9q nin0).keep K10q (ninS (Nat.ne_of_lt (Nat.lt_of_lt_of_le (((((((V_ee.keep K1q nin0).keep K2q nin0).keep K4q nin0).keep K5q (ninS (Nat.ne_of_lt (Nat.lt_of_lt_of_le (V_ee.keep K1q nin0).lt sz_b2)) nin0)).keep K6q nin0).keep K7q (ninS (Nat.ne_of_lt (Nat.lt_of_lt_of_le ((((V_ee.keep K1q nin0).keep K2q nin0).keep K4q nin0).keep K5q (ninS (Nat.ne_of_lt (Nat.lt_of_lt_of_le (V_ee.keep K1q nin0).lt sz_b2)) nin0)).lt sz_b6)) nin0)).keep K8q (ninS (Nat.ne_of_lt (Nat.lt_of_lt_of_le V_ee.lt sz_b1)) nin0)).lt sz_b9)) nin0)).keep K11q nin0).keep K12q nin0).keep K14q nin0).keep K15q (ninS (Nat.ne_of_lt (Nat.lt_of_lt_of_le (((((((((V_ee.keep K1q nin0).keep K2q nin0).keep K4q nin0).keep K5q (ninS (Nat.ne_of_lt (Nat.lt_of_lt_of_le (V_ee.keep K1q nin0).lt sz_b2)) nin0)).keep K6q nin0).keep K7q (ninS (Nat.ne_of_lt (Nat.lt_of_lt_of_le ((((V_ee.keep K1q nin0).keep K2q nin0).keep K4q nin0).keep K5q (ninS (Nat.ne_of_lt (Nat.lt_of_lt_of_le (V_ee.keep K1q nin0).lt sz_b2)) nin0)).lt sz_b6)) nin0)).keep K8q (ninS (Nat.ne_of_lt (Nat.lt_of_lt_of_le V_ee.lt sz_b1)) nin0)).keep K9q nin0).keep K10q (ninS (Nat.ne_of_lt (Nat.lt_of_lt_of_le (((((((V_ee.keep K1q nin0).keep K2q nin0).keep K4q nin0).keep K5q (ninS (Nat.ne_of_lt (Nat.lt_of_lt_of_le (V_ee.keep K1q nin0).lt sz_b2)) nin0)).keep K6q nin0).keep K7q (ninS (Nat.ne_of_lt (Nat.lt_of_lt_of_le ((((V_ee.keep K1q nin0).keep K2q nin0).keep K4q nin0).keep K5q (ninS (Nat.ne_of_lt (Nat.lt_of_lt_of_le (V_ee.keep K1q nin0).lt sz_b2)) nin0)).lt sz_b6)) nin0)).keep K8q (ninS (Nat.ne_of_lt (Nat.lt_of_lt_of_le V_ee.lt sz_b1)) nin0)).lt sz_b9)) nin0)).lt sz_b11)) nin0)).keep K16q (ninS (Nat.ne_of_lt (Nat.lt_of_lt_of_le (((((((V_ee.keep K1q nin0).keep K2q nin0).keep K4q nin0).keep K5q (ninS (Nat.ne_of_lt (Nat.lt_of_lt_of_le (V_ee.keep K1q nin0).lt sz_b2)) nin0)).keep K6q nin0).keep K7q (ninS (Nat.ne_of_lt (Nat.lt_of_lt_of_le ((((V_ee.keep K1q nin0).keep K2q nin0).keep K4q nin0).keep K5q (ninS (Nat.ne_of_lt (Nat.lt_of_lt_of_le (V_ee.keep K1q nin0).lt sz_b2)) nin0)).lt sz_b6)) nin0)).keep K8q (ninS (Nat.ne_of_lt (Nat.lt_of_lt_of_le V_ee.lt sz_b1)) nin0)).lt sz_b9)) nin0)).keep K17q nin0).keep K18q nin0).lt sz_b19)) nin0)) M_o) hZ (hw _ (List.mem_of_getElem? (i := 161) rfl)) (hw _ (List.mem_of_getElem? (i := 157) rfl)) (by decide) (by decide)) (g := (mkF m 80 #[.val (.int p0), .val (.int p1), .val (.int p2), .val (.ref b1), .val (.ref b9), .unset, .unset, .unset, .unset, .unset, .unset] [(.ref b19), (.int p1), (.int p0), (.ref b9), (.ref b1), (.long (0 : Int64)), (.ref a18), (.ref b17), (.ref b17)])) rfl (by rw [hml]; rfl) (Steps.refl _) (a := b17) (argsL := [(.ref a18), (.long (0 : Int64)), (.ref b1), (.ref b9), (.int p0), (.int p1), (.ref b19)]) (rest := [(.ref b17)]) (lenOf pd__Ljava_lang_String_JLcom_example_refleash_refleash_heap_Trace_Ljava_util_List_IILjava_util_List__V rfl) rfl (by show 2 * 0 + _ ≤ _; exact Nat.le_of_eq rfl) (hb hby at_80) (fun _ _ => ⟨rfl, rfl, (by decide : 16 + 2 ≤ _), (by decide : 70 + 3 ≤ _)⟩)
  dsimp only [Pt.U, Pt.locs, Pt.cells, Pt.slots] at X21 l21 y21 z21 st21 hQ21
  subst l21 y21 z21
  obtain ⟨rfl, N21q, K21q, E21q, F21qf, F21qe⟩ := hQ21
  have N21 := Fr.app N20 N21q
  have K21 : Keep h0 T21.heap [] := K20.trans K21q (allS (Or.inr sz0_b17) all0)
  obtain ⟨cq22, kq22, q22a, q22b, q22c⟩ := isOf hZ rfl E21q
  obtain ⟨_, _, ⟨T22, L22, k22, n22⟩, -, X22, ⟨Lc22, hQ22, l22, y22, z22⟩, st22⟩ := X21.virtualBack hx (y := (⟨"com/example/refleash/refleash/heap/Leak", "isSuspect", "(I)Z"⟩ : MethodName)) (z := (⟨"com/example/refleash/refleash/heap/Leak", "isSuspect", "(I)Z"⟩ : MethodName)) hown (mvT hZ (hw _ (List.mem_of_getElem? (i := 262) rfl))) (mvT hZ (hw _ (List.mem_of_getElem? (i := 263) rfl))) (notFace_of_selects (args := #[]) (mvT hZ (hw _ (List.mem_of_getElem? (i := 265) rfl)))) (mvT hZ (hw _ (List.mem_of_getElem? (i := 265) rfl))) (mvT hZ (hw _ (List.mem_of_getElem? (i := 264) rfl))) (by decide) (backOf (W := 0) (susp_0 l Z a0 hw [] b17 p2 p0 p1 T21.heap n0 (Nat.le_trans Z0 K21.1) F21qf F21qe (Or.inr hB)) hZ (hw _ (List.mem_of_getElem? (i := 266) rfl)) (hw _ (List.mem_of_getElem? (i := 157) rfl)) (by decide) (by decide)) q22a q22c (g := (mkF m 124 #[.val (.int p0), .val (.int p1), .val (.int p2), .val (.ref b1), .val (.ref b9), .val (.ref b17), .val (.long ((p2.toInt64) - (p0.toInt64))), .second, .val (.long ((p1.toInt64) - (p0.toInt64))), .second, .val (.int (0 : Int32))] [(.int p2), (.ref b17)])) rfl (by rw [hml]; rfl) (Steps.refl _) (argsL := [(.int p2)]) (rest := []) (lenOf pd__I_Z rfl) rfl (by show 2 * 0 + _ ≤ _; exact Nat.le_of_eq rfl) (hb hby at_124) (fun _ _ => ⟨rfl, rfl, (by decide : 18 + 0 ≤ _), (by decide : 73 + 0 ≤ _)⟩)
  dsimp only [Pt.U, Pt.locs, Pt.cells, Pt.slots] at X22 l22 y22 z22 st22 hQ22
  subst l22 y22 z22
  obtain ⟨rfl, N22q, e22⟩ := hQ22
  have N22 := Fr.app N21 N22q
  obtain ⟨cq23, kq23, q23a, q23b, q23c⟩ := isOf hZ e22 E21q
  obtain ⟨_, _, ⟨T23, L23, k23, n23⟩, -, X23, ⟨Lc23, hQ23, l23, y23, z23⟩, st23⟩ := X22.virtualBack hx (y := (⟨"com/example/refleash/refleash/heap/Leak", "isSuspect", "(I)Z"⟩ : MethodName)) (z := (⟨"com/example/refleash/refleash/heap/Leak", "isSuspect", "(I)Z"⟩ : MethodName)) hown (mvT hZ (hw _ (List.mem_of_getElem? (i := 262) rfl))) (mvT hZ (hw _ (List.mem_of_getElem? (i := 263) rfl))) (notFace_of_selects (args := #[]) (mvT hZ (hw _ (List.mem_of_getElem? (i := 265) rfl)))) (mvT hZ (hw _ (List.mem_of_getElem? (i := 265) rfl))) (mvT hZ (hw _ (List.mem_of_getElem? (i := 264) rfl))) (by decide) (backOf (W := 0) (susp_0 l Z a0 hw [] b17 p1 p0 p1 T21.heap n0 (Nat.le_trans Z0 K21.1) F21qf F21qe (Or.inr (own_irr p1))) hZ (hw _ (List.mem_of_getElem? (i := 266) rfl)) (hw _ (List.mem_of_getElem? (i := 157) rfl)) (by decide) (by decide)) q23a q23c (g := (mkF m 135 #[.val (.int p0), .val (.int p1), .val (.int p2), .val (.ref b1), .val (.ref b9), .val (.ref b17), .val (.long ((p2.toInt64) - (p0.toInt64))), .second, .val (.long ((p1.toInt64) - (p0.toInt64))), .second, .val (.int (0 : Int32))] [(.int p1), (.ref b17)])) rfl (by rw [hml]; rfl) (Steps.refl _) (argsL := [(.int p1)]) (rest := []) (lenOf pd__I_Z rfl) rfl (by show 2 * 0 + _ ≤ _; exact Nat.le_of_eq rfl) (hb hby at_135) (fun _ _ => ⟨rfl, e22, (by decide : 18 + 0 ≤ _), (by decide : 73 + 0 ≤ _)⟩)
  dsimp only [Pt.U, Pt.locs, Pt.cells, Pt.slots] at X23 l23 y23 z23 st23 hQ23
  subst l23 y23 z23
  obtain ⟨rfl, N23q, e23⟩ := hQ23
  have N23 := Fr.app N22 N23q
  obtain ⟨cq24, kq24, q24a, q24b, q24c⟩ := isOf hZ e23 E21q
  obtain ⟨_, _, ⟨T24, L24, k24, n24⟩, -, X24, ⟨Lc24, hQ24, l24, y24, z24⟩, st24⟩ := X23.virtualBack hx (y := (⟨"com/example/refleash/refleash/heap/Leak", "isSuspect", "(I)Z"⟩ : MethodName)) (z := (⟨"com/example/refleash/refleash/heap/Leak", "isSuspect", "(I)Z"⟩ : MethodName)) hown (mvT hZ (hw _ (List.mem_of_getElem? (i := 262) rfl))) (mvT hZ (hw _ (List.mem_of_getElem? (i := 263) rfl))) (notFace_of_selects (args := #[]) (mvT hZ (hw _ (List.mem_of_getElem? (i := 265) rfl)))) (mvT hZ (hw _ (List.mem_of_getElem? (i := 265) rfl))) (mvT hZ (hw _ (List.mem_of_getElem? (i := 264) rfl))) (by decide) (backOf (W := 0) (susp_0 l Z a0 hw [] b17 p0 p0 p1 T21.heap n0 (Nat.le_trans Z0 K21.1) F21qf F21qe (Or.inr hD)) hZ (hw _ (List.mem_of_getElem? (i := 266) rfl)) (hw _ (List.mem_of_getElem? (i := 157) rfl)) (by decide) (by decide)) q24a q24c (g := (mkF m 144 #[.val (.int p0), .val (.int p1), .val (.int p2), .val (.ref b1), .val (.ref b9), .val (.ref b17), .val (.long ((p2.toInt64) - (p0.toInt64))), .second, .val (.long ((p1.toInt64) - (p0.toInt64))), .second, .val (.int (0 : Int32))] [(.int p0), (.ref b17)])) rfl (by rw [hml]; rfl) (Steps.refl _) (argsL := [(.int p0)]) (rest := []) (lenOf pd__I_Z rfl) rfl (by show 2 * 0 + _ ≤ _; exact Nat.le_of_eq rfl) (hb hby at_144) (fun _ _ => ⟨rfl, e23, (by decide : 18 + 0 ≤ _), (by decide : 73 + 0 ≤ _)⟩)
  dsimp only [Pt.U, Pt.locs, Pt.cells, Pt.slots] at X24 l24 y24 z24 st24 hQ24
  subst l24 y24 z24
  obtain ⟨rfl, N24q, e24⟩ := hQ24
  have N24 := Fr.app N23 N24q
  obtain ⟨fs, hr, hrun, hended, hEnd⟩ := leaveW X24 S18 (by rw [e24]; exact (Nat.le_trans (Nat.le_trans (Nat.le_trans hk18 K19q.1) K20q.1) K21q.1)) (v := some (.int (1 : Int32))) (fun h => by rw [Bd.returns] at h; cases h) Bd.notSynchronized
  refine ⟨_, _, pre0 _ ?_, hrun, hended, _, _, rfl, ?_, hEnd.1, hEnd.2.1, hEnd.2.2.1, hEnd.2.2.2.mono (by decide) (by decide)⟩
  · show Steps p.tables e below (s₁.setTop (mkF m 0 #[.val (.int p0), .val (.int p1), .val (.int p2), .unset, .unset, .unset, .unset, .unset, .unset, .unset, .unset] [])) _
    refine st1 _ ?_
    show Steps p.tables e below (T1.setTop (mkF m 3 #[.val (.int p0), .val (.int p1), .val (.int p2), .unset, .unset, .unset, .unset, .unset, .unset, .unset, .unset] [(.ref b1)])) _
    refine XS.dup X1.here hx rfl (hb hby at_3) rfl rfl ?_
    show Steps p.tables e below (T1.setTop (mkF m 4 #[.val (.int p0), .val (.int p1), .val (.int p2), .unset, .unset, .unset, .unset, .unset, .unset, .unset, .unset] [(.ref b1), (.ref b1)])) _
    refine XS.lconst X1.here hx rfl (hb hby at_4) ?_
    show Steps p.tables e below (T1.setTop (mkF m 5 #[.val (.int p0), .val (.int p1), .val (.int p2), .unset, .unset, .unset, .unset, .unset, .unset, .unset, .unset] [(.long (0 : Int64)), (.ref b1), (.ref b1)])) _
    refine st2 _ ?_
    show Steps p.tables e below (T2.setTop (mkF m 8 #[.val (.int p0), .val (.int p1), .val (.int p2), .unset, .unset, .unset, .unset, .unset, .unset, .unset, .unset] [(.ref b2), (.long (0 : Int64)), (.ref b1), (.ref b1)])) _
    refine XS.dup X2.here hx rfl (hb hby at_8) rfl rfl ?_
    show Steps p.tables e below (T2.setTop (mkF m 9 #[.val (.int p0), .val (.int p1), .val (.int p2), .unset, .unset, .unset, .unset, .unset, .unset, .unset, .unset] [(.ref b2), (.ref b2), (.long (0 : Int64)), (.ref b1), (.ref b1)])) _
    refine st3 _ ?_
    show Steps p.tables e below (T3.setTop (mkF m 12 #[.val (.int p0), .val (.int p1), .val (.int p2), .unset, .unset, .unset, .unset, .unset, .unset, .unset, .unset] [(.ref w_CLASS), (.ref b2), (.ref b2), (.long (0 : Int64)), (.ref b1), (.ref b1)])) _
    refine st4 _ ?_
    show Steps p.tables e below (T4.setTop (mkF m 14 #[.val (.int p0), .val (.int p1), .val (.int p2), .unset, .unset, .unset, .unset, .unset, .unset, .unset, .unset] [(.ref a4), (.ref w_CLASS), (.ref b2), (.ref b2), (.long (0 : Int64)), (.ref b1), (.ref b1)])) _
    refine XS.aconstNull X4.here hx rfl (hb hby at_14) ?_
    show Steps p.tables e below (T4.setTop (mkF m 15 #[.val (.int p0), .val (.int p1), .val (.int p2), .unset, .unset, .unset, .unset, .unset, .unset, .unset, .unset] [.null, (.ref a4), (.ref w_CLASS), (.ref b2), (.ref b2), (.long (0 : Int64)), (.ref b1), (.ref b1)])) _
    refine XS.aconstNull X4.here hx rfl (hb hby at_15) ?_
    show Steps p.tables e below (T4.setTop (mkF m 16 #[.val (.int p0), .val (.int p1), .val (.int p2), .unset, .unset, .unset, .unset, .unset, .unset, .unset, .unset] [.null, .null, (.ref a4), (.ref w_CLASS), (.ref b2), (.ref b2), (.long (0 : Int64)), (.ref b1), (.ref b1)])) _
    refine st5.trans ?_
    show Steps p.tables e below (T5.setTop (mkF m 19 #[.val (.int p0), .val (.int p1), .val (.int p2), .unset, .unset, .unset, .unset, .unset, .unset, .unset, .unset] [(.ref b2), (.long (0 : Int64)), (.ref b1), (.ref b1)])) _
    refine st6 _ ?_
    show Steps p.tables e below (T6.setTop (mkF m 22 #[.val (.int p0), .val (.int p1), .val (.int p2), .unset, .unset, .unset, .unset, .unset, .unset, .unset, .unset] [(.ref b6), (.ref b2), (.long (0 : Int64)), (.ref b1), (.ref b1)])) _
    refine XS.dup X6.here hx rfl (hb hby at_22) rfl rfl ?_
    show Steps p.tables e below (T6.setTop (mkF m 23 #[.val (.int p0), .val (.int p1), .val (.int p2), .unset, .unset, .unset, .unset, .unset, .unset, .unset, .unset] [(.ref b6), (.ref b6), (.ref b2), (.long (0 : Int64)), (.ref b1), (.ref b1)])) _
    refine st7.trans ?_
    show Steps p.tables e below (T7.setTop (mkF m 26 #[.val (.int p0), .val (.int p1), .val (.int p2), .unset, .unset, .unset, .unset, .unset, .unset, .unset, .unset] [(.ref b6), (.ref b2), (.long (0 : Int64)), (.ref b1), (.ref b1)])) _
    refine XS.lconst X7.here hx rfl (hb hby at_26) ?_
    show Steps p.tables e below (T7.setTop (mkF m 27 #[.val (.int p0), .val (.int p1), .val (.int p2), .unset, .unset, .unset, .unset, .unset, .unset, .unset, .unset] [(.long (0 : Int64)), (.ref b6), (.ref b2), (.long (0 : Int64)), (.ref b1), (.ref b1)])) _
    refine XS.lconst X7.here hx rfl (hb hby at_27) ?_
    show Steps p.tables e below (T7.setTop (mkF m 28 #[.val (.int p0), .val (.int p1), .val (.int p2), .unset, .unset, .unset, .unset, .unset, .unset, .unset, .unset] [(.long (0 : Int64)), (.long (0 : Int64)), (.ref b6), (.ref b2), (.long (0 : Int64)), (.ref b1), (.ref b1)])) _
    refine st8.trans ?_
    show Steps p.tables e below (T8.setTop (mkF m 31 #[.val (.int p0), .val (.int p1), .val (.int p2), .unset, .unset, .unset, .unset, .unset, .unset, .unset, .unset] [(.ref b1)])) _
    refine XS.astoreN X8.here hx rfl (hb hby at_31) rfl rfl (l' := #[.val (.int p0), .val (.int p1), .val (.int p2), .val (.ref b1), .unset, .unset, .unset, .unset, .unset, .unset, .unset]) rfl ?_
    show Steps p.tables e below (T8.setTop (mkF m 32 #[.val (.int p0), .val (.int p1), .val (.int p2), .val (.ref b1), .unset, .unset, .unset, .unset, .unset, .unset, .unset] [])) _
    refine st9 _ ?_
    show Steps p.tables e below (T9.setTop (mkF m 35 #[.val (.int p0), .val (.int p1), .val (.int p2), .val (.ref b1), .unset, .unset, .unset, .unset, .unset, .unset, .unset] [(.ref b9)])) _
    refine XS.dup X9.here hx rfl (hb hby at_35) rfl rfl ?_
    show Steps p.tables e below (T9.setTop (mkF m 36 #[.val (.int p0), .val (.int p1), .val (.int p2), .val (.ref b1), .unset, .unset, .unset, .unset, .unset, .unset, .unset] [(.ref b9), (.ref b9)])) _
    refine st10.trans ?_
    show Steps p.tables e below (T10.setTop (mkF m 39 #[.val (.int p0), .val (.int p1), .val (.int p2), .val (.ref b1), .unset, .unset, .unset, .unset, .unset, .unset, .unset] [(.ref b9)])) _
    refine XS.astore X10.here hx rfl (hb hby at_39) rfl rfl (l' := #[.val (.int p0), .val (.int p1), .val (.int p2), .val (.ref b1), .val (.ref b9), .unset, .unset, .unset, .unset, .unset, .unset]) rfl ?_
    show Steps p.tables e below (T10.setTop (mkF m 41 #[.val (.int p0), .val (.int p1), .val (.int p2), .val (.ref b1), .val (.ref b9), .unset, .unset, .unset, .unset, .unset, .unset] [])) _
    refine XS.aload X10.here hx rfl (hb hby at_41) rfl rfl ?_
    show Steps p.tables e below (T10.setTop (mkF m 43 #[.val (.int p0), .val (.int p1), .val (.int p2), .val (.ref b1), .val (.ref b9), .unset, .unset, .unset, .unset, .unset, .unset] [(.ref b9)])) _
    refine st11 _ ?_
    show Steps p.tables e below (T11.setTop (mkF m 46 #[.val (.int p0), .val (.int p1), .val (.int p2), .val (.ref b1), .val (.ref b9), .unset, .unset, .unset, .unset, .unset, .unset] [(.ref b11), (.ref b9)])) _
    refine XS.dup X11.here hx rfl (hb hby at_46) rfl rfl ?_
    show Steps p.tables e below (T11.setTop (mkF m 47 #[.val (.int p0), .val (.int p1), .val (.int p2), .val (.ref b1), .val (.ref b9), .unset, .unset, .unset, .unset, .unset, .unset] [(.ref b11), (.ref b11), (.ref b9)])) _
    refine st12 _ ?_
    show Steps p.tables e below (T12.setTop (mkF m 49 #[.val (.int p0), .val (.int p1), .val (.int p2), .val (.ref b1), .val (.ref b9), .unset, .unset, .unset, .unset, .unset, .unset] [(.ref a12), (.ref b11), (.ref b11), (.ref b9)])) _
    refine st13 _ ?_
    show Steps p.tables e below (T13.setTop (mkF m 52 #[.val (.int p0), .val (.int p1), .val (.int p2), .val (.ref b1), .val (.ref b9), .unset, .unset, .unset, .unset, .unset, .unset] [(.ref w_UNKNOWN), (.ref a12), (.ref b11), (.ref b11), (.ref b9)])) _
    refine st14 _ ?_
    show Steps p.tables e below (T14.setTop (mkF m 54 #[.val (.int p0), .val (.int p1), .val (.int p2), .val (.ref b1), .val (.ref b9), .unset, .unset, .unset, .unset, .unset, .unset] [(.ref a14), (.ref w_UNKNOWN), (.ref a12), (.ref b11), (.ref b11), (.ref b9)])) _
    refine st15.trans ?_
    show Steps p.tables e below (T15.setTop (mkF m 57 #[.val (.int p0), .val (.int p1), .val (.int p2), .val (.ref b1), .val (.ref b9), .unset, .unset, .unset, .unset, .unset, .unset] [(.ref b11), (.ref b9)])) _
    refine st16.trans ?_
    show Steps p.tables e below (T16.setTop (mkF m 60 #[.val (.int p0), .val (.int p1), .val (.int p2), .val (.ref b1), .val (.ref b9), .unset, .unset, .unset, .unset, .unset, .unset] [(.int (1 : Int32))])) _
    refine XS.pop X16.here hx rfl (hb hby at_60) rfl rfl ?_
    show Steps p.tables e below (T16.setTop (mkF m 61 #[.val (.int p0), .val (.int p1), .val (.int p2), .val (.ref b1), .val (.ref b9), .unset, .unset, .unset, .unset, .unset, .unset] [])) _
    refine st17 _ ?_
    show Steps p.tables e below (T17.setTop (mkF m 64 #[.val (.int p0), .val (.int p1), .val (.int p2), .val (.ref b1), .val (.ref b9), .unset, .unset, .unset, .unset, .unset, .unset] [(.ref b17)])) _
    refine XS.dup X17.here hx rfl (hb hby at_64) rfl rfl ?_
    show Steps p.tables e below (T17.setTop (mkF m 65 #[.val (.int p0), .val (.int p1), .val (.int p2), .val (.ref b1), .val (.ref b9), .unset, .unset, .unset, .unset, .unset, .unset] [(.ref b17), (.ref b17)])) _
    refine st18 _ ?_
    show Steps p.tables e below (T18.setTop (mkF m 67 #[.val (.int p0), .val (.int p1), .val (.int p2), .val (.ref b1), .val (.ref b9), .unset, .unset, .unset, .unset, .unset, .unset] [(.ref a18), (.ref b17), (.ref b17)])) _
    refine XS.lconst X18.here hx rfl (hb hby at_67) ?_
    show Steps p.tables e below (T18.setTop (mkF m 68 #[.val (.int p0), .val (.int p1), .val (.int p2), .val (.ref b1), .val (.ref b9), .unset, .unset, .unset, .unset, .unset, .unset] [(.long (0 : Int64)), (.ref a18), (.ref b17), (.ref b17)])) _
    refine XS.aloadN X18.here hx rfl (hb hby at_68) rfl rfl ?_
    show Steps p.tables e below (T18.setTop (mkF m 69 #[.val (.int p0), .val (.int p1), .val (.int p2), .val (.ref b1), .val (.ref b9), .unset, .unset, .unset, .unset, .unset, .unset] [(.ref b1), (.long (0 : Int64)), (.ref a18), (.ref b17), (.ref b17)])) _
    refine XS.aload X18.here hx rfl (hb hby at_69) rfl rfl ?_
    show Steps p.tables e below (T18.setTop (mkF m 71 #[.val (.int p0), .val (.int p1), .val (.int p2), .val (.ref b1), .val (.ref b9), .unset, .unset, .unset, .unset, .unset, .unset] [(.ref b9), (.ref b1), (.long (0 : Int64)), (.ref a18), (.ref b17), (.ref b17)])) _
    refine XS.iloadN X18.here hx rfl (hb hby at_71) rfl ?_
    show Steps p.tables e below (T18.setTop (mkF m 72 #[.val (.int p0), .val (.int p1), .val (.int p2), .val (.ref b1), .val (.ref b9), .unset, .unset, .unset, .unset, .unset, .unset] [(.int p0), (.ref b9), (.ref b1), (.long (0 : Int64)), (.ref a18), (.ref b17), (.ref b17)])) _
    refine XS.iloadN X18.here hx rfl (hb hby at_72) rfl ?_
    show Steps p.tables e below (T18.setTop (mkF m 73 #[.val (.int p0), .val (.int p1), .val (.int p2), .val (.ref b1), .val (.ref b9), .unset, .unset, .unset, .unset, .unset, .unset] [(.int p1), (.int p0), (.ref b9), (.ref b1), (.long (0 : Int64)), (.ref a18), (.ref b17), (.ref b17)])) _
    refine st19 _ ?_
    show Steps p.tables e below (T19.setTop (mkF m 76 #[.val (.int p0), .val (.int p1), .val (.int p2), .val (.ref b1), .val (.ref b9), .unset, .unset, .unset, .unset, .unset, .unset] [(.ref b19), (.int p1), (.int p0), (.ref b9), (.ref b1), (.long (0 : Int64)), (.ref a18), (.ref b17), (.ref b17)])) _
    refine XS.dup X19.here hx rfl (hb hby at_76) rfl rfl ?_
    show Steps p.tables e below (T19.setTop (mkF m 77 #[.val (.int p0), .val (.int p1), .val (.int p2), .val (.ref b1), .val (.ref b9), .unset, .unset, .unset, .unset, .unset, .unset] [(.ref b19), (.ref b19), (.int p1), (.int p0), (.ref b9), (.ref b1), (.long (0 : Int64)), (.ref a18), (.ref b17), (.ref b17)])) _
    refine st20.trans ?_
    show Steps p.tables e below (T20.setTop (mkF m 80 #[.val (.int p0), .val (.int p1), .val (.int p2), .val (.ref b1), .val (.ref b9), .unset, .unset, .unset, .unset, .unset, .unset] [(.ref b19), (.int p1), (.int p0), (.ref b9), (.ref b1), (.long (0 : Int64)), (.ref a18), (.ref b17), (.ref b17)])) _
    refine st21.trans ?_
    show Steps p.tables e below (T21.setTop (mkF m 83 #[.val (.int p0), .val (.int p1), .val (.int p2), .val (.ref b1), .val (.ref b9), .unset, .unset, .unset, .unset, .unset, .unset] [(.ref b17)])) _
    refine XS.astore X21.here hx rfl (hb hby at_83) rfl rfl (l' := #[.val (.int p0), .val (.int p1), .val (.int p2), .val (.ref b1), .val (.ref b9), .val (.ref b17), .unset, .unset, .unset, .unset, .unset]) rfl ?_
    show Steps p.tables e below (T21.setTop (mkF m 85 #[.val (.int p0), .val (.int p1), .val (.int p2), .val (.ref b1), .val (.ref b9), .val (.ref b17), .unset, .unset, .unset, .unset, .unset] [])) _
    refine XS.iloadN X21.here hx rfl (hb hby at_85) rfl ?_
    show Steps p.tables e below (T21.setTop (mkF m 86 #[.val (.int p0), .val (.int p1), .val (.int p2), .val (.ref b1), .val (.ref b9), .val (.ref b17), .unset, .unset, .unset, .unset, .unset] [(.int p2)])) _
    refine XS.i2l X21.here hx rfl (hb hby at_86) rfl ?_
    show Steps p.tables e below (T21.setTop (mkF m 87 #[.val (.int p0), .val (.int p1), .val (.int p2), .val (.ref b1), .val (.ref b9), .val (.ref b17), .unset, .unset, .unset, .unset, .unset] [(.long (p2.toInt64))])) _
    refine XS.iloadN X21.here hx rfl (hb hby at_87) rfl ?_
    show Steps p.tables e below (T21.setTop (mkF m 88 #[.val (.int p0), .val (.int p1), .val (.int p2), .val (.ref b1), .val (.ref b9), .val (.ref b17), .unset, .unset, .unset, .unset, .unset] [(.int p0), (.long (p2.toInt64))])) _
    refine XS.i2l X21.here hx rfl (hb hby at_88) rfl ?_
    show Steps p.tables e below (T21.setTop (mkF m 89 #[.val (.int p0), .val (.int p1), .val (.int p2), .val (.ref b1), .val (.ref b9), .val (.ref b17), .unset, .unset, .unset, .unset, .unset] [(.long (p0.toInt64)), (.long (p2.toInt64))])) _
    refine XS.lsub X21.here hx rfl (hb hby at_89) rfl ?_
    show Steps p.tables e below (T21.setTop (mkF m 90 #[.val (.int p0), .val (.int p1), .val (.int p2), .val (.ref b1), .val (.ref b9), .val (.ref b17), .unset, .unset, .unset, .unset, .unset] [(.long ((p2.toInt64) - (p0.toInt64)))])) _
    refine XS.lstore X21.here hx rfl (hb hby at_90) rfl (l' := #[.val (.int p0), .val (.int p1), .val (.int p2), .val (.ref b1), .val (.ref b9), .val (.ref b17), .val (.long ((p2.toInt64) - (p0.toInt64))), .second, .unset, .unset, .unset]) rfl ?_
    show Steps p.tables e below (T21.setTop (mkF m 92 #[.val (.int p0), .val (.int p1), .val (.int p2), .val (.ref b1), .val (.ref b9), .val (.ref b17), .val (.long ((p2.toInt64) - (p0.toInt64))), .second, .unset, .unset, .unset] [])) _
    refine XS.iloadN X21.here hx rfl (hb hby at_92) rfl ?_
    show Steps p.tables e below (T21.setTop (mkF m 93 #[.val (.int p0), .val (.int p1), .val (.int p2), .val (.ref b1), .val (.ref b9), .val (.ref b17), .val (.long ((p2.toInt64) - (p0.toInt64))), .second, .unset, .unset, .unset] [(.int p1)])) _
    refine XS.i2l X21.here hx rfl (hb hby at_93) rfl ?_
    show Steps p.tables e below (T21.setTop (mkF m 94 #[.val (.int p0), .val (.int p1), .val (.int p2), .val (.ref b1), .val (.ref b9), .val (.ref b17), .val (.long ((p2.toInt64) - (p0.toInt64))), .second, .unset, .unset, .unset] [(.long (p1.toInt64))])) _
    refine XS.iloadN X21.here hx rfl (hb hby at_94) rfl ?_
    show Steps p.tables e below (T21.setTop (mkF m 95 #[.val (.int p0), .val (.int p1), .val (.int p2), .val (.ref b1), .val (.ref b9), .val (.ref b17), .val (.long ((p2.toInt64) - (p0.toInt64))), .second, .unset, .unset, .unset] [(.int p0), (.long (p1.toInt64))])) _
    refine XS.i2l X21.here hx rfl (hb hby at_95) rfl ?_
    show Steps p.tables e below (T21.setTop (mkF m 96 #[.val (.int p0), .val (.int p1), .val (.int p2), .val (.ref b1), .val (.ref b9), .val (.ref b17), .val (.long ((p2.toInt64) - (p0.toInt64))), .second, .unset, .unset, .unset] [(.long (p0.toInt64)), (.long (p1.toInt64))])) _
    refine XS.lsub X21.here hx rfl (hb hby at_96) rfl ?_
    show Steps p.tables e below (T21.setTop (mkF m 97 #[.val (.int p0), .val (.int p1), .val (.int p2), .val (.ref b1), .val (.ref b9), .val (.ref b17), .val (.long ((p2.toInt64) - (p0.toInt64))), .second, .unset, .unset, .unset] [(.long ((p1.toInt64) - (p0.toInt64)))])) _
    refine XS.lstore X21.here hx rfl (hb hby at_97) rfl (l' := #[.val (.int p0), .val (.int p1), .val (.int p2), .val (.ref b1), .val (.ref b9), .val (.ref b17), .val (.long ((p2.toInt64) - (p0.toInt64))), .second, .val (.long ((p1.toInt64) - (p0.toInt64))), .second, .unset]) rfl ?_
    show Steps p.tables e below (T21.setTop (mkF m 99 #[.val (.int p0), .val (.int p1), .val (.int p2), .val (.ref b1), .val (.ref b9), .val (.ref b17), .val (.long ((p2.toInt64) - (p0.toInt64))), .second, .val (.long ((p1.toInt64) - (p0.toInt64))), .second, .unset] [])) _
    refine XS.lload X21.here hx rfl (hb hby at_99) rfl ?_
    show Steps p.tables e below (T21.setTop (mkF m 101 #[.val (.int p0), .val (.int p1), .val (.int p2), .val (.ref b1), .val (.ref b9), .val (.ref b17), .val (.long ((p2.toInt64) - (p0.toInt64))), .second, .val (.long ((p1.toInt64) - (p0.toInt64))), .second, .unset] [(.long ((p2.toInt64) - (p0.toInt64)))])) _
    refine XS.lconst X21.here hx rfl (hb hby at_101) ?_
    show Steps p.tables e below (T21.setTop (mkF m 102 #[.val (.int p0), .val (.int p1), .val (.int p2), .val (.ref b1), .val (.ref b9), .val (.ref b17), .val (.long ((p2.toInt64) - (p0.toInt64))), .second, .val (.long ((p1.toInt64) - (p0.toInt64))), .second, .unset] [(.long (0 : Int64)), (.long ((p2.toInt64) - (p0.toInt64)))])) _
    refine XS.lcmp X21.here hx rfl (hb hby at_102) rfl ?_
    show Steps p.tables e below (T21.setTop (mkF m 103 #[.val (.int p0), .val (.int p1), .val (.int p2), .val (.ref b1), .val (.ref b9), .val (.ref b17), .val (.long ((p2.toInt64) - (p0.toInt64))), .second, .val (.long ((p1.toInt64) - (p0.toInt64))), .second, .unset] [(.int (lcmpW ((p2.toInt64) - (p0.toInt64)) (0 : Int64)))])) _
    refine XS.ifNo X21.here hx rfl (hb hby at_103) rfl ((if0 _ _).trans (flt (fun q => hA ((own_neg _ _).mp ((lw_lt _ _).mp q)) : ¬ ((lcmpW ((p2.toInt64) - (p0.toInt64)) (0 : Int64)) < (0 : Int32)))).1) ?_
    show Steps p.tables e below (T21.setTop (mkF m 106 #[.val (.int p0), .val (.int p1), .val (.int p2), .val (.ref b1), .val (.ref b9), .val (.ref b17), .val (.long ((p2.toInt64) - (p0.toInt64))), .second, .val (.long ((p1.toInt64) - (p0.toInt64))), .second, .unset] [])) _
    refine XS.lload X21.here hx rfl (hb hby at_106) rfl ?_
    show Steps p.tables e below (T21.setTop (mkF m 108 #[.val (.int p0), .val (.int p1), .val (.int p2), .val (.ref b1), .val (.ref b9), .val (.ref b17), .val (.long ((p2.toInt64) - (p0.toInt64))), .second, .val (.long ((p1.toInt64) - (p0.toInt64))), .second, .unset] [(.long ((p2.toInt64) - (p0.toInt64)))])) _
    refine XS.lload X21.here hx rfl (hb hby at_108) rfl ?_
    show Steps p.tables e below (T21.setTop (mkF m 110 #[.val (.int p0), .val (.int p1), .val (.int p2), .val (.ref b1), .val (.ref b9), .val (.ref b17), .val (.long ((p2.toInt64) - (p0.toInt64))), .second, .val (.long ((p1.toInt64) - (p0.toInt64))), .second, .unset] [(.long ((p1.toInt64) - (p0.toInt64))), (.long ((p2.toInt64) - (p0.toInt64)))])) _
    refine XS.lcmp X21.here hx rfl (hb hby at_110) rfl ?_
    show Steps p.tables e below (T21.setTop (mkF m 111 #[.val (.int p0), .val (.int p1), .val (.int p2), .val (.ref b1), .val (.ref b9), .val (.ref b17), .val (.long ((p2.toInt64) - (p0.toInt64))), .second, .val (.long ((p1.toInt64) - (p0.toInt64))), .second, .unset] [(.int (lcmpW ((p2.toInt64) - (p0.toInt64)) ((p1.toInt64) - (p0.toInt64))))])) _
    refine XS.ifYes X21.here hx rfl (pc0 := 111) (pc' := 118) rfl (hb hby at_111) rfl ((if0 _ _).trans (flt (fun q => hB ((own_cmp _ _ _).mp ((lw_lt _ _).mp q)) : ¬ ((lcmpW ((p2.toInt64) - (p0.toInt64)) ((p1.toInt64) - (p0.toInt64))) < (0 : Int32)))).2.1) (by decide) (by decide) ?_
    show Steps p.tables e below (T21.setTop (mkF m 118 #[.val (.int p0), .val (.int p1), .val (.int p2), .val (.ref b1), .val (.ref b9), .val (.ref b17), .val (.long ((p2.toInt64) - (p0.toInt64))), .second, .val (.long ((p1.toInt64) - (p0.toInt64))), .second, .unset] [])) _
    refine XS.iconst X21.here hx rfl (hb hby at_118) ?_
    show Steps p.tables e below (T21.setTop (mkF m 119 #[.val (.int p0), .val (.int p1), .val (.int p2), .val (.ref b1), .val (.ref b9), .val (.ref b17), .val (.long ((p2.toInt64) - (p0.toInt64))), .second, .val (.long ((p1.toInt64) - (p0.toInt64))), .second, .unset] [(.int (0 : Int32))])) _
    refine XS.istore X21.here hx rfl (hb hby at_119) rfl (l' := #[.val (.int p0), .val (.int p1), .val (.int p2), .val (.ref b1), .val (.ref b9), .val (.ref b17), .val (.long ((p2.toInt64) - (p0.toInt64))), .second, .val (.long ((p1.toInt64) - (p0.toInt64))), .second, .val (.int (0 : Int32))]) rfl ?_
    show Steps p.tables e below (T21.setTop (mkF m 121 #[.val (.int p0), .val (.int p1), .val (.int p2), .val (.ref b1), .val (.ref b9), .val (.ref b17), .val (.long ((p2.toInt64) - (p0.toInt64))), .second, .val (.long ((p1.toInt64) - (p0.toInt64))), .second, .val (.int (0 : Int32))] [])) _
    refine XS.aload X21.here hx rfl (hb hby at_121) rfl rfl ?_
    show Steps p.tables e below (T21.setTop (mkF m 123 #[.val (.int p0), .val (.int p1), .val (.int p2), .val (.ref b1), .val (.ref b9), .val (.ref b17), .val (.long ((p2.toInt64) - (p0.toInt64))), .second, .val (.long ((p1.toInt64) - (p0.toInt64))), .second, .val (.int (0 : Int32))] [(.ref b17)])) _
    refine XS.iloadN X21.here hx rfl (hb hby at_123) rfl ?_
    show Steps p.tables e below (T21.setTop (mkF m 124 #[.val (.int p0), .val (.int p1), .val (.int p2), .val (.ref b1), .val (.ref b9), .val (.ref b17), .val (.long ((p2.toInt64) - (p0.toInt64))), .second, .val (.long ((p1.toInt64) - (p0.toInt64))), .second, .val (.int (0 : Int32))] [(.int p2), (.ref b17)])) _
    refine st22.trans ?_
    show Steps p.tables e below (T22.setTop (mkF m 127 #[.val (.int p0), .val (.int p1), .val (.int p2), .val (.ref b1), .val (.ref b9), .val (.ref b17), .val (.long ((p2.toInt64) - (p0.toInt64))), .second, .val (.long ((p1.toInt64) - (p0.toInt64))), .second, .val (.int (0 : Int32))] [(.int (0 : Int32))])) _
    refine XS.iload X22.here hx rfl (hb hby at_127) rfl ?_
    show Steps p.tables e below (T22.setTop (mkF m 129 #[.val (.int p0), .val (.int p1), .val (.int p2), .val (.ref b1), .val (.ref b9), .val (.ref b17), .val (.long ((p2.toInt64) - (p0.toInt64))), .second, .val (.long ((p1.toInt64) - (p0.toInt64))), .second, .val (.int (0 : Int32))] [(.int (0 : Int32)), (.int (0 : Int32))])) _
    refine XS.icmpNo X22.here hx rfl (hb hby at_129) rfl (teq (by decide : (0 : Int32) = (0 : Int32))).2 ?_
    show Steps p.tables e below (T22.setTop (mkF m 132 #[.val (.int p0), .val (.int p1), .val (.int p2), .val (.ref b1), .val (.ref b9), .val (.ref b17), .val (.long ((p2.toInt64) - (p0.toInt64))), .second, .val (.long ((p1.toInt64) - (p0.toInt64))), .second, .val (.int (0 : Int32))] [])) _
    refine XS.aload X22.here hx rfl (hb hby at_132) rfl rfl ?_
    show Steps p.tables e below (T22.setTop (mkF m 134 #[.val (.int p0), .val (.int p1), .val (.int p2), .val (.ref b1), .val (.ref b9), .val (.ref b17), .val (.long ((p2.toInt64) - (p0.toInt64))), .second, .val (.long ((p1.toInt64) - (p0.toInt64))), .second, .val (.int (0 : Int32))] [(.ref b17)])) _
    refine XS.iloadN X22.here hx rfl (hb hby at_134) rfl ?_
    show Steps p.tables e below (T22.setTop (mkF m 135 #[.val (.int p0), .val (.int p1), .val (.int p2), .val (.ref b1), .val (.ref b9), .val (.ref b17), .val (.long ((p2.toInt64) - (p0.toInt64))), .second, .val (.long ((p1.toInt64) - (p0.toInt64))), .second, .val (.int (0 : Int32))] [(.int p1), (.ref b17)])) _
    refine st23.trans ?_
    show Steps p.tables e below (T23.setTop (mkF m 138 #[.val (.int p0), .val (.int p1), .val (.int p2), .val (.ref b1), .val (.ref b9), .val (.ref b17), .val (.long ((p2.toInt64) - (p0.toInt64))), .second, .val (.long ((p1.toInt64) - (p0.toInt64))), .second, .val (.int (0 : Int32))] [(.int (0 : Int32))])) _
    refine XS.ifNo X23.here hx rfl (hb hby at_138) rfl ((if0 _ _).trans (teq (by decide : (0 : Int32) = (0 : Int32))).2) ?_
    show Steps p.tables e below (T23.setTop (mkF m 141 #[.val (.int p0), .val (.int p1), .val (.int p2), .val (.ref b1), .val (.ref b9), .val (.ref b17), .val (.long ((p2.toInt64) - (p0.toInt64))), .second, .val (.long ((p1.toInt64) - (p0.toInt64))), .second, .val (.int (0 : Int32))] [])) _
    refine XS.aload X23.here hx rfl (hb hby at_141) rfl rfl ?_
    show Steps p.tables e below (T23.setTop (mkF m 143 #[.val (.int p0), .val (.int p1), .val (.int p2), .val (.ref b1), .val (.ref b9), .val (.ref b17), .val (.long ((p2.toInt64) - (p0.toInt64))), .second, .val (.long ((p1.toInt64) - (p0.toInt64))), .second, .val (.int (0 : Int32))] [(.ref b17)])) _
    refine XS.iloadN X23.here hx rfl (hb hby at_143) rfl ?_
    show Steps p.tables e below (T23.setTop (mkF m 144 #[.val (.int p0), .val (.int p1), .val (.int p2), .val (.ref b1), .val (.ref b9), .val (.ref b17), .val (.long ((p2.toInt64) - (p0.toInt64))), .second, .val (.long ((p1.toInt64) - (p0.toInt64))), .second, .val (.int (0 : Int32))] [(.int p0), (.ref b17)])) _
    refine st24.trans ?_
    show Steps p.tables e below (T24.setTop (mkF m 147 #[.val (.int p0), .val (.int p1), .val (.int p2), .val (.ref b1), .val (.ref b9), .val (.ref b17), .val (.long ((p2.toInt64) - (p0.toInt64))), .second, .val (.long ((p1.toInt64) - (p0.toInt64))), .second, .val (.int (0 : Int32))] [(.int (0 : Int32))])) _
    refine XS.lload X24.here hx rfl (hb hby at_147) rfl ?_
    show Steps p.tables e below (T24.setTop (mkF m 149 #[.val (.int p0), .val (.int p1), .val (.int p2), .val (.ref b1), .val (.ref b9), .val (.ref b17), .val (.long ((p2.toInt64) - (p0.toInt64))), .second, .val (.long ((p1.toInt64) - (p0.toInt64))), .second, .val (.int (0 : Int32))] [(.long ((p1.toInt64) - (p0.toInt64))), (.int (0 : Int32))])) _
    refine XS.lconst X24.here hx rfl (hb hby at_149) ?_
    show Steps p.tables e below (T24.setTop (mkF m 150 #[.val (.int p0), .val (.int p1), .val (.int p2), .val (.ref b1), .val (.ref b9), .val (.ref b17), .val (.long ((p2.toInt64) - (p0.toInt64))), .second, .val (.long ((p1.toInt64) - (p0.toInt64))), .second, .val (.int (0 : Int32))] [(.long (0 : Int64)), (.long ((p1.toInt64) - (p0.toInt64))), (.int (0 : Int32))])) _
    refine XS.lcmp X24.here hx rfl (hb hby at_150) rfl ?_
    show Steps p.tables e below (T24.setTop (mkF m 151 #[.val (.int p0), .val (.int p1), .val (.int p2), .val (.ref b1), .val (.ref b9), .val (.ref b17), .val (.long ((p2.toInt64) - (p0.toInt64))), .second, .val (.long ((p1.toInt64) - (p0.toInt64))), .second, .val (.int (0 : Int32))] [(.int (lcmpW ((p1.toInt64) - (p0.toInt64)) (0 : Int64))), (.int (0 : Int32))])) _
    refine XS.ifYes X24.here hx rfl (pc0 := 151) (pc' := 158) rfl (hb hby at_151) rfl ((if0 _ _).trans (flt (fun q => hD ((own_pos _ _).mp ((lw_gt _ _).mp q)) : ¬ ((0 : Int32) < (lcmpW ((p1.toInt64) - (p0.toInt64)) (0 : Int64))))).2.2.2) (by decide) (by decide) ?_
    show Steps p.tables e below (T24.setTop (mkF m 158 #[.val (.int p0), .val (.int p1), .val (.int p2), .val (.ref b1), .val (.ref b9), .val (.ref b17), .val (.long ((p2.toInt64) - (p0.toInt64))), .second, .val (.long ((p1.toInt64) - (p0.toInt64))), .second, .val (.int (0 : Int32))] [(.int (0 : Int32))])) _
    refine XS.iconst X24.here hx rfl (hb hby at_158) ?_
    show Steps p.tables e below (T24.setTop (mkF m 159 #[.val (.int p0), .val (.int p1), .val (.int p2), .val (.ref b1), .val (.ref b9), .val (.ref b17), .val (.long ((p2.toInt64) - (p0.toInt64))), .second, .val (.long ((p1.toInt64) - (p0.toInt64))), .second, .val (.int (0 : Int32))] [(.int (0 : Int32)), (.int (0 : Int32))])) _
    refine XS.icmpNo X24.here hx rfl (hb hby at_159) rfl (teq (by decide : (0 : Int32) = (0 : Int32))).2 ?_
    show Steps p.tables e below (T24.setTop (mkF m 162 #[.val (.int p0), .val (.int p1), .val (.int p2), .val (.ref b1), .val (.ref b9), .val (.ref b17), .val (.long ((p2.toInt64) - (p0.toInt64))), .second, .val (.long ((p1.toInt64) - (p0.toInt64))), .second, .val (.int (0 : Int32))] [])) _
    refine XS.iconst X24.here hx rfl (hb hby at_162) ?_
    show Steps p.tables e below (T24.setTop (mkF m 163 #[.val (.int p0), .val (.int p1), .val (.int p2), .val (.ref b1), .val (.ref b9), .val (.ref b17), .val (.long ((p2.toInt64) - (p0.toInt64))), .second, .val (.long ((p1.toInt64) - (p0.toInt64))), .second, .val (.int (0 : Int32))] [(.int (1 : Int32))])) _
    refine XS.goto X24.here hx rfl (pc0 := 163) (pc' := 167) rfl (hb hby at_163) (by decide) (by decide) ?_
    show Steps p.tables e below (T24.setTop (mkF m 167 #[.val (.int p0), .val (.int p1), .val (.int p2), .val (.ref b1), .val (.ref b9), .val (.ref b17), .val (.long ((p2.toInt64) - (p0.toInt64))), .second, .val (.long ((p1.toInt64) - (p0.toInt64))), .second, .val (.int (0 : Int32))] [(.int (1 : Int32))])) _
    exact retOut X24 hx Bd.returns rfl (Or.inl ⟨rfl, Or.inr (Or.inl rfl), _, rfl⟩) (hb hby at_167) hr
  · show QL (some (.int (1 : Int32))) h0 n0 _ T24.heap _
    rw [e24]
    exact ⟨rfl, N24⟩
set_option maxRecDepth 65536 in
set_option maxHeartbeats 40000000 in
theorem law_cy (l : Launch) (Z : State) (a0 : Array Value) (hw : ∀ d ∈ tables_1, d.before a0 Z = true) (ws : List Jvm.Cond) (p0 p1 p2 : Int32) (w_dc w_el w_em w_ee m_o w_CLASS w_UNKNOWN : Addr) (k_dc k_ee : ClassId) (h0 : Heap) (n0 : Nat) (Z0 : n0 ≤ h0.size) (S_dc : Sta Z h0 "java/util/ArrayList" "DEFAULTCAPACITY_EMPTY_ELEMENTDATA" "[Ljava/lang/Object;" (.ref w_dc)) (V_dc : Arv Z h0 w_dc k_dc (.object "java/lang/Object") (0 : Int32) [] .null) (S_el : Sta Z h0 "java/util/ImmutableCollections" "EMPTY_LIST" "Ljava/util/ImmutableCollections$ListN;" (.ref w_el)) (S_em : Sta Z h0 "java/util/ImmutableCollections" "EMPTY" "Ljava/lang/Object;" (.ref w_em)) (E_el : Exa Z h0 w_el "java/util/ImmutableCollections$ListN") (F_el : Fld Z h0 w_el "java/util/ImmutableCollections$ListN" "elements" "[Ljava/lang/Object;" (.ref w_ee)) (V_ee : Arv Z h0 w_ee k_ee (.object "java/lang/Object") (0 : Int32) [] .null) (M_o : Mir Z "[Ljava/lang/Object;" m_o) (S_w_CLASS : Sta Z h0 "com/example/refleash/refleash/heap/Trace$Root$Kind" "CLASS" "Lcom/example/refleash/refleash/heap/Trace$Root$Kind;" (.ref w_CLASS)) (S_w_UNKNOWN : Sta Z h0 "com/example/refleash/refleash/heap/Leak$Status" "UNKNOWN" "Lcom/example/refleash/refleash/heap/Leak$Status;" (.ref w_UNKNOWN)) (hA : ¬ (p2 < p0)) (hB : p2 < p1) (hD : p0 < p1) :
    MetFree l x (head1 (Jvm.Cond.code x code maxLocals ret :: ws) room_1) (fun a U => a = #[(.int p0), (.int p1), (.int p2)] ∧ Z.Warmed39 U.vm ∧ U.heap = h0) (fun _ _ _ _ _ => True) (fun _ U o U' => ∃ v L, o = .returned v ∧ QL (some (.int (1 : Int32))) h0 n0 v U'.heap L ∧ ReturnedEndW U o U' L room_1.cells room_1.slots) := by
  refine MetFree.of_bodySF (plainFor_of_name pn_com_example_refleash_refleash_heap_LeakIsSuspectPinLaw) hisR ?_
  intro p e s m args below meth c s₁ Bd hml0 hP hK
  obtain ⟨rfl, hZ, hh⟩ := hP
  have hx := Bd.exec
  have hby := Bd.bytes
  have hml : c.maxLocals = 11 := hml0
  have hown : s.vm.findClass "com/example/refleash/refleash/heap/LeakIsSuspectPinLaw" = some m.cls := findClass_of_methodNamed Bd.named
  have hnm := (name_of_methodNamed Bd.named Bd.method).1
  have X0 : Stand p l e room_1 s m #[(.int p0), (.int p1), (.int p2)] below meth c s₁ [] 0 0 := Stand.of_body Bd
  have e0 : s₁.heap = h0 := by rw [← hh, Bd.state]; rfl
  have N0 := Fr.nil n0
  have pre0 : ∀ t, Steps p.tables e below (s₁.setTop (mkF m 0 #[.val (.int p0), .val (.int p1), .val (.int p2), .unset, .unset, .unset, .unset, .unset, .unset, .unset, .unset] [])) t → Steps p.tables e below (s₁.setTop (entryFrame m #[(.int p0), (.int p1), (.int p2)] maxLocals)) t := fun t k => castTop (ef_0_III m p0 p1 p2) k
  obtain ⟨T1, h1, X1, e1, E1, A1, D1, -, st1⟩ := newO X0 hx hZ hown (hw _ (List.mem_of_getElem? (i := 0) rfl)) (hw _ (List.mem_of_getElem? (i := 1) rfl)) (hw _ (List.mem_of_getElem? (i := 2) rfl)) e0 (g := (mkF m 0 #[.val (.int p0), .val (.int p1), .val (.int p2), .unset, .unset, .unset, .unset, .unset, .unset, .unset, .unset] [])) rfl (hb hby at_0) (by decide) (by decide)
  obtain ⟨b1, gg1⟩ : ∃ z, z = h0.size := ⟨_, rfl⟩
  rw [← gg1] at A1 D1 st1
  have sz_b1 : h0.size ≤ b1 := Nat.le_of_eq gg1.symm
  have sz0_b1 : h0.size ≤ b1 := Nat.le_trans (Keep.refl h0 []).1 sz_b1
  have g_b1 : n0 ≤ b1 := Nat.le_trans Z0 sz0_b1
  have K1q : Keep h0 h1 [] := (Keep.refl _ []).ext E1
  have K1 : Keep h0 h1 [] := (Keep.refl h0 []).ext E1
  have F1_objectId : Fld Z h1 b1 "com/example/refleash/refleash/heap/Trace" "objectId" "J" (.long (0 : Int64)) := D1 (Or.inr (hw _ (List.mem_of_getElem? (i := 99) rfl))) (ty := .long) (by decide)
  have F1_root : Fld Z h1 b1 "com/example/refleash/refleash/heap/Trace" "root" "Lcom/example/refleash/refleash/heap/Trace$Root;" .null := D1 (Or.inr (hw _ (List.mem_of_getElem? (i := 101) rfl))) (ty := (.object "com/example/refleash/refleash/heap/Trace$Root")) (by decide)
  have F1_hops : Fld Z h1 b1 "com/example/refleash/refleash/heap/Trace" "hops" "Ljava/util/List;" .null := D1 (Or.inr (hw _ (List.mem_of_getElem? (i := 103) rfl))) (ty := (.object "java/util/List")) (by decide)
  have F1_retainedBytes : Fld Z h1 b1 "com/example/refleash/refleash/heap/Trace" "retainedBytes" "J" (.long (0 : Int64)) := D1 (Or.inr (hw _ (List.mem_of_getElem? (i := 105) rfl))) (ty := .long) (by decide)
  have F1_retainedObjects : Fld Z h1 b1 "com/example/refleash/refleash/heap/Trace" "retainedObjects" "J" (.long (0 : Int64)) := D1 (Or.inr (hw _ (List.mem_of_getElem? (i := 107) rfl))) (ty := .long) (by decide)
  obtain ⟨T2, h2, X2, e2, E2, A2, D2, -, st2⟩ := newO X1 hx hZ hown (hw _ (List.mem_of_getElem? (i := 3) rfl)) (hw _ (List.mem_of_getElem? (i := 4) rfl)) (hw _ (List.mem_of_getElem? (i := 5) rfl)) e1 (g := (mkF m 5 #[.val (.int p0), .val (.int p1), .val (.int p2), .unset, .unset, .unset, .unset, .unset, .unset, .unset, .unset] [(.long (0 : Int64)), (.ref b1), (.ref b1)])) rfl (hb hby at_5) (by decide) (by decide)
  obtain ⟨b2, gg2⟩ : ∃ z, z = h1.size := ⟨_, rfl⟩
  rw [← gg2] at A2 D2 st2
  have sz_b2 : h1.size ≤ b2 := Nat.le_of_eq gg2.symm
  have sz0_b2 : h0.size ≤ b2 := Nat.le_trans K1.1 sz_b2
  have g_b2 : n0 ≤ b2 := Nat.le_trans Z0 sz0_b2
  have K2q : Keep h1 h2 [] := (Keep.refl _ []).ext E2
  have K2 : Keep h0 h2 [] := K1.ext E2
  have F2_kind : Fld Z h2 b2 "com/example/refleash/refleash/heap/Trace$Root" "kind" "Lcom/example/refleash/refleash/heap/Trace$Root$Kind;" .null := D2 (Or.inr (hw _ (List.mem_of_getElem? (i := 33) rfl))) (ty := (.object "com/example/refleash/refleash/heap/Trace$Root$Kind")) (by decide)
  have F2_className : Fld Z h2 b2 "com/example/refleash/refleash/heap/Trace$Root" "className" "Ljava/lang/String;" .null := D2 (Or.inr (hw _ (List.mem_of_getElem? (i := 35) rfl))) (ty := (.object "java/lang/String")) (by decide)
  have F2_thread : Fld Z h2 b2 "com/example/refleash/refleash/heap/Trace$Root" "thread" "Ljava/lang/String;" .null := D2 (Or.inr (hw _ (List.mem_of_getElem? (i := 37) rfl))) (ty := (.object "java/lang/String")) (by decide)
  have F2_method : Fld Z h2 b2 "com/example/refleash/refleash/heap/Trace$Root" "method" "Ljava/lang/String;" .null := D2 (Or.inr (hw _ (List.mem_of_getElem? (i := 39) rfl))) (ty := (.object "java/lang/String")) (by decide)
  obtain ⟨T3, X3, e3, st3⟩ := getS2 X2 hx hZ hown (host := "") (Or.inl (hw _ (List.mem_of_getElem? (i := 6) rfl))) Via.refl e2 (own_sta_keep S_w_CLASS K2) (g := (mkF m 9 #[.val (.int p0), .val (.int p1), .val (.int p2), .unset, .unset, .unset, .unset, .unset, .unset, .unset, .unset] [(.ref b2), (.ref b2), (.long (0 : Int64)), (.ref b1), (.ref b1)])) rfl (hb hby at_9)
  have wS : ∀ d ∈ Bundle.stringAtoms, d.before a0 Z = true := fun d hd => hw d ((by decide +kernel : ∀ d ∈ Bundle.stringAtoms, d ∈ tables_1) d hd)
  obtain ⟨a4, T4, h4, k4, X4, e4, E4, S4, hk4, hZ, hown, st4⟩ := ldcS (s := s) (vm0 := s.vm) X3 hx hZ hown (hw _ (List.mem_of_getElem? (i := 9) rfl)) wS e3 ((State.WarmedH.refl s).since 0) (Nat.zero_le _) (g := (mkF m 12 #[.val (.int p0), .val (.int p1), .val (.int p2), .unset, .unset, .unset, .unset, .unset, .unset, .unset, .unset] [(.ref w_CLASS), (.ref b2), (.ref b2), (.long (0 : Int64)), (.ref b1), (.ref b1)])) rfl (hb hby at_12) (n := 4) (by decide) (by decide) (by decide) (by decide)
  have K4q : Keep h2 h4 [] := (Keep.refl _ []).ext E4
  have K4 : Keep h0 h4 [] := K2.ext E4
  obtain ⟨_, _, ⟨T5, L5, k5, n5⟩, -, X5, ⟨Lc5, hQ5, l5, y5, z5⟩, st5⟩ := X4.specialBack hx (y := (⟨"com/example/refleash/refleash/heap/Trace$Root", "<init>", "(Lcom/example/refleash/refleash/heap/Trace$Root$Kind;Ljava/lang/String;Ljava/lang/String;Ljava/lang/String;)V"⟩ : MethodName)) rfl hown (mvT hZ (hw _ (List.mem_of_getElem? (i := 17) rfl))) (mvT hZ (hw _ (List.mem_of_getElem? (i := 18) rfl))) (mvT hZ (hw _ (List.mem_of_getElem? (i := 19) rfl))) (by decide) (backOf (W := 5) (root_init l Z a0 hw [] b2 w_CLASS a4 h4 n0 (Nat.le_trans Z0 K4.1) (F2_kind.keep K4q nin0) (F2_className.keep K4q nin0) (F2_thread.keep K4q nin0) (F2_method.keep K4q nin0) (A2.keep K4q) g_b2) hZ (hw _ (List.mem_of_getElem? (i := 19) rfl)) (hw _ (List.mem_of_getElem? (i := 5) rfl)) (by decide) (by decide)) (g := (mkF m 16 #[.val (.int p0), .val (.int p1), .val (.int p2), .unset, .unset, .unset, .unset, .unset, .unset, .unset, .unset] [.null, .null, (.ref a4), (.ref w_CLASS), (.ref b2), (.ref b2), (.long (0 : Int64)), (.ref b1), (.ref b1)])) rfl (by rw [hml]; rfl) (Steps.refl _) (a := b2) (argsL := [(.ref w_CLASS), (.ref a4), .null, .null]) (rest := [(.ref b2), (.long (0 : Int64)), (.ref b1), (.ref b1)]) (lenOf pd__Lcom_example_refleash_refleash_heap_Trace_Root_Kind_Ljava_lang_String_Ljava_lang_String_Ljava_lang_String__V rfl) rfl (by show 2 * 0 + _ ≤ _; exact Nat.le_of_eq rfl) (hb hby at_16) (fun _ _ => ⟨rfl, e4, (by decide : 4 + 0 ≤ _), (by decide : 17 + 0 ≤ _)⟩)
  dsimp only [Pt.U, Pt.locs, Pt.cells, Pt.slots] at X5 l5 y5 z5 st5 hQ5
  subst l5 y5 z5
  obtain ⟨rfl, N5q, K5q⟩ := hQ5
  have N5 := Fr.app N0 N5q
  have K5 : Keep h0 T5.heap [] := K4.trans K5q (allS (Or.inr sz0_b2) all0)
  obtain ⟨T6, h6, X6, e6, E6, A6, D6, -, st6⟩ := newO X5 hx hZ hown (hw _ (List.mem_of_getElem? (i := 40) rfl)) (hw _ (List.mem_of_getElem? (i := 41) rfl)) (hw _ (List.mem_of_getElem? (i := 42) rfl)) rfl (g := (mkF m 19 #[.val (.int p0), .val (.int p1), .val (.int p2), .unset, .unset, .unset, .unset, .unset, .unset, .unset, .unset] [(.ref b2), (.long (0 : Int64)), (.ref b1), (.ref b1)])) rfl (hb hby at_19) (by decide) (by decide)
  obtain ⟨b6, gg6⟩ : ∃ z, z = T5.heap.size := ⟨_, rfl⟩
  rw [← gg6] at A6 D6 st6
  have sz_b6 : T5.heap.size ≤ b6 := Nat.le_of_eq gg6.symm
  have sz0_b6 : h0.size ≤ b6 := Nat.le_trans K5.1 sz_b6
  have g_b6 : n0 ≤ b6 := Nat.le_trans Z0 sz0_b6
  have K6q : Keep T5.heap h6 [] := (Keep.refl _ []).ext E6
  have K6 : Keep h0 h6 [] := K5.ext E6
  have F6_modCount : Fld Z h6 b6 "java/util/AbstractList" "modCount" "I" (.int (0 : Int32)) := D6 (Or.inl (hw _ (List.mem_of_getElem? (i := 60) rfl))) (ty := .int) (by decide)
  have F6_elementData : Fld Z h6 b6 "java/util/ArrayList" "elementData" "[Ljava/lang/Object;" .null := D6 (Or.inl (hw _ (List.mem_of_getElem? (i := 63) rfl))) (ty := (.array (.object "java/lang/Object"))) (by decide)
  have F6_size : Fld Z h6 b6 "java/util/ArrayList" "size" "I" (.int (0 : Int32)) := D6 (Or.inl (hw _ (List.mem_of_getElem? (i := 93) rfl))) (ty := .int) (by decide)
  obtain ⟨_, _, ⟨T7, L7, k7, n7⟩, -, X7, ⟨Lc7, hQ7, l7, y7, z7⟩, st7⟩ := X6.specialBack hx (y := (⟨"java/util/ArrayList", "<init>", "()V"⟩ : MethodName)) rfl hown (mvT hZ (hw _ (List.mem_of_getElem? (i := 43) rfl))) (mvT hZ (hw _ (List.mem_of_getElem? (i := 44) rfl))) (mvT hZ (hw _ (List.mem_of_getElem? (i := 45) rfl))) (by decide) (backOf (W := 6) (al_init l Z a0 hw [] b6 w_dc h6 n0 (Nat.le_trans Z0 K6.1) F6_modCount F6_elementData F6_size A6 g_b6 (own_sta_keep S_dc K6)) hZ (hw _ (List.mem_of_getElem? (i := 45) rfl)) (hw _ (List.mem_of_getElem? (i := 42) rfl)) (by decide) (by decide)) (g := (mkF m 23 #[.val (.int p0), .val (.int p1), .val (.int p2), .unset, .unset, .unset, .unset, .unset, .unset, .unset, .unset] [(.ref b6), (.ref b6), (.ref b2), (.long (0 : Int64)), (.ref b1), (.ref b1)])) rfl (by rw [hml]; rfl) (Steps.refl _) (a := b6) (argsL := []) (rest := [(.ref b6), (.ref b2), (.long (0 : Int64)), (.ref b1), (.ref b1)]) (lenOf pd___V rfl) rfl (by show 2 * 0 + _ ≤ _; exact Nat.le_of_eq rfl) (hb hby at_23) (fun _ _ => ⟨rfl, e6, (by decide : 5 + 0 ≤ _), (by decide : 20 + 0 ≤ _)⟩)
  dsimp only [Pt.U, Pt.locs, Pt.cells, Pt.slots] at X7 l7 y7 z7 st7 hQ7
  subst l7 y7 z7
  obtain ⟨rfl, N7q, K7q, E7q, F7q_modCount, F7q_elementData, F7q_size⟩ := hQ7
  have N7 := Fr.app N5 N7q
  have K7 : Keep h0 T7.heap [] := K6.trans K7q (allS (Or.inr sz0_b6) all0)
  obtain ⟨_, _, ⟨T8, L8, k8, n8⟩, -, X8, ⟨Lc8, hQ8, l8, y8, z8⟩, st8⟩ := X7.specialBack hx (y := (⟨"com/example/refleash/refleash/heap/Trace", "<init>", "(JLcom/example/refleash/refleash/heap/Trace$Root;Ljava/util/List;JJ)V"⟩ : MethodName)) rfl hown (mvT hZ (hw _ (List.mem_of_getElem? (i := 64) rfl))) (mvT hZ (hw _ (List.mem_of_getElem? (i := 65) rfl))) (mvT hZ (hw _ (List.mem_of_getElem? (i := 66) rfl))) (by decide) (backOf (W := 1) (trace_init l Z a0 hw [] b1 (0 : Int64) b2 b6 (0 : Int64) (0 : Int64) w_el T7.heap n0 (Nat.le_trans Z0 K7.1) (((((F1_objectId.keep K2q nin0).keep K4q nin0).keep K5q (ninS (Nat.ne_of_lt (Nat.lt_of_lt_of_le A1.lt sz_b2)) nin0)).keep K6q nin0).keep K7q (ninS (Nat.ne_of_lt (Nat.lt_of_lt_of_le (((A1.keep K2q).keep K4q).keep K5q).lt sz_b6)) nin0)) (((((F1_root.keep K2q nin0).keep K4q nin0).keep K5q (ninS (Nat.ne_of_lt (Nat.lt_of_lt_of_le A1.lt sz_b2)) nin0)).keep K6q nin0).keep K7q (ninS (Nat.ne_of_lt (Nat.lt_of_lt_of_le (((A1.keep K2q).keep K4q).keep K5q).lt sz_b6)) nin0)) (((((F1_hops.keep K2q nin0).keep K4q nin0).keep K5q (ninS (Nat.ne_of_lt (Nat.lt_of_lt_of_le A1.lt sz_b2)) nin0)).keep K6q nin0).keep K7q (ninS (Nat.ne_of_lt (Nat.lt_of_lt_of_le (((A1.keep K2q).keep K4q).keep K5q).lt sz_b6)) nin0)) (((((F1_retainedBytes.keep K2q nin0).keep K4q nin0).keep K5q (ninS (Nat.ne_of_lt (Nat.lt_of_lt_of_le A1.lt sz_b2)) nin0)).keep K6q nin0).keep K7q (ninS (Nat.ne_of_lt (Nat.lt_of_lt_of_le (((A1.keep K2q).keep K4q).keep K5q).lt sz_b6)) nin0)) (((((F1_retainedObjects.keep K2q nin0).keep K4q nin0).keep K5q (ninS (Nat.ne_of_lt (Nat.lt_of_lt_of_le A1.lt sz_b2)) nin0)).keep K6q nin0).keep K7q (ninS (Nat.ne_of_lt (Nat.lt_of_lt_of_le (((A1.keep K2q).keep K4q).keep K5q).lt sz_b6)) nin0)) (((((A1.keep K2q).keep K4q).keep K5q).keep K6q).keep K7q) g_b1 E7q F7q_size (own_sta_keep S_el K7)) hZ (hw _ (List.mem_of_getElem? (i := 66) rfl)) (hw _ (List.mem_of_getElem? (i := 2) rfl)) (by decide) (by decide)) (g := (mkF m 28 #[.val (.int p0), .val (.int p1), .val (.int p2), .unset, .unset, .unset, .unset, .unset, .unset, .unset, .unset] [(.long (0 : Int64)), (.long (0 : Int64)), (.ref b6), (.ref b2), (.long (0 : Int64)), (.ref b1), (.ref b1)])) rfl (by rw [hml]; rfl) (Steps.refl _) (a := b1) (argsL := [(.long (0 : Int64)), (.ref b2), (.ref b6), (.long (0 : Int64)), (.long (0 : Int64))]) (rest := [(.ref b1)]) (lenOf pd__JLcom_example_refleash_refleash_heap_Trace_Root_Ljava_util_List_JJ_V rfl) rfl (by show 2 * 0 + _ ≤ _; exact Nat.le_of_eq rfl) (hb hby at_28) (fun _ _ => ⟨rfl, rfl, (by decide : 5 + 0 ≤ _), (by decide : 20 + 0 ≤ _)⟩)
  dsimp only [Pt.U, Pt.locs, Pt.cells, Pt.slots] at X8 l8 y8 z8 st8 hQ8
  subst l8 y8 z8
  obtain ⟨rfl, N8q, K8q, E8q, F8q⟩ := hQ8
  have N8 := Fr.app N7 N8q
  have K8 : Keep h0 T8.heap [] := K7.trans K8q (allS (Or.inr sz0_b1) all0)
  obtain ⟨T9, h9, X9, e9, E9, A9, D9, -, st9⟩ := newO X8 hx hZ hown (hw _ (List.mem_of_getElem? (i := 40) rfl)) (hw _ (List.mem_of_getElem? (i := 41) rfl)) (hw _ (List.mem_of_getElem? (i := 42) rfl)) rfl (g := (mkF m 32 #[.val (.int p0), .val (.int p1), .val (.int p2), .val (.ref b1), .unset, .unset, .unset, .unset, .unset, .unset, .unset] [])) rfl (hb hby at_32) (by decide) (by decide)
  obtain ⟨b9, gg9⟩ : ∃ z, z = T8.heap.size := ⟨_, rfl⟩
  rw [← gg9] at A9 D9 st9
  have sz_b9 : T8.heap.size ≤ b9 := Nat.le_of_eq gg9.symm
  have sz0_b9 : h0.size ≤ b9 := Nat.le_trans K8.1 sz_b9
  have g_b9 : n0 ≤ b9 := Nat.le_trans Z0 sz0_b9
  have K9q : Keep T8.heap h9 [] := (Keep.refl _ []).ext E9
  have K9 : Keep h0 h9 [] := K8.ext E9
  have F9_modCount : Fld Z h9 b9 "java/util/AbstractList" "modCount" "I" (.int (0 : Int32)) := D9 (Or.inl (hw _ (List.mem_of_getElem? (i := 60) rfl))) (ty := .int) (by decide)
  have F9_elementData : Fld Z h9 b9 "java/util/ArrayList" "elementData" "[Ljava/lang/Object;" .null := D9 (Or.inl (hw _ (List.mem_of_getElem? (i := 63) rfl))) (ty := (.array (.object "java/lang/Object"))) (by decide)
  have F9_size : Fld Z h9 b9 "java/util/ArrayList" "size" "I" (.int (0 : Int32)) := D9 (Or.inl (hw _ (List.mem_of_getElem? (i := 93) rfl))) (ty := .int) (by decide)
  obtain ⟨_, _, ⟨T10, L10, k10, n10⟩, -, X10, ⟨Lc10, hQ10, l10, y10, z10⟩, st10⟩ := X9.specialBack hx (y := (⟨"java/util/ArrayList", "<init>", "()V"⟩ : MethodName)) rfl hown (mvT hZ (hw _ (List.mem_of_getElem? (i := 43) rfl))) (mvT hZ (hw _ (List.mem_of_getElem? (i := 44) rfl))) (mvT hZ (hw _ (List.mem_of_getElem? (i := 45) rfl))) (by decide) (backOf (W := 1) (al_init l Z a0 hw [] b9 w_dc h9 n0 (Nat.le_trans Z0 K9.1) F9_modCount F9_elementData F9_size A9 g_b9 (own_sta_keep S_dc K9)) hZ (hw _ (List.mem_of_getElem? (i := 45) rfl)) (hw _ (List.mem_of_getElem? (i := 42) rfl)) (by decide) (by decide)) (g := (mkF m 36 #[.val (.int p0), .val (.int p1), .val (.int p2), .val (.ref b1), .unset, .unset, .unset, .unset, .unset, .unset, .unset] [(.ref b9), (.ref b9)])) rfl (by rw [hml]; rfl) (Steps.refl _) (a := b9) (argsL := []) (rest := [(.ref b9)]) (lenOf pd___V rfl) rfl (by show 2 * 0 + _ ≤ _; exact Nat.le_of_eq rfl) (hb hby at_36) (fun _ _ => ⟨rfl, e9, (by decide : 6 + 0 ≤ _), (by decide : 23 + 0 ≤ _)⟩)
  dsimp only [Pt.U, Pt.locs, Pt.cells, Pt.slots] at X10 l10 y10 z10 st10 hQ10
  subst l10 y10 z10
  obtain ⟨rfl, N10q, K10q, E10q, F10q_modCount, F10q_elementData, F10q_size⟩ := hQ10
  have N10 := Fr.app N8 N10q
  have K10 : Keep h0 T10.heap [] := K9.trans K10q (allS (Or.inr sz0_b9) all0)
  obtain ⟨T11, h11, X11, e11, E11, A11, D11, -, st11⟩ := newO X10 hx hZ hown (hw _ (List.mem_of_getElem? (i := 108) rfl)) (hw _ (List.mem_of_getElem? (i := 109) rfl)) (hw _ (List.mem_of_getElem? (i := 110) rfl)) rfl (g := (mkF m 43 #[.val (.int p0), .val (.int p1), .val (.int p2), .val (.ref b1), .val (.ref b9), .unset, .unset, .unset, .unset, .unset, .unset] [(.ref b9)])) rfl (hb hby at_43) (by decide) (by decide)
  obtain ⟨b11, gg11⟩ : ∃ z, z = T10.heap.size := ⟨_, rfl⟩
  rw [← gg11] at A11 D11 st11
  have sz_b11 : T10.heap.size ≤ b11 := Nat.le_of_eq gg11.symm
  have sz0_b11 : h0.size ≤ b11 := Nat.le_trans K10.1 sz_b11
  have g_b11 : n0 ≤ b11 := Nat.le_trans Z0 sz0_b11
  have K11q : Keep T10.heap h11 [] := (Keep.refl _ []).ext E11
  have K11 : Keep h0 h11 [] := K10.ext E11
  have F11_className : Fld Z h11 b11 "com/example/refleash/refleash/heap/Leak$Node" "className" "Ljava/lang/String;" .null := D11 (Or.inr (hw _ (List.mem_of_getElem? (i := 121) rfl))) (ty := (.object "java/lang/String")) (by decide)
  have F11_status : Fld Z h11 b11 "com/example/refleash/refleash/heap/Leak$Node" "status" "Lcom/example/refleash/refleash/heap/Leak$Status;" .null := D11 (Or.inr (hw _ (List.mem_of_getElem? (i := 123) rfl))) (ty := (.object "com/example/refleash/refleash/heap/Leak$Status")) (by decide)
  have F11_reason : Fld Z h11 b11 "com/example/refleash/refleash/heap/Leak$Node" "reason" "Ljava/lang/String;" .null := D11 (Or.inr (hw _ (List.mem_of_getElem? (i := 125) rfl))) (ty := (.object "java/lang/String")) (by decide)
  obtain ⟨a12, T12, h12, k12, X12, e12, E12, S12, hk12, hZ, hown, st12⟩ := ldcS (s := s) (vm0 := T4.vm) X11 hx hZ hown (hw _ (List.mem_of_getElem? (i := 9) rfl)) wS e11 S4 (Nat.le_trans (Nat.le_trans (Nat.le_trans (Nat.le_trans (Nat.le_trans (Nat.le_trans (Nat.le_trans hk4 K5q.1) K6q.1) K7q.1) K8q.1) K9q.1) K10q.1) K11q.1) (g := (mkF m 47 #[.val (.int p0), .val (.int p1), .val (.int p2), .val (.ref b1), .val (.ref b9), .unset, .unset, .unset, .unset, .unset, .unset] [(.ref b11), (.ref b11), (.ref b9)])) rfl (hb hby at_47) (n := 4) (by decide) (by decide) (by decide) (by decide)
  have K12q : Keep h11 h12 [] := (Keep.refl _ []).ext E12
  have K12 : Keep h0 h12 [] := K11.ext E12
  obtain ⟨T13, X13, e13, st13⟩ := getS2 X12 hx hZ hown (host := "") (Or.inl (hw _ (List.mem_of_getElem? (i := 111) rfl))) Via.refl e12 (own_sta_keep S_w_UNKNOWN K12) (g := (mkF m 49 #[.val (.int p0), .val (.int p1), .val (.int p2), .val (.ref b1), .val (.ref b9), .unset, .unset, .unset, .unset, .unset, .unset] [(.ref a12), (.ref b11), (.ref b11), (.ref b9)])) rfl (hb hby at_49)
  obtain ⟨a14, T14, h14, k14, X14, e14, E14, S14, hk14, hZ, hown, st14⟩ := ldcS (s := s) (vm0 := T12.vm) X13 hx hZ hown (hw _ (List.mem_of_getElem? (i := 114) rfl)) wS e13 S12 hk12 (g := (mkF m 52 #[.val (.int p0), .val (.int p1), .val (.int p2), .val (.ref b1), .val (.ref b9), .unset, .unset, .unset, .unset, .unset, .unset] [(.ref w_UNKNOWN), (.ref a12), (.ref b11), (.ref b11), (.ref b9)])) rfl (hb hby at_52) (n := 4) (by decide) (by decide) (by decide) (by decide)
  have K14q : Keep h12 h14 [] := (Keep.refl _ []).ext E14
  have K14 : Keep h0 h14 [] := K12.ext E14
  obtain ⟨_, _, ⟨T15, L15, k15, n15⟩, -, X15, ⟨Lc15, hQ15, l15, y15, z15⟩, st15⟩ := X14.specialBack hx (y := (⟨"com/example/refleash/refleash/heap/Leak$Node", "<init>", "(Ljava/lang/String;Lcom/example/refleash/refleash/heap/Leak$Status;Ljava/lang/String;)V"⟩ : MethodName)) rfl hown (mvT hZ (hw _ (List.mem_of_getElem? (i := 115) rfl))) (mvT hZ (hw _ (List.mem_of_getElem? (i := 116) rfl))) (mvT hZ (hw _ (List.mem_of_getElem? (i := 117) rfl))) (by decide) (backOf (W := 2) (node_init l Z a0 hw [] b11 a12 w_UNKNOWN a14 h14 n0 (Nat.le_trans Z0 K14.1) ((F11_className.keep K12q nin0).keep K14q nin0) ((F11_status.keep K12q nin0).keep K14q nin0) ((F11_reason.keep K12q nin0).keep K14q nin0) ((A11.keep K12q).keep K14q) g_b11) hZ (hw _ (List.mem_of_getElem? (i := 117) rfl)) (hw _ (List.mem_of_getElem? (i := 110) rfl)) (by decide) (by decide)) (g := (mkF m 54 #[.val (.int p0), .val (.int p1), .val (.int p2), .val (.ref b1), .val (.ref b9), .unset, .unset, .unset, .unset, .unset, .unset] [(.ref a14), (.ref w_UNKNOWN), (.ref a12), (.ref b11), (.ref b11), (.ref b9)])) rfl (by rw [hml]; rfl) (Steps.refl _) (a := b11) (argsL := [(.ref a12), (.ref w_UNKNOWN), (.ref a14)]) (rest := [(.ref b11), (.ref b9)]) (lenOf pd__Ljava_lang_String_Lcom_example_refleash_refleash_heap_Leak_Status_Ljava_lang_String__V rfl) rfl (by show 2 * 0 + _ ≤ _; exact Nat.le_of_eq rfl) (hb hby at_54) (fun _ _ => ⟨rfl, e14, (by decide : 11 + 0 ≤ _), (by decide : 42 + 0 ≤ _)⟩)
  dsimp only [Pt.U, Pt.locs, Pt.cells, Pt.slots] at X15 l15 y15 z15 st15 hQ15
  subst l15 y15 z15
  obtain ⟨rfl, N15q, K15q, E15q⟩ := hQ15
  have N15 := Fr.app N10 N15q
  have K15 : Keep h0 T15.heap [] := K14.trans K15q (allS (Or.inr sz0_b11) all0)
  obtain ⟨cq16, kq16, q16a, q16b, q16c⟩ := isOf hZ rfl ((((E10q.keep K11q).keep K12q).keep K14q).keep K15q)
  obtain ⟨_, _, ⟨T16, L16, k16, n16⟩, -, X16, ⟨Lc16, hQ16, l16, y16, z16⟩, st16⟩ := X15.virtualBack hx (y := (⟨"java/util/ArrayList", "add", "(Ljava/lang/Object;)Z"⟩ : MethodName)) (z := (⟨"java/util/ArrayList", "add", "(Ljava/lang/Object;)Z"⟩ : MethodName)) hown (mvT hZ (hw _ (List.mem_of_getElem? (i := 126) rfl))) (mvT hZ (hw _ (List.mem_of_getElem? (i := 127) rfl))) (notFace_of_selects (args := #[]) (mvT hZ (hw _ (List.mem_of_getElem? (i := 129) rfl)))) (mvT hZ (hw _ (List.mem_of_getElem? (i := 129) rfl))) (mvT hZ (hw _ (List.mem_of_getElem? (i := 128) rfl))) (by decide) (backOf (W := 0) (add_1 l Z a0 hw [] b9 b11 (0 : Int32) w_dc k_dc T15.heap n0 (Nat.le_trans Z0 K15.1) ((((F10q_modCount.keep K11q nin0).keep K12q nin0).keep K14q nin0).keep K15q (ninS (Nat.ne_of_lt (Nat.lt_of_lt_of_le E10q.lt sz_b11)) nin0)) ((((F10q_elementData.keep K11q nin0).keep K12q nin0).keep K14q nin0).keep K15q (ninS (Nat.ne_of_lt (Nat.lt_of_lt_of_le E10q.lt sz_b11)) nin0)) ((((F10q_size.keep K11q nin0).keep K12q nin0).keep K14q nin0).keep K15q (ninS (Nat.ne_of_lt (Nat.lt_of_lt_of_le E10q.lt sz_b11)) nin0)) ((((E10q.keep K11q).keep K12q).keep K14q).keep K15q) g_b9 (((((((((((((V_dc.keep K1q nin0).keep K2q nin0).keep K4q nin0).keep K5q (ninS (Nat.ne_of_lt (Nat.lt_of_lt_of_le (V_dc.keep K1q nin0).lt sz_b2)) nin0)).keep K6q nin0).keep K7q (ninS (Nat.ne_of_lt (Nat.lt_of_lt_of_le ((((V_dc.keep K1q nin0).keep K2q nin0).keep K4q nin0).keep K5q (ninS (Nat.ne_of_lt (Nat.lt_of_lt_of_le (V_dc.keep K1q nin0).lt sz_b2)) nin0)).lt sz_b6)) nin0)).keep K8q (ninS (Nat.ne_of_lt (Nat.lt_of_lt_of_le V_dc.lt sz_b1)) nin0)).keep K9q nin0).keep K10q (ninS (Nat.ne_of_lt (Nat.lt_of_lt_of_le (((((((V_dc.keep K1q nin0).keep K2q nin0).keep K4q nin0).keep K5q (ninS (Nat.ne_of_lt (Nat.lt_of_lt_of_le (V_dc.keep K1q nin0).lt sz_b2)) nin0)).keep K6q nin0).keep K7q (ninS (Nat.ne_of_lt (Nat.lt_of_lt_of_le ((((V_dc.keep K1q nin0).keep K2q nin0).keep K4q nin0).keep K5q (ninS (Nat.ne_of_lt (Nat.lt_of_lt_of_le (V_dc.keep K1q nin0).lt sz_b2)) nin0)).lt sz_b6)) nin0)).keep K8q (ninS (Nat.ne_of_lt (Nat.lt_of_lt_of_le V_dc.lt sz_b1)) nin0)).lt sz_b9)) nin0)).keep K11q nin0).keep K12q nin0).keep K14q nin0).keep K15q (ninS (Nat.ne_of_lt (Nat.lt_of_lt_of_le (((((((((V_dc.keep K1q nin0).keep K2q nin0).keep K4q nin0).keep K5q (ninS (Nat.ne_of_lt (Nat.lt_of_lt_of_le (V_dc.keep K1q nin0).lt sz_b2)) nin0)).keep K6q nin0).keep K7q (ninS (Nat.ne_of_lt (Nat.lt_of_lt_of_le ((((V_dc.keep K1q nin0).keep K2q nin0).keep K4q nin0).keep K5q (ninS (Nat.ne_of_lt (Nat.lt_of_lt_of_le (V_dc.keep K1q nin0).lt sz_b2)) nin0)).lt sz_b6)) nin0)).keep K8q (ninS (Nat.ne_of_lt (Nat.lt_of_lt_of_le V_dc.lt sz_b1)) nin0)).keep K9q nin0).keep K10q (ninS (Nat.ne_of_lt (Nat.lt_of_lt_of_le (((((((V_dc.keep K1q nin0).keep K2q nin0).keep K4q nin0).keep K5q (ninS (Nat.ne_of_lt (Nat.lt_of_lt_of_le (V_dc.keep K1q nin0).lt sz_b2)) nin0)).keep K6q nin0).keep K7q (ninS (Nat.ne_of_lt (Nat.lt_of_lt_of_le ((((V_dc.keep K1q nin0).keep K2q nin0).keep K4q nin0).keep K5q (ninS (Nat.ne_of_lt (Nat.lt_of_lt_of_le (V_dc.keep K1q nin0).lt sz_b2)) nin0)).lt sz_b6)) nin0)).keep K8q (ninS (Nat.ne_of_lt (Nat.lt_of_lt_of_le V_dc.lt sz_b1)) nin0)).lt sz_b9)) nin0)).lt sz_b11)) nin0)) (own_sta_keep S_dc K15) (own_obj E15q (hw _ (List.mem_of_getElem? (i := 154) rfl))) (Nat.ne_of_lt (Nat.lt_of_lt_of_le (((((((V_dc.keep K1q nin0).keep K2q nin0).keep K4q nin0).keep K5q (ninS (Nat.ne_of_lt (Nat.lt_of_lt_of_le (V_dc.keep K1q nin0).lt sz_b2)) nin0)).keep K6q nin0).keep K7q (ninS (Nat.ne_of_lt (Nat.lt_of_lt_of_le ((((V_dc.keep K1q nin0).keep K2q nin0).keep K4q nin0).keep K5q (ninS (Nat.ne_of_lt (Nat.lt_of_lt_of_le (V_dc.keep K1q nin0).lt sz_b2)) nin0)).lt sz_b6)) nin0)).keep K8q (ninS (Nat.ne_of_lt (Nat.lt_of_lt_of_le V_dc.lt sz_b1)) nin0)).lt sz_b9))) hZ (hw _ (List.mem_of_getElem? (i := 130) rfl)) (hw _ (List.mem_of_getElem? (i := 42) rfl)) (by decide) (by decide)) q16a q16c (g := (mkF m 57 #[.val (.int p0), .val (.int p1), .val (.int p2), .val (.ref b1), .val (.ref b9), .unset, .unset, .unset, .unset, .unset, .unset] [(.ref b11), (.ref b9)])) rfl (by rw [hml]; rfl) (Steps.refl _) (argsL := [(.ref b11)]) (rest := []) (lenOf pd__Ljava_lang_Object__Z rfl) rfl (by show 2 * 0 + _ ≤ _; exact Nat.le_of_eq rfl) (hb hby at_57) (fun _ _ => ⟨rfl, rfl, (by decide : 11 + 1 ≤ _), (by decide : 42 + 10 ≤ _)⟩)
  dsimp only [Pt.U, Pt.locs, Pt.cells, Pt.slots] at X16 l16 y16 z16 st16 hQ16
  subst l16 y16 z16
  obtain ⟨r16, k16r, rfl, N16q, K16q, sz_r16, E16r, V16q, E16q, F16q_modCount, F16q_elementData, F16q_size⟩ := hQ16
  have sz0_r16 : h0.size ≤ r16 := Nat.le_trans K15.1 sz_r16
  have g_r16 : n0 ≤ r16 := Nat.le_trans Z0 sz0_r16
  have N16 := Fr.app N15 N16q
  have K16 : Keep h0 T16.heap [] := K15.trans K16q (allS (Or.inr sz0_b9) all0)
  obtain ⟨T17, h17, X17, e17, E17, A17, D17, -, st17⟩ := newO X16 hx hZ hown (hw _ (List.mem_of_getElem? (i := 155) rfl)) (hw _ (List.mem_of_getElem? (i := 156) rfl)) (hw _ (List.mem_of_getElem? (i := 157) rfl)) rfl (g := (mkF m 61 #[.val (.int p0), .val (.int p1), .val (.int p2), .val (.ref b1), .val (.ref b9), .unset, .unset, .unset, .unset, .unset, .unset] [])) rfl (hb hby at_61) (by decide) (by decide)
  obtain ⟨b17, gg17⟩ : ∃ z, z = T16.heap.size := ⟨_, rfl⟩
  rw [← gg17] at A17 D17 st17
  have sz_b17 : T16.heap.size ≤ b17 := Nat.le_of_eq gg17.symm
  have sz0_b17 : h0.size ≤ b17 := Nat.le_trans K16.1 sz_b17
  have g_b17 : n0 ≤ b17 := Nat.le_trans Z0 sz0_b17
  have K17q : Keep T16.heap h17 [] := (Keep.refl _ []).ext E17
  have K17 : Keep h0 h17 [] := K16.ext E17
  have F17_signature : Fld Z h17 b17 "com/example/refleash/refleash/heap/Leak" "signature" "Ljava/lang/String;" .null := D17 (Or.inr (hw _ (List.mem_of_getElem? (i := 249) rfl))) (ty := (.object "java/lang/String")) (by decide)
  have F17_retainedBytes : Fld Z h17 b17 "com/example/refleash/refleash/heap/Leak" "retainedBytes" "J" (.long (0 : Int64)) := D17 (Or.inr (hw _ (List.mem_of_getElem? (i := 251) rfl))) (ty := .long) (by decide)
  have F17_trace : Fld Z h17 b17 "com/example/refleash/refleash/heap/Leak" "trace" "Lcom/example/refleash/refleash/heap/Trace;" .null := D17 (Or.inr (hw _ (List.mem_of_getElem? (i := 253) rfl))) (ty := (.object "com/example/refleash/refleash/heap/Trace")) (by decide)
  have F17_nodes : Fld Z h17 b17 "com/example/refleash/refleash/heap/Leak" "nodes" "Ljava/util/List;" .null := D17 (Or.inr (hw _ (List.mem_of_getElem? (i := 255) rfl))) (ty := (.object "java/util/List")) (by decide)
  have F17_firstSuspect : Fld Z h17 b17 "com/example/refleash/refleash/heap/Leak" "firstSuspect" "I" (.int (0 : Int32)) := D17 (Or.inr (hw _ (List.mem_of_getElem? (i := 257) rfl))) (ty := .int) (by decide)
  have F17_endSuspect : Fld Z h17 b17 "com/example/refleash/refleash/heap/Leak" "endSuspect" "I" (.int (0 : Int32)) := D17 (Or.inr (hw _ (List.mem_of_getElem? (i := 259) rfl))) (ty := .int) (by decide)
  have F17_objects : Fld Z h17 b17 "com/example/refleash/refleash/heap/Leak" "objects" "Ljava/util/List;" .null := D17 (Or.inr (hw _ (List.mem_of_getElem? (i := 261) rfl))) (ty := (.object "java/util/List")) (by decide)
  obtain ⟨a18, T18, h18, k18, X18, e18, E18, S18, hk18, hZ, hown, st18⟩ := ldcS (s := s) (vm0 := T14.vm) X17 hx hZ hown (hw _ (List.mem_of_getElem? (i := 158) rfl)) wS e17 S14 (Nat.le_trans (Nat.le_trans (Nat.le_trans hk14 K15q.1) K16q.1) K17q.1) (g := (mkF m 65 #[.val (.int p0), .val (.int p1), .val (.int p2), .val (.ref b1), .val (.ref b9), .unset, .unset, .unset, .unset, .unset, .unset] [(.ref b17), (.ref b17)])) rfl (hb hby at_65) (n := 4) (by decide) (by decide) (by decide) (by decide)
  have K18q : Keep h17 h18 [] := (Keep.refl _ []).ext E18
  have K18 : Keep h0 h18 [] := K17.ext E18
  obtain ⟨T19, h19, X19, e19, E19, A19, D19, -, st19⟩ := newO X18 hx hZ hown (hw _ (List.mem_of_getElem? (i := 40) rfl)) (hw _ (List.mem_of_getElem? (i := 41) rfl)) (hw _ (List.mem_of_getElem? (i := 42) rfl)) e18 (g := (mkF m 73 #[.val (.int p0), .val (.int p1), .val (.int p2), .val (.ref b1), .val (.ref b9), .unset, .unset, .unset, .unset, .unset, .unset] [(.int p1), (.int p0), (.ref b9), (.ref b1), (.long (0 : Int64)), (.ref a18), (.ref b17), (.ref b17)])) rfl (hb hby at_73) (by decide) (by decide)
  obtain ⟨b19, gg19⟩ : ∃ z, z = h18.size := ⟨_, rfl⟩
  rw [← gg19] at A19 D19 st19
  have sz_b19 : h18.size ≤ b19 := Nat.le_of_eq gg19.symm
  have sz0_b19 : h0.size ≤ b19 := Nat.le_trans K18.1 sz_b19
  have g_b19 : n0 ≤ b19 := Nat.le_trans Z0 sz0_b19
  have K19q : Keep h18 h19 [] := (Keep.refl _ []).ext E19
  have K19 : Keep h0 h19 [] := K18.ext E19
  have F19_modCount : Fld Z h19 b19 "java/util/AbstractList" "modCount" "I" (.int (0 : Int32)) := D19 (Or.inl (hw _ (List.mem_of_getElem? (i := 60) rfl))) (ty := .int) (by decide)
  have F19_elementData : Fld Z h19 b19 "java/util/ArrayList" "elementData" "[Ljava/lang/Object;" .null := D19 (Or.inl (hw _ (List.mem_of_getElem? (i := 63) rfl))) (ty := (.array (.object "java/lang/Object"))) (by decide)
  have F19_size : Fld Z h19 b19 "java/util/ArrayList" "size" "I" (.int (0 : Int32)) := D19 (Or.inl (hw _ (List.mem_of_getElem? (i := 93) rfl))) (ty := .int) (by decide)
  obtain ⟨_, _, ⟨T20, L20, k20, n20⟩, -, X20, ⟨Lc20, hQ20, l20, y20, z20⟩, st20⟩ := X19.specialBack hx (y := (⟨"java/util/ArrayList", "<init>", "()V"⟩ : MethodName)) rfl hown (mvT hZ (hw _ (List.mem_of_getElem? (i := 43) rfl))) (mvT hZ (hw _ (List.mem_of_getElem? (i := 44) rfl))) (mvT hZ (hw _ (List.mem_of_getElem? (i := 45) rfl))) (by decide) (backOf (W := 10) (al_init l Z a0 hw [] b19 w_dc h19 n0 (Nat.le_trans Z0 K19.1) F19_modCount F19_elementData F19_size A19 g_b19 (own_sta_keep S_dc K19)) hZ (hw _ (List.mem_of_getElem? (i := 45) rfl)) (hw _ (List.mem_of_getElem? (i := 42) rfl)) (by decide) (by decide)) (g := (mkF m 77 #[.val (.int p0), .val (.int p1), .val (.int p2), .val (.ref b1), .val (.ref b9), .unset, .unset, .unset, .unset, .unset, .unset] [(.ref b19), (.ref b19), (.int p1), (.int p0), (.ref b9), (.ref b1), (.long (0 : Int64)), (.ref a18), (.ref b17), (.ref b17)])) rfl (by rw [hml]; rfl) (Steps.refl _) (a := b19) (argsL := []) (rest := [(.ref b19), (.int p1), (.int p0), (.ref b9), (.ref b1), (.long (0 : Int64)), (.ref a18), (.ref b17), (.ref b17)]) (lenOf pd___V rfl) rfl (by show 2 * 0 + _ ≤ _; exact Nat.le_of_eq rfl) (hb hby at_77) (fun _ _ => ⟨rfl, e19, (by decide : 16 + 0 ≤ _), (by decide : 70 + 0 ≤ _)⟩)
  dsimp only [Pt.U, Pt.locs, Pt.cells, Pt.slots] at X20 l20 y20 z20 st20 hQ20
  subst l20 y20 z20
  obtain ⟨rfl, N20q, K20q, E20q, F20q_modCount, F20q_elementData, F20q_size⟩ := hQ20
  have N20 := Fr.app N16 N20q
  have K20 : Keep h0 T20.heap [] := K19.trans K20q (allS (Or.inr sz0_b19) all0)
  obtain ⟨_, _, ⟨T21, L21, k21, n21⟩, -, X21, ⟨Lc21, hQ21, l21, y21, z21⟩, st21⟩ := X20.specialBack hx (y := (⟨"com/example/refleash/refleash/heap/Leak", "<init>", "(Ljava/lang/String;JLcom/example/refleash/refleash/heap/Trace;Ljava/util/List;IILjava/util/List;)V"⟩ : MethodName)) rfl hown (mvT hZ (hw _ (List.mem_of_getElem? (i := 159) rfl))) (mvT hZ (hw _ (List.mem_of_getElem? (i := 160) rfl))) (mvT hZ (hw _ (List.mem_of_getElem? (i := 161) rfl))) (by decide) (backOf (W := 1) (leak_init l Z a0 hw [] b17 a18 (0 : Int64) b1 b9 p0 p1 b19 r16 b11 m_o w_el w_em w_ee k16r k_ee T20.heap n0 (Nat.le_trans Z0 K20.1) (((F17_signature.keep K18q nin0).keep K19q nin0).keep K20q (ninS (Nat.ne_of_lt (Nat.lt_of_lt_of_le (A17.keep K18q).lt sz_b19)) nin0)) (((F17_retainedBytes.keep K18q nin0).keep K19q nin0).keep K20q (ninS (Nat.ne_of_lt (Nat.lt_of_lt_of_le (A17.keep K18q).lt sz_b19)) nin0)) (((F17_trace.keep K18q nin0).keep K19q nin0).keep K20q (ninS (Nat.ne_of_lt (Nat.lt_of_lt_of_le (A17.keep K18q).lt sz_b19)) nin0)) (((F17_nodes.keep K18q nin0).keep K19q nin0).keep K20q (ninS (Nat.ne_of_lt (Nat.lt_of_lt_of_le (A17.keep K18q).lt sz_b19)) nin0)) (((F17_firstSuspect.keep K18q nin0).keep K19q nin0).keep K20q (ninS (Nat.ne_of_lt (Nat.lt_of_lt_of_le (A17.keep K18q).lt sz_b19)) nin0)) (((F17_endSuspect.keep K18q nin0).keep K19q nin0).keep K20q (ninS (Nat.ne_of_lt (Nat.lt_of_lt_of_le (A17.keep K18q).lt sz_b19)) nin0)) (((F17_objects.keep K18q nin0).keep K19q nin0).keep K20q (ninS (Nat.ne_of_lt (Nat.lt_of_lt_of_le (A17.keep K18q).lt sz_b19)) nin0)) (((A17.keep K18q).keep K19q).keep K20q) g_b17 (((((((((((E8q.keep K9q).keep K10q).keep K11q).keep K12q).keep K14q).keep K15q).keep K16q).keep K17q).keep K18q).keep K19q).keep K20q) (((((((((((F8q.keep K9q nin0).keep K10q (ninS (Nat.ne_of_lt (Nat.lt_of_lt_of_le E8q.lt sz_b9)) nin0)).keep K11q nin0).keep K12q nin0).keep K14q nin0).keep K15q (ninS (Nat.ne_of_lt (Nat.lt_of_lt_of_le ((E8q.keep K9q).keep K10q).lt sz_b11)) nin0)).keep K16q (ninS (Nat.ne_of_lt (Nat.lt_of_lt_of_le E8q.lt sz_b9)) nin0)).keep K17q nin0).keep K18q nin0).keep K19q nin0).keep K20q (ninS (Nat.ne_of_lt (Nat.lt_of_lt_of_le (((((((((E8q.keep K9q).keep K10q).keep K11q).keep K12q).keep K14q).keep K15q).keep K16q).keep K17q).keep K18q).lt sz_b19)) nin0)) ((((E16q.keep K17q).keep K18q).keep K19q).keep K20q) ((((F16q_elementData.keep K17q nin0).keep K18q nin0).keep K19q nin0).keep K20q (ninS (Nat.ne_of_lt (Nat.lt_of_lt_of_le ((E16q.keep K17q).keep K18q).lt sz_b19)) nin0)) ((((F16q_size.keep K17q nin0).keep K18q nin0).keep K19q nin0).keep K20q (ninS (Nat.ne_of_lt (Nat.lt_of_lt_of_le ((E16q.keep K17q).keep K18q).lt sz_b19)) nin0)) ((((E16r.keep K17q).keep K18q).keep K19q).keep K20q) ((((V16q.keep K17q nin0).keep K18q nin0).keep K19q nin0).keep K20q (ninS (Nat.ne_of_lt (Nat.lt_of_lt_of_le ((E16r.keep K17q).keep K18q).lt sz_b19)) nin0)) (own_obj (((((E15q.keep K16q).keep K17q).keep K18q).keep K19q).keep K20q) (hw _ (List.mem_of_getElem? (i := 154) rfl))) E20q F20q_size (own_sta_keep S_el K20) (own_sta_keep S_em K20) ((((((((((((((((((E_el.keep K1q).keep K2q).keep K4q).keep K5q).keep K6q).keep K7q).keep K8q).keep K9q).keep K10q).keep K11q).keep K12q).keep K14q).keep K15q).keep K16q).keep K17q).keep K18q).keep K19q).keep K20q) ((((((((((((((((((F_el.keep K1q nin0).keep K2q nin0).keep K4q nin0).keep K5q (ninS (Nat.ne_of_lt (Nat.lt_of_lt_of_le (E_el.keep K1q).lt sz_b2)) nin0)).keep K6q nin0).keep K7q (ninS (Nat.ne_of_lt (Nat.lt_of_lt_of_le ((((E_el.keep K1q).keep K2q).keep K4q).keep K5q).lt sz_b6)) nin0)).keep K8q (ninS (Nat.ne_of_lt (Nat.lt_of_lt_of_le E_el.lt sz_b1)) nin0)).keep K9q nin0).keep K10q (ninS (Nat.ne_of_lt (Nat.lt_of_lt_of_le (((((((E_el.keep K1q).keep K2q).keep K4q).keep K5q).keep K6q).keep K7q).keep K8q).lt sz_b9)) nin0)).keep K11q nin0).keep K12q nin0).keep K14q nin0).keep K15q (ninS (Nat.ne_of_lt (Nat.lt_of_lt_of_le (((((((((E_el.keep K1q).keep K2q).keep K4q).keep K5q).keep K6q).keep K7q).keep K8q).keep K9q).keep K10q).lt sz_b11)) nin0)).keep K16q (ninS (Nat.ne_of_lt (Nat.lt_of_lt_of_le (((((((E_el.keep K1q).keep K2q).keep K4q).keep K5q).keep K6q).keep K7q).keep K8q).lt sz_b9)) nin0)).keep K17q nin0).keep K18q nin0).keep K19q nin0).keep K20q (ninS (Nat.ne_of_lt (Nat.lt_of_lt_of_le ((((((((((((((((E_el.keep K1q).keep K2q).keep K4q).keep K5q).keep K6q).keep K7q).keep K8q).keep K9q).keep K10q).keep K11q).keep K12q).keep K14q).keep K15q).keep K16q).keep K17q).keep K18q).lt sz_b19)) nin0)) ((((((((((((((((((V_ee.keep K1q nin0).keep K2q nin0).keep K4q nin0).keep K5q (ninS (Nat.ne_of_lt (Nat.lt_of_lt_of_le (V_ee.keep K1q nin0).lt sz_b2)) nin0)).keep K6q nin0).keep K7q (ninS (Nat.ne_of_lt (Nat.lt_of_lt_of_le ((((V_ee.keep K1q nin0).keep K2q nin0).keep K4q nin0).keep K5q (ninS (Nat.ne_of_lt (Nat.lt_of_lt_of_le (V_ee.keep K1q nin0).lt sz_b2)) nin0)).lt sz_b6)) nin0)).keep K8q (ninS (Nat.ne_of_lt (Nat.lt_of_lt_of_le V_ee.lt sz_b1)) nin0)).keep K9q nin0).keep K10q (ninS (Nat.ne_of_lt (Nat.lt_of_lt_of_le (((((((V_ee.keep K1q nin0).keep K2q nin0).keep K4q nin0).keep K5q (ninS (Nat.ne_of_lt (Nat.lt_of_lt_of_le (V_ee.keep K1q nin0).lt sz_b2)) nin0)).keep K6q nin0).keep K7q (ninS (Nat.ne_of_lt (Nat.lt_of_lt_of_le ((((V_ee.keep K1q nin0).keep K2q nin0).keep K4q nin0).keep K5q (ninS (Nat.ne_of_lt (Nat.lt_of_lt_of_le (V_ee.keep K1q nin0).lt sz_b2)) nin0)).lt sz_b6)) nin0)).keep K8q (ninS (Nat.ne_of_lt (Nat.lt_of_lt_of_le V_ee.lt sz_b1)) nin0)).lt sz_b9)) nin0)).keep K11q nin0).keep K12q nin0).keep K14q nin0).keep K15q (ninS (Nat.ne_of_lt (Nat.lt_of_lt_of_le (((((((((V_ee.keep K1q nin0).keep K2q nin0).keep K4q nin0).keep K5q (ninS (Nat.ne_of_lt (Nat.lt_of_lt_of_le (V_ee.keep K1q nin0).lt sz_b2)) nin0)).keep K6q nin0).keep K7q (ninS (Nat.ne_of_lt (Nat.lt_of_lt_of_le ((((V_ee.keep K1q nin0).keep K2q nin0).keep K4q nin0).keep K5q (ninS (Nat.ne_of_lt (Nat.lt_of_lt_of_le (V_ee.keep K1q nin0).lt sz_b2)) nin0)).lt sz_b6)) nin0)).keep K8q (ninS (Nat.ne_of_lt (Nat.lt_of_lt_of_le V_ee.lt sz_b1)) nin0)).keep K9q nin0).keep K10q (ninS (Nat.ne_of_lt (Nat.lt_of_lt_of_le (((((((V_ee.keep K1q nin0).keep K2q nin0).keep K4q nin0).keep K5q (ninS (Nat.ne_of_lt (Nat.lt_of_lt_of_le (V_ee.keep K1q nin0).lt sz_b2)) nin0)).keep K6q nin0).keep K7q (ninS (Nat.ne_of_lt (Nat.lt_of_lt_of_le ((((V_ee.keep K1q nin0).keep K2q nin0).keep K4q nin0).keep K5q (ninS (Nat.ne_of_lt (Nat.lt_of_lt_of_le (V_ee.keep K1q nin0).lt sz_b2)) nin0)).lt sz_b6)) nin0)).keep K8q (ninS (Nat.ne_of_lt (Nat.lt_of_lt_of_le V_ee.lt sz_b1)) nin0)).lt sz_b9)) nin0)).lt sz_b11)) nin0)).keep K16q (ninS (Nat.ne_of_lt (Nat.lt_of_lt_of_le (((((((V_ee.keep K1q nin0).keep K2q nin0).keep K4q nin0).keep K5q (ninS (Nat.ne_of_lt (Nat.lt_of_lt_of_le (V_ee.keep K1q nin0).lt sz_b2)) nin0)).keep K6q nin0).keep K7q (ninS (Nat.ne_of_lt (Nat.lt_of_lt_of_le ((((V_ee.keep K1q nin0).keep K2q nin0).keep K4q nin0).keep K5q (ninS (Nat.ne_of_lt (Nat.lt_of_lt_of_le (V_ee.keep K1q nin0).lt sz_b2)) nin0)).lt sz_b6)) nin0)).keep K8q (ninS (Nat.ne_of_lt (Nat.lt_of_lt_of_le V_ee.lt sz_b1)) nin0)).lt sz_b9)) nin0)).keep K17q nin0).keep K18q nin0).keep K19q nin0).keep K20q (ninS (Nat.ne_of_lt (Nat.lt_of_lt_of_le ((((((((((((((((V_ee.keep K1q nin0).keep K2q nin0).keep K4q nin0).keep K5q (ninS (Nat.ne_of_lt (Nat.lt_of_lt_of_le (V_ee.keep K1q nin0).lt sz_b2)) nin0)).keep K6q nin0).keep K7q (ninS (Nat.ne_of_lt (Nat.lt_of_lt_of_le ((((V_ee.keep K1q nin0).keep K2q nin0).keep K4q nin0).keep K5q (ninS (Nat.ne_of_lt (Nat.lt_of_lt_of_le (V_ee.keep K1q nin0).lt sz_b2)) nin0)).lt sz_b6)) nin0)).keep K8q (ninS (Nat.ne_of_lt (Nat.lt_of_lt_of_le V_ee.lt sz_b1)) nin0)).keep K9q nin0).keep K10q (ninS (Nat.ne_of_lt (Nat.lt_of_lt_of_le (((((((V_ee.keep K1q nin0).keep K2q nin0).keep K4q nin0).keep K5q (ninS (Nat.ne_of_lt (Nat.lt_of_lt_of_le (V_ee.keep K1q nin0).lt sz_b2)) nin0)).keep K6q nin0).keep K7q (ninS (Nat.ne_of_lt (Nat.lt_of_lt_of_le ((((V_ee.keep K1q nin0).keep K2q nin0).keep K4q nin0).keep K5q (ninS (Nat.ne_of_lt (Nat.lt_of_lt_of_le (V_ee.keep K1q nin0).lt sz_b2)) nin0)).lt sz_b6)) nin0)).keep K8q (ninS (Nat.ne_of_lt (Nat.lt_of_lt_of_le V_ee.lt sz_b1)) nin0)).lt sz_b9)) nin0)).keep K11q nin0).keep K12q nin0).keep K14q nin0).keep K15q (ninS (Nat.ne_of_lt (Nat.lt_of_lt_of_le (((((((((V_ee.keep K1q nin0).keep K2q nin0).keep K4q nin0).keep K5q (ninS (Nat.ne_of_lt (Nat.lt_of_lt_of_le (V_ee.keep K1q nin0).lt sz_b2)) nin0)).keep K6q nin0).keep K7q (ninS (Nat.ne_of_lt (Nat.lt_of_lt_of_le ((((V_ee.keep K1q nin0).keep K2q nin0).keep K4q nin0).keep K5q (ninS (Nat.ne_of_lt (Nat.lt_of_lt_of_le (V_ee.keep K1q nin0).lt sz_b2)) nin0)).lt sz_b6)) nin0)).keep K8q (ninS (Nat.ne_of_lt (Nat.lt_of_lt_of_le V_ee.lt sz_b1)) nin0)).keep K9q nin0).keep K10q (ninS (Nat.ne_of_lt (Nat.lt_of_lt_of_le (((((((V_ee.keep K1q nin0).keep K2q nin0).keep K4q nin0).keep K5q (ninS (Nat.ne_of_lt (Nat.lt_of_lt_of_le (V_ee.keep K1q nin0).lt sz_b2)) nin0)).keep K6q nin0).keep K7q (ninS (Nat.ne_of_lt (Nat.lt_of_lt_of_le ((((V_ee.keep K1q nin0).keep K2q nin0).keep K4q nin0).keep K5q (ninS (Nat.ne_of_lt (Nat.lt_of_lt_of_le (V_ee.keep K1q nin0).lt sz_b2)) nin0)).lt sz_b6)) nin0)).keep K8q (ninS (Nat.ne_of_lt (Nat.lt_of_lt_of_le V_ee.lt sz_b1)) nin0)).lt sz_b9)) nin0)).lt sz_b11)) nin0)).keep K16q (ninS (Nat.ne_of_lt (Nat.lt_of_lt_of_le (((((((V_ee.keep K1q nin0).keep K2q nin0).keep K4q nin0).keep K5q (ninS (Nat.ne_of_lt (Nat.lt_of_lt_of_le (V_ee.keep K1q nin0).lt sz_b2)) nin0)).keep K6q nin0).keep K7q (ninS (Nat.ne_of_lt (Nat.lt_of_lt_of_le ((((V_ee.keep K1q nin0).keep K2q nin0).keep K4q nin0).keep K5q (ninS (Nat.ne_of_lt (Nat.lt_of_lt_of_le (V_ee.keep K1q nin0).lt sz_b2)) nin0)).lt sz_b6)) nin0)).keep K8q (ninS (Nat.ne_of_lt (Nat.lt_of_lt_of_le V_ee.lt sz_b1)) nin0)).lt sz_b9)) nin0)).keep K17q nin0).keep K18q nin0).lt sz_b19)) nin0)) M_o) hZ (hw _ (List.mem_of_getElem? (i := 161) rfl)) (hw _ (List.mem_of_getElem? (i := 157) rfl)) (by decide) (by decide)) (g := (mkF m 80 #[.val (.int p0), .val (.int p1), .val (.int p2), .val (.ref b1), .val (.ref b9), .unset, .unset, .unset, .unset, .unset, .unset] [(.ref b19), (.int p1), (.int p0), (.ref b9), (.ref b1), (.long (0 : Int64)), (.ref a18), (.ref b17), (.ref b17)])) rfl (by rw [hml]; rfl) (Steps.refl _) (a := b17) (argsL := [(.ref a18), (.long (0 : Int64)), (.ref b1), (.ref b9), (.int p0), (.int p1), (.ref b19)]) (rest := [(.ref b17)]) (lenOf pd__Ljava_lang_String_JLcom_example_refleash_refleash_heap_Trace_Ljava_util_List_IILjava_util_List__V rfl) rfl (by show 2 * 0 + _ ≤ _; exact Nat.le_of_eq rfl) (hb hby at_80) (fun _ _ => ⟨rfl, rfl, (by decide : 16 + 2 ≤ _), (by decide : 70 + 3 ≤ _)⟩)
  dsimp only [Pt.U, Pt.locs, Pt.cells, Pt.slots] at X21 l21 y21 z21 st21 hQ21
  subst l21 y21 z21
  obtain ⟨rfl, N21q, K21q, E21q, F21qf, F21qe⟩ := hQ21
  have N21 := Fr.app N20 N21q
  have K21 : Keep h0 T21.heap [] := K20.trans K21q (allS (Or.inr sz0_b17) all0)
  obtain ⟨cq22, kq22, q22a, q22b, q22c⟩ := isOf hZ rfl E21q
  obtain ⟨_, _, ⟨T22, L22, k22, n22⟩, -, X22, ⟨Lc22, hQ22, l22, y22, z22⟩, st22⟩ := X21.virtualBack hx (y := (⟨"com/example/refleash/refleash/heap/Leak", "isSuspect", "(I)Z"⟩ : MethodName)) (z := (⟨"com/example/refleash/refleash/heap/Leak", "isSuspect", "(I)Z"⟩ : MethodName)) hown (mvT hZ (hw _ (List.mem_of_getElem? (i := 262) rfl))) (mvT hZ (hw _ (List.mem_of_getElem? (i := 263) rfl))) (notFace_of_selects (args := #[]) (mvT hZ (hw _ (List.mem_of_getElem? (i := 265) rfl)))) (mvT hZ (hw _ (List.mem_of_getElem? (i := 265) rfl))) (mvT hZ (hw _ (List.mem_of_getElem? (i := 264) rfl))) (by decide) (backOf (W := 0) (susp_1 l Z a0 hw [] b17 p2 p0 p1 T21.heap n0 (Nat.le_trans Z0 K21.1) F21qf F21qe hA hB) hZ (hw _ (List.mem_of_getElem? (i := 266) rfl)) (hw _ (List.mem_of_getElem? (i := 157) rfl)) (by decide) (by decide)) q22a q22c (g := (mkF m 124 #[.val (.int p0), .val (.int p1), .val (.int p2), .val (.ref b1), .val (.ref b9), .val (.ref b17), .val (.long ((p2.toInt64) - (p0.toInt64))), .second, .val (.long ((p1.toInt64) - (p0.toInt64))), .second, .val (.int (1 : Int32))] [(.int p2), (.ref b17)])) rfl (by rw [hml]; rfl) (Steps.refl _) (argsL := [(.int p2)]) (rest := []) (lenOf pd__I_Z rfl) rfl (by show 2 * 0 + _ ≤ _; exact Nat.le_of_eq rfl) (hb hby at_124) (fun _ _ => ⟨rfl, rfl, (by decide : 18 + 0 ≤ _), (by decide : 73 + 0 ≤ _)⟩)
  dsimp only [Pt.U, Pt.locs, Pt.cells, Pt.slots] at X22 l22 y22 z22 st22 hQ22
  subst l22 y22 z22
  obtain ⟨rfl, N22q, e22⟩ := hQ22
  have N22 := Fr.app N21 N22q
  obtain ⟨cq23, kq23, q23a, q23b, q23c⟩ := isOf hZ e22 E21q
  obtain ⟨_, _, ⟨T23, L23, k23, n23⟩, -, X23, ⟨Lc23, hQ23, l23, y23, z23⟩, st23⟩ := X22.virtualBack hx (y := (⟨"com/example/refleash/refleash/heap/Leak", "isSuspect", "(I)Z"⟩ : MethodName)) (z := (⟨"com/example/refleash/refleash/heap/Leak", "isSuspect", "(I)Z"⟩ : MethodName)) hown (mvT hZ (hw _ (List.mem_of_getElem? (i := 262) rfl))) (mvT hZ (hw _ (List.mem_of_getElem? (i := 263) rfl))) (notFace_of_selects (args := #[]) (mvT hZ (hw _ (List.mem_of_getElem? (i := 265) rfl)))) (mvT hZ (hw _ (List.mem_of_getElem? (i := 265) rfl))) (mvT hZ (hw _ (List.mem_of_getElem? (i := 264) rfl))) (by decide) (backOf (W := 0) (susp_0 l Z a0 hw [] b17 p1 p0 p1 T21.heap n0 (Nat.le_trans Z0 K21.1) F21qf F21qe (Or.inr (own_irr p1))) hZ (hw _ (List.mem_of_getElem? (i := 266) rfl)) (hw _ (List.mem_of_getElem? (i := 157) rfl)) (by decide) (by decide)) q23a q23c (g := (mkF m 135 #[.val (.int p0), .val (.int p1), .val (.int p2), .val (.ref b1), .val (.ref b9), .val (.ref b17), .val (.long ((p2.toInt64) - (p0.toInt64))), .second, .val (.long ((p1.toInt64) - (p0.toInt64))), .second, .val (.int (1 : Int32))] [(.int p1), (.ref b17)])) rfl (by rw [hml]; rfl) (Steps.refl _) (argsL := [(.int p1)]) (rest := []) (lenOf pd__I_Z rfl) rfl (by show 2 * 0 + _ ≤ _; exact Nat.le_of_eq rfl) (hb hby at_135) (fun _ _ => ⟨rfl, e22, (by decide : 18 + 0 ≤ _), (by decide : 73 + 0 ≤ _)⟩)
  dsimp only [Pt.U, Pt.locs, Pt.cells, Pt.slots] at X23 l23 y23 z23 st23 hQ23
  subst l23 y23 z23
  obtain ⟨rfl, N23q, e23⟩ := hQ23
  have N23 := Fr.app N22 N23q
  obtain ⟨cq24, kq24, q24a, q24b, q24c⟩ := isOf hZ e23 E21q
  obtain ⟨_, _, ⟨T24, L24, k24, n24⟩, -, X24, ⟨Lc24, hQ24, l24, y24, z24⟩, st24⟩ := X23.virtualBack hx (y := (⟨"com/example/refleash/refleash/heap/Leak", "isSuspect", "(I)Z"⟩ : MethodName)) (z := (⟨"com/example/refleash/refleash/heap/Leak", "isSuspect", "(I)Z"⟩ : MethodName)) hown (mvT hZ (hw _ (List.mem_of_getElem? (i := 262) rfl))) (mvT hZ (hw _ (List.mem_of_getElem? (i := 263) rfl))) (notFace_of_selects (args := #[]) (mvT hZ (hw _ (List.mem_of_getElem? (i := 265) rfl)))) (mvT hZ (hw _ (List.mem_of_getElem? (i := 265) rfl))) (mvT hZ (hw _ (List.mem_of_getElem? (i := 264) rfl))) (by decide) (backOf (W := 0) (susp_1 l Z a0 hw [] b17 p0 p0 p1 T21.heap n0 (Nat.le_trans Z0 K21.1) F21qf F21qe (own_irr p0) hD) hZ (hw _ (List.mem_of_getElem? (i := 266) rfl)) (hw _ (List.mem_of_getElem? (i := 157) rfl)) (by decide) (by decide)) q24a q24c (g := (mkF m 144 #[.val (.int p0), .val (.int p1), .val (.int p2), .val (.ref b1), .val (.ref b9), .val (.ref b17), .val (.long ((p2.toInt64) - (p0.toInt64))), .second, .val (.long ((p1.toInt64) - (p0.toInt64))), .second, .val (.int (1 : Int32))] [(.int p0), (.ref b17)])) rfl (by rw [hml]; rfl) (Steps.refl _) (argsL := [(.int p0)]) (rest := []) (lenOf pd__I_Z rfl) rfl (by show 2 * 0 + _ ≤ _; exact Nat.le_of_eq rfl) (hb hby at_144) (fun _ _ => ⟨rfl, e23, (by decide : 18 + 0 ≤ _), (by decide : 73 + 0 ≤ _)⟩)
  dsimp only [Pt.U, Pt.locs, Pt.cells, Pt.slots] at X24 l24 y24 z24 st24 hQ24
  subst l24 y24 z24
  obtain ⟨rfl, N24q, e24⟩ := hQ24
  have N24 := Fr.app N23 N24q
  obtain ⟨fs, hr, hrun, hended, hEnd⟩ := leaveW X24 S18 (by rw [e24]; exact (Nat.le_trans (Nat.le_trans (Nat.le_trans hk18 K19q.1) K20q.1) K21q.1)) (v := some (.int (1 : Int32))) (fun h => by rw [Bd.returns] at h; cases h) Bd.notSynchronized
  refine ⟨_, _, pre0 _ ?_, hrun, hended, _, _, rfl, ?_, hEnd.1, hEnd.2.1, hEnd.2.2.1, hEnd.2.2.2.mono (by decide) (by decide)⟩
  · show Steps p.tables e below (s₁.setTop (mkF m 0 #[.val (.int p0), .val (.int p1), .val (.int p2), .unset, .unset, .unset, .unset, .unset, .unset, .unset, .unset] [])) _
    refine st1 _ ?_
    show Steps p.tables e below (T1.setTop (mkF m 3 #[.val (.int p0), .val (.int p1), .val (.int p2), .unset, .unset, .unset, .unset, .unset, .unset, .unset, .unset] [(.ref b1)])) _
    refine XS.dup X1.here hx rfl (hb hby at_3) rfl rfl ?_
    show Steps p.tables e below (T1.setTop (mkF m 4 #[.val (.int p0), .val (.int p1), .val (.int p2), .unset, .unset, .unset, .unset, .unset, .unset, .unset, .unset] [(.ref b1), (.ref b1)])) _
    refine XS.lconst X1.here hx rfl (hb hby at_4) ?_
    show Steps p.tables e below (T1.setTop (mkF m 5 #[.val (.int p0), .val (.int p1), .val (.int p2), .unset, .unset, .unset, .unset, .unset, .unset, .unset, .unset] [(.long (0 : Int64)), (.ref b1), (.ref b1)])) _
    refine st2 _ ?_
    show Steps p.tables e below (T2.setTop (mkF m 8 #[.val (.int p0), .val (.int p1), .val (.int p2), .unset, .unset, .unset, .unset, .unset, .unset, .unset, .unset] [(.ref b2), (.long (0 : Int64)), (.ref b1), (.ref b1)])) _
    refine XS.dup X2.here hx rfl (hb hby at_8) rfl rfl ?_
    show Steps p.tables e below (T2.setTop (mkF m 9 #[.val (.int p0), .val (.int p1), .val (.int p2), .unset, .unset, .unset, .unset, .unset, .unset, .unset, .unset] [(.ref b2), (.ref b2), (.long (0 : Int64)), (.ref b1), (.ref b1)])) _
    refine st3 _ ?_
    show Steps p.tables e below (T3.setTop (mkF m 12 #[.val (.int p0), .val (.int p1), .val (.int p2), .unset, .unset, .unset, .unset, .unset, .unset, .unset, .unset] [(.ref w_CLASS), (.ref b2), (.ref b2), (.long (0 : Int64)), (.ref b1), (.ref b1)])) _
    refine st4 _ ?_
    show Steps p.tables e below (T4.setTop (mkF m 14 #[.val (.int p0), .val (.int p1), .val (.int p2), .unset, .unset, .unset, .unset, .unset, .unset, .unset, .unset] [(.ref a4), (.ref w_CLASS), (.ref b2), (.ref b2), (.long (0 : Int64)), (.ref b1), (.ref b1)])) _
    refine XS.aconstNull X4.here hx rfl (hb hby at_14) ?_
    show Steps p.tables e below (T4.setTop (mkF m 15 #[.val (.int p0), .val (.int p1), .val (.int p2), .unset, .unset, .unset, .unset, .unset, .unset, .unset, .unset] [.null, (.ref a4), (.ref w_CLASS), (.ref b2), (.ref b2), (.long (0 : Int64)), (.ref b1), (.ref b1)])) _
    refine XS.aconstNull X4.here hx rfl (hb hby at_15) ?_
    show Steps p.tables e below (T4.setTop (mkF m 16 #[.val (.int p0), .val (.int p1), .val (.int p2), .unset, .unset, .unset, .unset, .unset, .unset, .unset, .unset] [.null, .null, (.ref a4), (.ref w_CLASS), (.ref b2), (.ref b2), (.long (0 : Int64)), (.ref b1), (.ref b1)])) _
    refine st5.trans ?_
    show Steps p.tables e below (T5.setTop (mkF m 19 #[.val (.int p0), .val (.int p1), .val (.int p2), .unset, .unset, .unset, .unset, .unset, .unset, .unset, .unset] [(.ref b2), (.long (0 : Int64)), (.ref b1), (.ref b1)])) _
    refine st6 _ ?_
    show Steps p.tables e below (T6.setTop (mkF m 22 #[.val (.int p0), .val (.int p1), .val (.int p2), .unset, .unset, .unset, .unset, .unset, .unset, .unset, .unset] [(.ref b6), (.ref b2), (.long (0 : Int64)), (.ref b1), (.ref b1)])) _
    refine XS.dup X6.here hx rfl (hb hby at_22) rfl rfl ?_
    show Steps p.tables e below (T6.setTop (mkF m 23 #[.val (.int p0), .val (.int p1), .val (.int p2), .unset, .unset, .unset, .unset, .unset, .unset, .unset, .unset] [(.ref b6), (.ref b6), (.ref b2), (.long (0 : Int64)), (.ref b1), (.ref b1)])) _
    refine st7.trans ?_
    show Steps p.tables e below (T7.setTop (mkF m 26 #[.val (.int p0), .val (.int p1), .val (.int p2), .unset, .unset, .unset, .unset, .unset, .unset, .unset, .unset] [(.ref b6), (.ref b2), (.long (0 : Int64)), (.ref b1), (.ref b1)])) _
    refine XS.lconst X7.here hx rfl (hb hby at_26) ?_
    show Steps p.tables e below (T7.setTop (mkF m 27 #[.val (.int p0), .val (.int p1), .val (.int p2), .unset, .unset, .unset, .unset, .unset, .unset, .unset, .unset] [(.long (0 : Int64)), (.ref b6), (.ref b2), (.long (0 : Int64)), (.ref b1), (.ref b1)])) _
    refine XS.lconst X7.here hx rfl (hb hby at_27) ?_
    show Steps p.tables e below (T7.setTop (mkF m 28 #[.val (.int p0), .val (.int p1), .val (.int p2), .unset, .unset, .unset, .unset, .unset, .unset, .unset, .unset] [(.long (0 : Int64)), (.long (0 : Int64)), (.ref b6), (.ref b2), (.long (0 : Int64)), (.ref b1), (.ref b1)])) _
    refine st8.trans ?_
    show Steps p.tables e below (T8.setTop (mkF m 31 #[.val (.int p0), .val (.int p1), .val (.int p2), .unset, .unset, .unset, .unset, .unset, .unset, .unset, .unset] [(.ref b1)])) _
    refine XS.astoreN X8.here hx rfl (hb hby at_31) rfl rfl (l' := #[.val (.int p0), .val (.int p1), .val (.int p2), .val (.ref b1), .unset, .unset, .unset, .unset, .unset, .unset, .unset]) rfl ?_
    show Steps p.tables e below (T8.setTop (mkF m 32 #[.val (.int p0), .val (.int p1), .val (.int p2), .val (.ref b1), .unset, .unset, .unset, .unset, .unset, .unset, .unset] [])) _
    refine st9 _ ?_
    show Steps p.tables e below (T9.setTop (mkF m 35 #[.val (.int p0), .val (.int p1), .val (.int p2), .val (.ref b1), .unset, .unset, .unset, .unset, .unset, .unset, .unset] [(.ref b9)])) _
    refine XS.dup X9.here hx rfl (hb hby at_35) rfl rfl ?_
    show Steps p.tables e below (T9.setTop (mkF m 36 #[.val (.int p0), .val (.int p1), .val (.int p2), .val (.ref b1), .unset, .unset, .unset, .unset, .unset, .unset, .unset] [(.ref b9), (.ref b9)])) _
    refine st10.trans ?_
    show Steps p.tables e below (T10.setTop (mkF m 39 #[.val (.int p0), .val (.int p1), .val (.int p2), .val (.ref b1), .unset, .unset, .unset, .unset, .unset, .unset, .unset] [(.ref b9)])) _
    refine XS.astore X10.here hx rfl (hb hby at_39) rfl rfl (l' := #[.val (.int p0), .val (.int p1), .val (.int p2), .val (.ref b1), .val (.ref b9), .unset, .unset, .unset, .unset, .unset, .unset]) rfl ?_
    show Steps p.tables e below (T10.setTop (mkF m 41 #[.val (.int p0), .val (.int p1), .val (.int p2), .val (.ref b1), .val (.ref b9), .unset, .unset, .unset, .unset, .unset, .unset] [])) _
    refine XS.aload X10.here hx rfl (hb hby at_41) rfl rfl ?_
    show Steps p.tables e below (T10.setTop (mkF m 43 #[.val (.int p0), .val (.int p1), .val (.int p2), .val (.ref b1), .val (.ref b9), .unset, .unset, .unset, .unset, .unset, .unset] [(.ref b9)])) _
    refine st11 _ ?_
    show Steps p.tables e below (T11.setTop (mkF m 46 #[.val (.int p0), .val (.int p1), .val (.int p2), .val (.ref b1), .val (.ref b9), .unset, .unset, .unset, .unset, .unset, .unset] [(.ref b11), (.ref b9)])) _
    refine XS.dup X11.here hx rfl (hb hby at_46) rfl rfl ?_
    show Steps p.tables e below (T11.setTop (mkF m 47 #[.val (.int p0), .val (.int p1), .val (.int p2), .val (.ref b1), .val (.ref b9), .unset, .unset, .unset, .unset, .unset, .unset] [(.ref b11), (.ref b11), (.ref b9)])) _
    refine st12 _ ?_
    show Steps p.tables e below (T12.setTop (mkF m 49 #[.val (.int p0), .val (.int p1), .val (.int p2), .val (.ref b1), .val (.ref b9), .unset, .unset, .unset, .unset, .unset, .unset] [(.ref a12), (.ref b11), (.ref b11), (.ref b9)])) _
    refine st13 _ ?_
    show Steps p.tables e below (T13.setTop (mkF m 52 #[.val (.int p0), .val (.int p1), .val (.int p2), .val (.ref b1), .val (.ref b9), .unset, .unset, .unset, .unset, .unset, .unset] [(.ref w_UNKNOWN), (.ref a12), (.ref b11), (.ref b11), (.ref b9)])) _
    refine st14 _ ?_
    show Steps p.tables e below (T14.setTop (mkF m 54 #[.val (.int p0), .val (.int p1), .val (.int p2), .val (.ref b1), .val (.ref b9), .unset, .unset, .unset, .unset, .unset, .unset] [(.ref a14), (.ref w_UNKNOWN), (.ref a12), (.ref b11), (.ref b11), (.ref b9)])) _
    refine st15.trans ?_
    show Steps p.tables e below (T15.setTop (mkF m 57 #[.val (.int p0), .val (.int p1), .val (.int p2), .val (.ref b1), .val (.ref b9), .unset, .unset, .unset, .unset, .unset, .unset] [(.ref b11), (.ref b9)])) _
    refine st16.trans ?_
    show Steps p.tables e below (T16.setTop (mkF m 60 #[.val (.int p0), .val (.int p1), .val (.int p2), .val (.ref b1), .val (.ref b9), .unset, .unset, .unset, .unset, .unset, .unset] [(.int (1 : Int32))])) _
    refine XS.pop X16.here hx rfl (hb hby at_60) rfl rfl ?_
    show Steps p.tables e below (T16.setTop (mkF m 61 #[.val (.int p0), .val (.int p1), .val (.int p2), .val (.ref b1), .val (.ref b9), .unset, .unset, .unset, .unset, .unset, .unset] [])) _
    refine st17 _ ?_
    show Steps p.tables e below (T17.setTop (mkF m 64 #[.val (.int p0), .val (.int p1), .val (.int p2), .val (.ref b1), .val (.ref b9), .unset, .unset, .unset, .unset, .unset, .unset] [(.ref b17)])) _
    refine XS.dup X17.here hx rfl (hb hby at_64) rfl rfl ?_
    show Steps p.tables e below (T17.setTop (mkF m 65 #[.val (.int p0), .val (.int p1), .val (.int p2), .val (.ref b1), .val (.ref b9), .unset, .unset, .unset, .unset, .unset, .unset] [(.ref b17), (.ref b17)])) _
    refine st18 _ ?_
    show Steps p.tables e below (T18.setTop (mkF m 67 #[.val (.int p0), .val (.int p1), .val (.int p2), .val (.ref b1), .val (.ref b9), .unset, .unset, .unset, .unset, .unset, .unset] [(.ref a18), (.ref b17), (.ref b17)])) _
    refine XS.lconst X18.here hx rfl (hb hby at_67) ?_
    show Steps p.tables e below (T18.setTop (mkF m 68 #[.val (.int p0), .val (.int p1), .val (.int p2), .val (.ref b1), .val (.ref b9), .unset, .unset, .unset, .unset, .unset, .unset] [(.long (0 : Int64)), (.ref a18), (.ref b17), (.ref b17)])) _
    refine XS.aloadN X18.here hx rfl (hb hby at_68) rfl rfl ?_
    show Steps p.tables e below (T18.setTop (mkF m 69 #[.val (.int p0), .val (.int p1), .val (.int p2), .val (.ref b1), .val (.ref b9), .unset, .unset, .unset, .unset, .unset, .unset] [(.ref b1), (.long (0 : Int64)), (.ref a18), (.ref b17), (.ref b17)])) _
    refine XS.aload X18.here hx rfl (hb hby at_69) rfl rfl ?_
    show Steps p.tables e below (T18.setTop (mkF m 71 #[.val (.int p0), .val (.int p1), .val (.int p2), .val (.ref b1), .val (.ref b9), .unset, .unset, .unset, .unset, .unset, .unset] [(.ref b9), (.ref b1), (.long (0 : Int64)), (.ref a18), (.ref b17), (.ref b17)])) _
    refine XS.iloadN X18.here hx rfl (hb hby at_71) rfl ?_
    show Steps p.tables e below (T18.setTop (mkF m 72 #[.val (.int p0), .val (.int p1), .val (.int p2), .val (.ref b1), .val (.ref b9), .unset, .unset, .unset, .unset, .unset, .unset] [(.int p0), (.ref b9), (.ref b1), (.long (0 : Int64)), (.ref a18), (.ref b17), (.ref b17)])) _
    refine XS.iloadN X18.here hx rfl (hb hby at_72) rfl ?_
    show Steps p.tables e below (T18.setTop (mkF m 73 #[.val (.int p0), .val (.int p1), .val (.int p2), .val (.ref b1), .val (.ref b9), .unset, .unset, .unset, .unset, .unset, .unset] [(.int p1), (.int p0), (.ref b9), (.ref b1), (.long (0 : Int64)), (.ref a18), (.ref b17), (.ref b17)])) _
    refine st19 _ ?_
    show Steps p.tables e below (T19.setTop (mkF m 76 #[.val (.int p0), .val (.int p1), .val (.int p2), .val (.ref b1), .val (.ref b9), .unset, .unset, .unset, .unset, .unset, .unset] [(.ref b19), (.int p1), (.int p0), (.ref b9), (.ref b1), (.long (0 : Int64)), (.ref a18), (.ref b17), (.ref b17)])) _
    refine XS.dup X19.here hx rfl (hb hby at_76) rfl rfl ?_
    show Steps p.tables e below (T19.setTop (mkF m 77 #[.val (.int p0), .val (.int p1), .val (.int p2), .val (.ref b1), .val (.ref b9), .unset, .unset, .unset, .unset, .unset, .unset] [(.ref b19), (.ref b19), (.int p1), (.int p0), (.ref b9), (.ref b1), (.long (0 : Int64)), (.ref a18), (.ref b17), (.ref b17)])) _
    refine st20.trans ?_
    show Steps p.tables e below (T20.setTop (mkF m 80 #[.val (.int p0), .val (.int p1), .val (.int p2), .val (.ref b1), .val (.ref b9), .unset, .unset, .unset, .unset, .unset, .unset] [(.ref b19), (.int p1), (.int p0), (.ref b9), (.ref b1), (.long (0 : Int64)), (.ref a18), (.ref b17), (.ref b17)])) _
    refine st21.trans ?_
    show Steps p.tables e below (T21.setTop (mkF m 83 #[.val (.int p0), .val (.int p1), .val (.int p2), .val (.ref b1), .val (.ref b9), .unset, .unset, .unset, .unset, .unset, .unset] [(.ref b17)])) _
    refine XS.astore X21.here hx rfl (hb hby at_83) rfl rfl (l' := #[.val (.int p0), .val (.int p1), .val (.int p2), .val (.ref b1), .val (.ref b9), .val (.ref b17), .unset, .unset, .unset, .unset, .unset]) rfl ?_
    show Steps p.tables e below (T21.setTop (mkF m 85 #[.val (.int p0), .val (.int p1), .val (.int p2), .val (.ref b1), .val (.ref b9), .val (.ref b17), .unset, .unset, .unset, .unset, .unset] [])) _
    refine XS.iloadN X21.here hx rfl (hb hby at_85) rfl ?_
    show Steps p.tables e below (T21.setTop (mkF m 86 #[.val (.int p0), .val (.int p1), .val (.int p2), .val (.ref b1), .val (.ref b9), .val (.ref b17), .unset, .unset, .unset, .unset, .unset] [(.int p2)])) _
    refine XS.i2l X21.here hx rfl (hb hby at_86) rfl ?_
    show Steps p.tables e below (T21.setTop (mkF m 87 #[.val (.int p0), .val (.int p1), .val (.int p2), .val (.ref b1), .val (.ref b9), .val (.ref b17), .unset, .unset, .unset, .unset, .unset] [(.long (p2.toInt64))])) _
    refine XS.iloadN X21.here hx rfl (hb hby at_87) rfl ?_
    show Steps p.tables e below (T21.setTop (mkF m 88 #[.val (.int p0), .val (.int p1), .val (.int p2), .val (.ref b1), .val (.ref b9), .val (.ref b17), .unset, .unset, .unset, .unset, .unset] [(.int p0), (.long (p2.toInt64))])) _
    refine XS.i2l X21.here hx rfl (hb hby at_88) rfl ?_
    show Steps p.tables e below (T21.setTop (mkF m 89 #[.val (.int p0), .val (.int p1), .val (.int p2), .val (.ref b1), .val (.ref b9), .val (.ref b17), .unset, .unset, .unset, .unset, .unset] [(.long (p0.toInt64)), (.long (p2.toInt64))])) _
    refine XS.lsub X21.here hx rfl (hb hby at_89) rfl ?_
    show Steps p.tables e below (T21.setTop (mkF m 90 #[.val (.int p0), .val (.int p1), .val (.int p2), .val (.ref b1), .val (.ref b9), .val (.ref b17), .unset, .unset, .unset, .unset, .unset] [(.long ((p2.toInt64) - (p0.toInt64)))])) _
    refine XS.lstore X21.here hx rfl (hb hby at_90) rfl (l' := #[.val (.int p0), .val (.int p1), .val (.int p2), .val (.ref b1), .val (.ref b9), .val (.ref b17), .val (.long ((p2.toInt64) - (p0.toInt64))), .second, .unset, .unset, .unset]) rfl ?_
    show Steps p.tables e below (T21.setTop (mkF m 92 #[.val (.int p0), .val (.int p1), .val (.int p2), .val (.ref b1), .val (.ref b9), .val (.ref b17), .val (.long ((p2.toInt64) - (p0.toInt64))), .second, .unset, .unset, .unset] [])) _
    refine XS.iloadN X21.here hx rfl (hb hby at_92) rfl ?_
    show Steps p.tables e below (T21.setTop (mkF m 93 #[.val (.int p0), .val (.int p1), .val (.int p2), .val (.ref b1), .val (.ref b9), .val (.ref b17), .val (.long ((p2.toInt64) - (p0.toInt64))), .second, .unset, .unset, .unset] [(.int p1)])) _
    refine XS.i2l X21.here hx rfl (hb hby at_93) rfl ?_
    show Steps p.tables e below (T21.setTop (mkF m 94 #[.val (.int p0), .val (.int p1), .val (.int p2), .val (.ref b1), .val (.ref b9), .val (.ref b17), .val (.long ((p2.toInt64) - (p0.toInt64))), .second, .unset, .unset, .unset] [(.long (p1.toInt64))])) _
    refine XS.iloadN X21.here hx rfl (hb hby at_94) rfl ?_
    show Steps p.tables e below (T21.setTop (mkF m 95 #[.val (.int p0), .val (.int p1), .val (.int p2), .val (.ref b1), .val (.ref b9), .val (.ref b17), .val (.long ((p2.toInt64) - (p0.toInt64))), .second, .unset, .unset, .unset] [(.int p0), (.long (p1.toInt64))])) _
    refine XS.i2l X21.here hx rfl (hb hby at_95) rfl ?_
    show Steps p.tables e below (T21.setTop (mkF m 96 #[.val (.int p0), .val (.int p1), .val (.int p2), .val (.ref b1), .val (.ref b9), .val (.ref b17), .val (.long ((p2.toInt64) - (p0.toInt64))), .second, .unset, .unset, .unset] [(.long (p0.toInt64)), (.long (p1.toInt64))])) _
    refine XS.lsub X21.here hx rfl (hb hby at_96) rfl ?_
    show Steps p.tables e below (T21.setTop (mkF m 97 #[.val (.int p0), .val (.int p1), .val (.int p2), .val (.ref b1), .val (.ref b9), .val (.ref b17), .val (.long ((p2.toInt64) - (p0.toInt64))), .second, .unset, .unset, .unset] [(.long ((p1.toInt64) - (p0.toInt64)))])) _
    refine XS.lstore X21.here hx rfl (hb hby at_97) rfl (l' := #[.val (.int p0), .val (.int p1), .val (.int p2), .val (.ref b1), .val (.ref b9), .val (.ref b17), .val (.long ((p2.toInt64) - (p0.toInt64))), .second, .val (.long ((p1.toInt64) - (p0.toInt64))), .second, .unset]) rfl ?_
    show Steps p.tables e below (T21.setTop (mkF m 99 #[.val (.int p0), .val (.int p1), .val (.int p2), .val (.ref b1), .val (.ref b9), .val (.ref b17), .val (.long ((p2.toInt64) - (p0.toInt64))), .second, .val (.long ((p1.toInt64) - (p0.toInt64))), .second, .unset] [])) _
    refine XS.lload X21.here hx rfl (hb hby at_99) rfl ?_
    show Steps p.tables e below (T21.setTop (mkF m 101 #[.val (.int p0), .val (.int p1), .val (.int p2), .val (.ref b1), .val (.ref b9), .val (.ref b17), .val (.long ((p2.toInt64) - (p0.toInt64))), .second, .val (.long ((p1.toInt64) - (p0.toInt64))), .second, .unset] [(.long ((p2.toInt64) - (p0.toInt64)))])) _
    refine XS.lconst X21.here hx rfl (hb hby at_101) ?_
    show Steps p.tables e below (T21.setTop (mkF m 102 #[.val (.int p0), .val (.int p1), .val (.int p2), .val (.ref b1), .val (.ref b9), .val (.ref b17), .val (.long ((p2.toInt64) - (p0.toInt64))), .second, .val (.long ((p1.toInt64) - (p0.toInt64))), .second, .unset] [(.long (0 : Int64)), (.long ((p2.toInt64) - (p0.toInt64)))])) _
    refine XS.lcmp X21.here hx rfl (hb hby at_102) rfl ?_
    show Steps p.tables e below (T21.setTop (mkF m 103 #[.val (.int p0), .val (.int p1), .val (.int p2), .val (.ref b1), .val (.ref b9), .val (.ref b17), .val (.long ((p2.toInt64) - (p0.toInt64))), .second, .val (.long ((p1.toInt64) - (p0.toInt64))), .second, .unset] [(.int (lcmpW ((p2.toInt64) - (p0.toInt64)) (0 : Int64)))])) _
    refine XS.ifNo X21.here hx rfl (hb hby at_103) rfl ((if0 _ _).trans (flt (fun q => hA ((own_neg _ _).mp ((lw_lt _ _).mp q)) : ¬ ((lcmpW ((p2.toInt64) - (p0.toInt64)) (0 : Int64)) < (0 : Int32)))).1) ?_
    show Steps p.tables e below (T21.setTop (mkF m 106 #[.val (.int p0), .val (.int p1), .val (.int p2), .val (.ref b1), .val (.ref b9), .val (.ref b17), .val (.long ((p2.toInt64) - (p0.toInt64))), .second, .val (.long ((p1.toInt64) - (p0.toInt64))), .second, .unset] [])) _
    refine XS.lload X21.here hx rfl (hb hby at_106) rfl ?_
    show Steps p.tables e below (T21.setTop (mkF m 108 #[.val (.int p0), .val (.int p1), .val (.int p2), .val (.ref b1), .val (.ref b9), .val (.ref b17), .val (.long ((p2.toInt64) - (p0.toInt64))), .second, .val (.long ((p1.toInt64) - (p0.toInt64))), .second, .unset] [(.long ((p2.toInt64) - (p0.toInt64)))])) _
    refine XS.lload X21.here hx rfl (hb hby at_108) rfl ?_
    show Steps p.tables e below (T21.setTop (mkF m 110 #[.val (.int p0), .val (.int p1), .val (.int p2), .val (.ref b1), .val (.ref b9), .val (.ref b17), .val (.long ((p2.toInt64) - (p0.toInt64))), .second, .val (.long ((p1.toInt64) - (p0.toInt64))), .second, .unset] [(.long ((p1.toInt64) - (p0.toInt64))), (.long ((p2.toInt64) - (p0.toInt64)))])) _
    refine XS.lcmp X21.here hx rfl (hb hby at_110) rfl ?_
    show Steps p.tables e below (T21.setTop (mkF m 111 #[.val (.int p0), .val (.int p1), .val (.int p2), .val (.ref b1), .val (.ref b9), .val (.ref b17), .val (.long ((p2.toInt64) - (p0.toInt64))), .second, .val (.long ((p1.toInt64) - (p0.toInt64))), .second, .unset] [(.int (lcmpW ((p2.toInt64) - (p0.toInt64)) ((p1.toInt64) - (p0.toInt64))))])) _
    refine XS.ifNo X21.here hx rfl (hb hby at_111) rfl ((if0 _ _).trans (tlt ((lw_lt _ _).mpr ((own_cmp _ _ _).mpr hB) : (lcmpW ((p2.toInt64) - (p0.toInt64)) ((p1.toInt64) - (p0.toInt64))) < (0 : Int32))).2.1) ?_
    show Steps p.tables e below (T21.setTop (mkF m 114 #[.val (.int p0), .val (.int p1), .val (.int p2), .val (.ref b1), .val (.ref b9), .val (.ref b17), .val (.long ((p2.toInt64) - (p0.toInt64))), .second, .val (.long ((p1.toInt64) - (p0.toInt64))), .second, .unset] [])) _
    refine XS.iconst X21.here hx rfl (hb hby at_114) ?_
    show Steps p.tables e below (T21.setTop (mkF m 115 #[.val (.int p0), .val (.int p1), .val (.int p2), .val (.ref b1), .val (.ref b9), .val (.ref b17), .val (.long ((p2.toInt64) - (p0.toInt64))), .second, .val (.long ((p1.toInt64) - (p0.toInt64))), .second, .unset] [(.int (1 : Int32))])) _
    refine XS.goto X21.here hx rfl (pc0 := 115) (pc' := 119) rfl (hb hby at_115) (by decide) (by decide) ?_
    show Steps p.tables e below (T21.setTop (mkF m 119 #[.val (.int p0), .val (.int p1), .val (.int p2), .val (.ref b1), .val (.ref b9), .val (.ref b17), .val (.long ((p2.toInt64) - (p0.toInt64))), .second, .val (.long ((p1.toInt64) - (p0.toInt64))), .second, .unset] [(.int (1 : Int32))])) _
    refine XS.istore X21.here hx rfl (hb hby at_119) rfl (l' := #[.val (.int p0), .val (.int p1), .val (.int p2), .val (.ref b1), .val (.ref b9), .val (.ref b17), .val (.long ((p2.toInt64) - (p0.toInt64))), .second, .val (.long ((p1.toInt64) - (p0.toInt64))), .second, .val (.int (1 : Int32))]) rfl ?_
    show Steps p.tables e below (T21.setTop (mkF m 121 #[.val (.int p0), .val (.int p1), .val (.int p2), .val (.ref b1), .val (.ref b9), .val (.ref b17), .val (.long ((p2.toInt64) - (p0.toInt64))), .second, .val (.long ((p1.toInt64) - (p0.toInt64))), .second, .val (.int (1 : Int32))] [])) _
    refine XS.aload X21.here hx rfl (hb hby at_121) rfl rfl ?_
    show Steps p.tables e below (T21.setTop (mkF m 123 #[.val (.int p0), .val (.int p1), .val (.int p2), .val (.ref b1), .val (.ref b9), .val (.ref b17), .val (.long ((p2.toInt64) - (p0.toInt64))), .second, .val (.long ((p1.toInt64) - (p0.toInt64))), .second, .val (.int (1 : Int32))] [(.ref b17)])) _
    refine XS.iloadN X21.here hx rfl (hb hby at_123) rfl ?_
    show Steps p.tables e below (T21.setTop (mkF m 124 #[.val (.int p0), .val (.int p1), .val (.int p2), .val (.ref b1), .val (.ref b9), .val (.ref b17), .val (.long ((p2.toInt64) - (p0.toInt64))), .second, .val (.long ((p1.toInt64) - (p0.toInt64))), .second, .val (.int (1 : Int32))] [(.int p2), (.ref b17)])) _
    refine st22.trans ?_
    show Steps p.tables e below (T22.setTop (mkF m 127 #[.val (.int p0), .val (.int p1), .val (.int p2), .val (.ref b1), .val (.ref b9), .val (.ref b17), .val (.long ((p2.toInt64) - (p0.toInt64))), .second, .val (.long ((p1.toInt64) - (p0.toInt64))), .second, .val (.int (1 : Int32))] [(.int (1 : Int32))])) _
    refine XS.iload X22.here hx rfl (hb hby at_127) rfl ?_
    show Steps p.tables e below (T22.setTop (mkF m 129 #[.val (.int p0), .val (.int p1), .val (.int p2), .val (.ref b1), .val (.ref b9), .val (.ref b17), .val (.long ((p2.toInt64) - (p0.toInt64))), .second, .val (.long ((p1.toInt64) - (p0.toInt64))), .second, .val (.int (1 : Int32))] [(.int (1 : Int32)), (.int (1 : Int32))])) _
    refine XS.icmpNo X22.here hx rfl (hb hby at_129) rfl (teq (by decide : (1 : Int32) = (1 : Int32))).2 ?_
    show Steps p.tables e below (T22.setTop (mkF m 132 #[.val (.int p0), .val (.int p1), .val (.int p2), .val (.ref b1), .val (.ref b9), .val (.ref b17), .val (.long ((p2.toInt64) - (p0.toInt64))), .second, .val (.long ((p1.toInt64) - (p0.toInt64))), .second, .val (.int (1 : Int32))] [])) _
    refine XS.aload X22.here hx rfl (hb hby at_132) rfl rfl ?_
    show Steps p.tables e below (T22.setTop (mkF m 134 #[.val (.int p0), .val (.int p1), .val (.int p2), .val (.ref b1), .val (.ref b9), .val (.ref b17), .val (.long ((p2.toInt64) - (p0.toInt64))), .second, .val (.long ((p1.toInt64) - (p0.toInt64))), .second, .val (.int (1 : Int32))] [(.ref b17)])) _
    refine XS.iloadN X22.here hx rfl (hb hby at_134) rfl ?_
    show Steps p.tables e below (T22.setTop (mkF m 135 #[.val (.int p0), .val (.int p1), .val (.int p2), .val (.ref b1), .val (.ref b9), .val (.ref b17), .val (.long ((p2.toInt64) - (p0.toInt64))), .second, .val (.long ((p1.toInt64) - (p0.toInt64))), .second, .val (.int (1 : Int32))] [(.int p1), (.ref b17)])) _
    refine st23.trans ?_
    show Steps p.tables e below (T23.setTop (mkF m 138 #[.val (.int p0), .val (.int p1), .val (.int p2), .val (.ref b1), .val (.ref b9), .val (.ref b17), .val (.long ((p2.toInt64) - (p0.toInt64))), .second, .val (.long ((p1.toInt64) - (p0.toInt64))), .second, .val (.int (1 : Int32))] [(.int (0 : Int32))])) _
    refine XS.ifNo X23.here hx rfl (hb hby at_138) rfl ((if0 _ _).trans (teq (by decide : (0 : Int32) = (0 : Int32))).2) ?_
    show Steps p.tables e below (T23.setTop (mkF m 141 #[.val (.int p0), .val (.int p1), .val (.int p2), .val (.ref b1), .val (.ref b9), .val (.ref b17), .val (.long ((p2.toInt64) - (p0.toInt64))), .second, .val (.long ((p1.toInt64) - (p0.toInt64))), .second, .val (.int (1 : Int32))] [])) _
    refine XS.aload X23.here hx rfl (hb hby at_141) rfl rfl ?_
    show Steps p.tables e below (T23.setTop (mkF m 143 #[.val (.int p0), .val (.int p1), .val (.int p2), .val (.ref b1), .val (.ref b9), .val (.ref b17), .val (.long ((p2.toInt64) - (p0.toInt64))), .second, .val (.long ((p1.toInt64) - (p0.toInt64))), .second, .val (.int (1 : Int32))] [(.ref b17)])) _
    refine XS.iloadN X23.here hx rfl (hb hby at_143) rfl ?_
    show Steps p.tables e below (T23.setTop (mkF m 144 #[.val (.int p0), .val (.int p1), .val (.int p2), .val (.ref b1), .val (.ref b9), .val (.ref b17), .val (.long ((p2.toInt64) - (p0.toInt64))), .second, .val (.long ((p1.toInt64) - (p0.toInt64))), .second, .val (.int (1 : Int32))] [(.int p0), (.ref b17)])) _
    refine st24.trans ?_
    show Steps p.tables e below (T24.setTop (mkF m 147 #[.val (.int p0), .val (.int p1), .val (.int p2), .val (.ref b1), .val (.ref b9), .val (.ref b17), .val (.long ((p2.toInt64) - (p0.toInt64))), .second, .val (.long ((p1.toInt64) - (p0.toInt64))), .second, .val (.int (1 : Int32))] [(.int (1 : Int32))])) _
    refine XS.lload X24.here hx rfl (hb hby at_147) rfl ?_
    show Steps p.tables e below (T24.setTop (mkF m 149 #[.val (.int p0), .val (.int p1), .val (.int p2), .val (.ref b1), .val (.ref b9), .val (.ref b17), .val (.long ((p2.toInt64) - (p0.toInt64))), .second, .val (.long ((p1.toInt64) - (p0.toInt64))), .second, .val (.int (1 : Int32))] [(.long ((p1.toInt64) - (p0.toInt64))), (.int (1 : Int32))])) _
    refine XS.lconst X24.here hx rfl (hb hby at_149) ?_
    show Steps p.tables e below (T24.setTop (mkF m 150 #[.val (.int p0), .val (.int p1), .val (.int p2), .val (.ref b1), .val (.ref b9), .val (.ref b17), .val (.long ((p2.toInt64) - (p0.toInt64))), .second, .val (.long ((p1.toInt64) - (p0.toInt64))), .second, .val (.int (1 : Int32))] [(.long (0 : Int64)), (.long ((p1.toInt64) - (p0.toInt64))), (.int (1 : Int32))])) _
    refine XS.lcmp X24.here hx rfl (hb hby at_150) rfl ?_
    show Steps p.tables e below (T24.setTop (mkF m 151 #[.val (.int p0), .val (.int p1), .val (.int p2), .val (.ref b1), .val (.ref b9), .val (.ref b17), .val (.long ((p2.toInt64) - (p0.toInt64))), .second, .val (.long ((p1.toInt64) - (p0.toInt64))), .second, .val (.int (1 : Int32))] [(.int (lcmpW ((p1.toInt64) - (p0.toInt64)) (0 : Int64))), (.int (1 : Int32))])) _
    refine XS.ifNo X24.here hx rfl (hb hby at_151) rfl ((if0 _ _).trans (tlt ((lw_gt _ _).mpr ((own_pos _ _).mpr hD) : (0 : Int32) < (lcmpW ((p1.toInt64) - (p0.toInt64)) (0 : Int64)))).2.2.2) ?_
    show Steps p.tables e below (T24.setTop (mkF m 154 #[.val (.int p0), .val (.int p1), .val (.int p2), .val (.ref b1), .val (.ref b9), .val (.ref b17), .val (.long ((p2.toInt64) - (p0.toInt64))), .second, .val (.long ((p1.toInt64) - (p0.toInt64))), .second, .val (.int (1 : Int32))] [(.int (1 : Int32))])) _
    refine XS.iconst X24.here hx rfl (hb hby at_154) ?_
    show Steps p.tables e below (T24.setTop (mkF m 155 #[.val (.int p0), .val (.int p1), .val (.int p2), .val (.ref b1), .val (.ref b9), .val (.ref b17), .val (.long ((p2.toInt64) - (p0.toInt64))), .second, .val (.long ((p1.toInt64) - (p0.toInt64))), .second, .val (.int (1 : Int32))] [(.int (1 : Int32)), (.int (1 : Int32))])) _
    refine XS.goto X24.here hx rfl (pc0 := 155) (pc' := 159) rfl (hb hby at_155) (by decide) (by decide) ?_
    show Steps p.tables e below (T24.setTop (mkF m 159 #[.val (.int p0), .val (.int p1), .val (.int p2), .val (.ref b1), .val (.ref b9), .val (.ref b17), .val (.long ((p2.toInt64) - (p0.toInt64))), .second, .val (.long ((p1.toInt64) - (p0.toInt64))), .second, .val (.int (1 : Int32))] [(.int (1 : Int32)), (.int (1 : Int32))])) _
    refine XS.icmpNo X24.here hx rfl (hb hby at_159) rfl (teq (by decide : (1 : Int32) = (1 : Int32))).2 ?_
    show Steps p.tables e below (T24.setTop (mkF m 162 #[.val (.int p0), .val (.int p1), .val (.int p2), .val (.ref b1), .val (.ref b9), .val (.ref b17), .val (.long ((p2.toInt64) - (p0.toInt64))), .second, .val (.long ((p1.toInt64) - (p0.toInt64))), .second, .val (.int (1 : Int32))] [])) _
    refine XS.iconst X24.here hx rfl (hb hby at_162) ?_
    show Steps p.tables e below (T24.setTop (mkF m 163 #[.val (.int p0), .val (.int p1), .val (.int p2), .val (.ref b1), .val (.ref b9), .val (.ref b17), .val (.long ((p2.toInt64) - (p0.toInt64))), .second, .val (.long ((p1.toInt64) - (p0.toInt64))), .second, .val (.int (1 : Int32))] [(.int (1 : Int32))])) _
    refine XS.goto X24.here hx rfl (pc0 := 163) (pc' := 167) rfl (hb hby at_163) (by decide) (by decide) ?_
    show Steps p.tables e below (T24.setTop (mkF m 167 #[.val (.int p0), .val (.int p1), .val (.int p2), .val (.ref b1), .val (.ref b9), .val (.ref b17), .val (.long ((p2.toInt64) - (p0.toInt64))), .second, .val (.long ((p1.toInt64) - (p0.toInt64))), .second, .val (.int (1 : Int32))] [(.int (1 : Int32))])) _
    exact retOut X24 hx Bd.returns rfl (Or.inl ⟨rfl, Or.inr (Or.inl rfl), _, rfl⟩) (hb hby at_167) hr
  · show QL (some (.int (1 : Int32))) h0 n0 _ T24.heap _
    rw [e24]
    exact ⟨rfl, N24⟩
set_option maxRecDepth 65536 in
set_option maxHeartbeats 40000000 in
theorem comes_1 {Post : Tables → Env → Array Value → State → Outcome → State → Prop} (hpost : ∀ tb e args s v u, (limb_1_1.after args s (.returned v) u = true ∧ limb_1_2.after args s (.returned v) u = true) → ReturnedEndW s (.returned v) u (Jvm.fieldLocs frame_1_writes args s ++ Jvm.arrayLocs frame_1_arrays args s ++ Jvm.staticLocs frame_1_statics s) 40 3264 → Post tb e args s (.returned v) u) :
    ArmFor flags0 classFile x code maxLocals ret World_1 tables_1 room_1 Calls_1 rest_1 Pre_1 Post := by
  intro l hfl _ _ p e ha hc hk s m args below hf hA hF happ hP
  obtain ⟨hcalls, hrest, hpre⟩ := hP
  obtain ⟨-, -, -, hnamed, -, -, -, hat⟩ := (Spec.applies_iff hf).mp happ
  obtain ⟨hg, n⟩ := and_e (Cond.before_iff.mp (show (Jvm.Cond.and given_1 narrow_1).before args s = true from hpre))
  obtain ⟨gc, q0⟩ := and_e hg
  obtain ⟨g0, q1⟩ := and_e q0
  obtain ⟨g1, g2⟩ := and_e q1
  obtain ⟨w0, w1, w2, rfl⟩ : ∃ w0 w1 w2 : Value, args = #[w0, w1, w2] := by
    have hs : args.size = 3 := by simpa [Cond.value, given_1] using gc
    obtain ⟨L⟩ := args
    match L, hs with
    | [w0, w1, w2], _ => exact ⟨w0, w1, w2, rfl⟩
  have hw := fun d (hd : d ∈ tables_1) => atoms_spec (ws := Jvm.Cond.code x code maxLocals ret :: tables_1) hat d (List.mem_cons_of_mem _ hd)
  obtain ⟨i0, ei0⟩ := is_v g0
  obtain rfl : w0 = (.int i0) := Option.some.inj ei0
  obtain ⟨i1, ei1⟩ := is_v g1
  obtain rfl : w1 = (.int i1) := Option.some.inj ei1
  obtain ⟨i2, ei2⟩ := is_v g2
  obtain rfl : w2 = (.int i2) := Option.some.inj ei2
  obtain ⟨n1, n2⟩ := and_e n
  obtain ⟨w_CLASS, v_w_CLASS⟩ := exa_v n1
  have S_w_CLASS : Sta s s.heap "com/example/refleash/refleash/heap/Trace$Root$Kind" "CLASS" "Lcom/example/refleash/refleash/heap/Trace$Root$Kind;" (.ref w_CLASS) := Sta.start v_w_CLASS (Or.inr ⟨(hw _ (List.mem_of_getElem? (i := 7) rfl)), (hw _ (List.mem_of_getElem? (i := 8) rfl))⟩)
  have E_w_CLASS := Exa.start v_w_CLASS n1
  obtain ⟨w_UNKNOWN, v_w_UNKNOWN⟩ := exa_v n2
  have S_w_UNKNOWN : Sta s s.heap "com/example/refleash/refleash/heap/Leak$Status" "UNKNOWN" "Lcom/example/refleash/refleash/heap/Leak$Status;" (.ref w_UNKNOWN) := Sta.start v_w_UNKNOWN (Or.inr ⟨(hw _ (List.mem_of_getElem? (i := 112) rfl)), (hw _ (List.mem_of_getElem? (i := 113) rfl))⟩)
  have E_w_UNKNOWN := Exa.start v_w_UNKNOWN n2
  obtain ⟨hsets, hown0⟩ := atoms_of _ (rest_1_c_eq ▸ (show rest_1_c.before _ s = true from hrest))
  obtain ⟨w_dc, ev_dc⟩ := arr_v (Cond.before_iff.mp (hsets _ (List.mem_of_getElem? (i := 6) rfl)))
  obtain ⟨c_dc, A_dc⟩ := Arr.start ev_dc (Cond.before_iff.mp (hsets _ (List.mem_of_getElem? (i := 6) rfl)))
  have S_dc : Sta s s.heap "java/util/ArrayList" "DEFAULTCAPACITY_EMPTY_ELEMENTDATA" "[Ljava/lang/Object;" (.ref w_dc) := Sta.start ev_dc (Or.inr ⟨(hw _ (List.mem_of_getElem? (i := 42) rfl)), (hsets _ (List.mem_of_getElem? (i := 2) rfl))⟩)
  have V_dc := own_arv0 A_dc (own_len ev_dc A_dc (Cond.before_iff.mp (hsets _ (List.mem_of_getElem? (i := 8) rfl))) (n := 0) (by decide))
  obtain ⟨w_el, ev_el⟩ := exa_v (Cond.before_iff.mp (hsets _ (List.mem_of_getElem? (i := 11) rfl)))
  have E_el := Exa.start ev_el (Cond.before_iff.mp (hsets _ (List.mem_of_getElem? (i := 11) rfl)))
  have S_el : Sta s s.heap "java/util/ImmutableCollections" "EMPTY_LIST" "Ljava/util/ImmutableCollections$ListN;" (.ref w_el) := Sta.start ev_el (Or.inl (hsets _ (List.mem_of_getElem? (i := 10) rfl)))
  obtain ⟨w_ee, ev_ee⟩ := arr_v (Cond.before_iff.mp (hsets _ (List.mem_of_getElem? (i := 12) rfl)))
  obtain ⟨c_ee, A_ee⟩ := Arr.start ev_ee (Cond.before_iff.mp (hsets _ (List.mem_of_getElem? (i := 12) rfl)))
  have V_ee := own_arv0 A_ee (own_len ev_ee A_ee (Cond.before_iff.mp (hsets _ (List.mem_of_getElem? (i := 14) rfl))) (n := 0) (by decide))
  have F_el := Fld.start ((fld_at ev_el).symm.trans ev_ee)
  obtain ⟨w_em, ev_em⟩ := exa_v (Cond.before_iff.mp (hsets _ (List.mem_of_getElem? (i := 18) rfl)))
  have S_em : Sta s s.heap "java/util/ImmutableCollections" "EMPTY" "Ljava/lang/Object;" (.ref w_em) := Sta.start ev_em (Or.inl (hsets _ (List.mem_of_getElem? (i := 17) rfl)))
  obtain ⟨mc, mk, m_o, mh1, mh2, mh3, mcell, mh4, mh5⟩ := hcalls.1
  have M_o : Mir s "[Ljava/lang/Object;" m_o := ⟨mc, mk, mh1, mh2, mh3, mcell, mh4, mh5⟩
  by_cases hA : i2 < i0
  · by_cases hD : i0 < i1
    · obtain ⟨n, o, h1, h2, h3, _, L, rfl, ⟨rfl, N⟩, hq⟩ := law_ay l s _ hw tables_1 i0 i1 i2 w_dc w_el w_em w_ee m_o w_CLASS w_UNKNOWN _ _ s.heap s.heap.size (Nat.le_refl _) S_dc V_dc S_el S_em E_el F_el V_ee M_o S_w_CLASS S_w_UNKNOWN hA hD p e ha hc hk s m _ below hf ((Spec.applies_iff_loose hf).mp happ).1 ⟨rfl, State.Warmed39.refl s, rfl⟩ trivial
      exact ⟨n, _, h1, h2, h3, hpost _ _ _ _ _ _ ⟨Cond.after_iff.mpr rfl, Cond.after_iff.mpr (eq_i res_at (Term.int_eval (1)) rfl)⟩ ⟨hq.1, hq.2.1, hq.2.2.1, (hq.2.2.2.sift fun y hy => Or.inr (N y hy)).mono (by decide) (by decide)⟩⟩
    · obtain ⟨n, o, h1, h2, h3, _, L, rfl, ⟨rfl, N⟩, hq⟩ := law_an l s _ hw tables_1 i0 i1 i2 w_dc w_el w_em w_ee m_o w_CLASS w_UNKNOWN _ _ s.heap s.heap.size (Nat.le_refl _) S_dc V_dc S_el S_em E_el F_el V_ee M_o S_w_CLASS S_w_UNKNOWN hA hD p e ha hc hk s m _ below hf ((Spec.applies_iff_loose hf).mp happ).1 ⟨rfl, State.Warmed39.refl s, rfl⟩ trivial
      exact ⟨n, _, h1, h2, h3, hpost _ _ _ _ _ _ ⟨Cond.after_iff.mpr rfl, Cond.after_iff.mpr (eq_i res_at (Term.int_eval (1)) rfl)⟩ ⟨hq.1, hq.2.1, hq.2.2.1, (hq.2.2.2.sift fun y hy => Or.inr (N y hy)).mono (by decide) (by decide)⟩⟩
  · by_cases hB : i2 < i1
    · have hD : i0 < i1 := by rw [Int32.lt_iff_toInt_lt] at *; omega
      obtain ⟨n, o, h1, h2, h3, _, L, rfl, ⟨rfl, N⟩, hq⟩ := law_cy l s _ hw tables_1 i0 i1 i2 w_dc w_el w_em w_ee m_o w_CLASS w_UNKNOWN _ _ s.heap s.heap.size (Nat.le_refl _) S_dc V_dc S_el S_em E_el F_el V_ee M_o S_w_CLASS S_w_UNKNOWN hA hB hD p e ha hc hk s m _ below hf ((Spec.applies_iff_loose hf).mp happ).1 ⟨rfl, State.Warmed39.refl s, rfl⟩ trivial
      exact ⟨n, _, h1, h2, h3, hpost _ _ _ _ _ _ ⟨Cond.after_iff.mpr rfl, Cond.after_iff.mpr (eq_i res_at (Term.int_eval (1)) rfl)⟩ ⟨hq.1, hq.2.1, hq.2.2.1, (hq.2.2.2.sift fun y hy => Or.inr (N y hy)).mono (by decide) (by decide)⟩⟩
    · by_cases hD : i0 < i1
      · obtain ⟨n, o, h1, h2, h3, _, L, rfl, ⟨rfl, N⟩, hq⟩ := law_by l s _ hw tables_1 i0 i1 i2 w_dc w_el w_em w_ee m_o w_CLASS w_UNKNOWN _ _ s.heap s.heap.size (Nat.le_refl _) S_dc V_dc S_el S_em E_el F_el V_ee M_o S_w_CLASS S_w_UNKNOWN hA hB hD p e ha hc hk s m _ below hf ((Spec.applies_iff_loose hf).mp happ).1 ⟨rfl, State.Warmed39.refl s, rfl⟩ trivial
        exact ⟨n, _, h1, h2, h3, hpost _ _ _ _ _ _ ⟨Cond.after_iff.mpr rfl, Cond.after_iff.mpr (eq_i res_at (Term.int_eval (1)) rfl)⟩ ⟨hq.1, hq.2.1, hq.2.2.1, (hq.2.2.2.sift fun y hy => Or.inr (N y hy)).mono (by decide) (by decide)⟩⟩
      · obtain ⟨n, o, h1, h2, h3, _, L, rfl, ⟨rfl, N⟩, hq⟩ := law_bn l s _ hw tables_1 i0 i1 i2 w_dc w_el w_em w_ee m_o w_CLASS w_UNKNOWN _ _ s.heap s.heap.size (Nat.le_refl _) S_dc V_dc S_el S_em E_el F_el V_ee M_o S_w_CLASS S_w_UNKNOWN hA hB hD p e ha hc hk s m _ below hf ((Spec.applies_iff_loose hf).mp happ).1 ⟨rfl, State.Warmed39.refl s, rfl⟩ trivial
        exact ⟨n, _, h1, h2, h3, hpost _ _ _ _ _ _ ⟨Cond.after_iff.mpr rfl, Cond.after_iff.mpr (eq_i res_at (Term.int_eval (1)) rfl)⟩ ⟨hq.1, hq.2.1, hq.2.2.1, (hq.2.2.2.sift fun y hy => Or.inr (N y hy)).mono (by decide) (by decide)⟩⟩
theorem main_1_1 : Claimed_1_1 := comes_1 fun _ _ _ _ _ _ h hF => ⟨h.1, hF⟩
theorem main_1_2 : Claimed_1_2 := comes_1 fun _ _ _ _ _ _ h hF => ⟨h.2, hF⟩
end Jvm.Pilot.@@N@@
namespace Jvm.Pilot.@@N@@
open Jvm Jvm.ClassFile Sem Op Lib Jvm.Free Jvm.Stand Jvm.Pilot.@@N@@.Jvm.D
/-! MADE BY PROGRAM (witnessworld.py) out of the Statement's table words and the real class files: 40 classes; the members and pool entries that the words name. The judged class is class 1, her method 1. -/
namespace start1
open Jvm.ClassFile
def u (s : String) : CpInfo := .utf8 (stringToUtf16 s)
/-- a pool by its gaps: so many unusable entries, then the entry; so many at the end -/
def gap : Nat → List CpInfo → List CpInfo
  | 0, r => r
  | n + 1, r => .unusable :: gap n r
def poolList (es : List (Nat × CpInfo)) (last : Nat) : List CpInfo := es.foldr (fun e r => gap e.1 (e.2 :: r)) (gap last [])
def pool (es : List (Nat × CpInfo)) (last : Nat) : Array CpInfo := ⟨poolList es last⟩
def fileOf (pool : Array CpInfo) (this : Nat) (attrs : Array Attribute := #[]) (ms : Array MethodInfo := #[]) (fl : Nat := 33) (sup : Nat := 0) (ifs : Array Nat := #[]) (fds : Array FieldInfo := #[]) : ClassFile where
  minorVersion := 0
  majorVersion := 65
  constantPool := pool
  accessFlags := fl
  thisClass := this
  superClass := sup
  interfaces := ifs
  fields := fds
  methods := ms
  attributes := attrs
def plain (name : String) (sup : Option ClassId) : Class where
  name := name
  kind := .ordinary
  loader := none
  accessFlags := 33
  super := sup
  interfaces := #[]
  cf := none
  fields := #[]
  methods := #[]
  instanceTypes := #[]
  staticTypes := #[]
  resolved := #[]
  callSites := []
  init := .initialized
  statics := none
  mirror := none

def pool0 : Array CpInfo := pool [(5, u "<init>"), (0, u "()V"), (1, .class_ 10), (1, u "java/lang/Object"), (0, u "getClass"), (0, u "()Ljava/lang/Class;")] 111

def k0c0 : Code := { maxStack := 0, maxLocals := 1, code := object_method_1_code, exceptionTable := #[], attributes := #[] }
def k0m0 : Method := { name := "<init>", desc := "()V", sig := { parameters := [], returnType := none }, accessFlags := 1, code := some k0c0 }
def k0m1 : Method := { name := "getClass", desc := "()Ljava/lang/Class;", sig := { parameters := [], returnType := some (.object "java/lang/Class") }, accessFlags := 273, code := none }
/-- java/lang/Object -/
def k0 : Class := { plain "java/lang/Object" none with
  accessFlags := 33
  interfaces := #[]
  cf := some (fileOf pool0 8 #[] #[{ accessFlags := 1, nameIndex := 5, descriptorIndex := 6, attributes := #[] }, { accessFlags := 273, nameIndex := 11, descriptorIndex := 12, attributes := #[] }] 33 0 #[] #[])
  fields := #[]
  methods := #[k0m0, k0m1]
  instanceTypes := #[]
  staticTypes := #[]
  resolved := Array.replicate 124 none
  statics := none }

def pool1 : Array CpInfo := pool [(2, .class_ 4), (0, .nameAndType 5 6), (0, u "java/lang/Object"), (0, u "<init>"), (0, u "()V"), (0, .class_ 8), (0, u "com/example/refleash/refleash/heap/Trace"), (0, .class_ 10), (0, u "com/example/refleash/refleash/heap/Trace$Root"), (0, .fieldref 12 13), (0, .class_ 14), (0, .nameAndType 15 16), (0, u "com/example/refleash/refleash/heap/Trace$Root$Kind"), (0, u "CLASS"), (0, u "Lcom/example/refleash/refleash/heap/Trace$Root$Kind;"), (0, .string 18), (0, u "C"), (0, .methodref 9 20), (0, .nameAndType 5 21), (0, u "(Lcom/example/refleash/refleash/heap/Trace$Root$Kind;Ljava/lang/String;Ljava/lang/String;Ljava/lang/String;)V"), (0, .class_ 23), (0, u "java/util/ArrayList"), (0, .methodref 22 3), (0, .methodref 7 26), (0, .nameAndType 5 27), (0, u "(JLcom/example/refleash/refleash/heap/Trace$Root;Ljava/util/List;JJ)V"), (0, .class_ 29), (0, u "com/example/refleash/refleash/heap/Leak$Node"), (0, .fieldref 31 32), (0, .class_ 33), (0, .nameAndType 34 35), (0, u "com/example/refleash/refleash/heap/Leak$Status"), (0, u "UNKNOWN"), (0, u "Lcom/example/refleash/refleash/heap/Leak$Status;"), (0, .string 37), (0, u "r"), (0, .methodref 28 39), (0, .nameAndType 5 40), (0, u "(Ljava/lang/String;Lcom/example/refleash/refleash/heap/Leak$Status;Ljava/lang/String;)V"), (0, .methodref 22 42), (0, .nameAndType 43 44), (0, u "add"), (0, u "(Ljava/lang/Object;)Z"), (0, .class_ 46), (0, u "com/example/refleash/refleash/heap/Leak"), (0, .string 48), (0, u "s"), (0, .methodref 45 50), (0, .nameAndType 5 51), (0, u "(Ljava/lang/String;JLcom/example/refleash/refleash/heap/Trace;Ljava/util/List;IILjava/util/List;)V"), (0, .methodref 45 53), (0, .nameAndType 54 55), (0, u "isSuspect"), (0, u "(I)Z"), (0, .class_ 57), (0, u "com/example/refleash/refleash/heap/LeakIsSuspectPinLaw"), (2, u "law"), (0, u "(III)Z")] 8

def k1m0 : Method := { name := "<init>", desc := "()V", sig := { parameters := [], returnType := none }, accessFlags := 1, code := none }
def k1c1 : Code := { maxStack := 11, maxLocals := 11, code := code, exceptionTable := #[], attributes := #[] }
def k1m1 : Method := { name := "law", desc := "(III)Z", sig := { parameters := [.int, .int, .int], returnType := some .boolean }, accessFlags := 9, code := some k1c1 }
/-- com/example/refleash/refleash/heap/LeakIsSuspectPinLaw -/
def k1 : Class := { plain "com/example/refleash/refleash/heap/LeakIsSuspectPinLaw" (some 0) with
  accessFlags := 49
  interfaces := #[]
  cf := some (fileOf pool1 56 #[] #[{ accessFlags := 1, nameIndex := 5, descriptorIndex := 6, attributes := #[] }, { accessFlags := 9, nameIndex := 60, descriptorIndex := 61, attributes := #[] }] 49 2 #[] #[])
  fields := #[]
  methods := #[k1m0, k1m1]
  instanceTypes := #[]
  staticTypes := #[]
  resolved := Array.replicate 70 none
  statics := none }

def pool2 : Array CpInfo := pool [(1, .methodref 2 3), (0, .class_ 4), (0, .nameAndType 5 6), (0, u "java/lang/Object"), (0, u "<init>"), (0, u "()V"), (0, .class_ 8), (0, u "java/lang/Record")] 13

def k2c0 : Code := { maxStack := 1, maxLocals := 1, code := jdk_30_method_1_code, exceptionTable := #[], attributes := #[] }
def k2m0 : Method := { name := "<init>", desc := "()V", sig := { parameters := [], returnType := none }, accessFlags := 4, code := some k2c0 }
/-- java/lang/Record -/
def k2 : Class := { plain "java/lang/Record" (some 0) with
  accessFlags := 1057
  interfaces := #[]
  cf := some (fileOf pool2 7 #[] #[{ accessFlags := 4, nameIndex := 5, descriptorIndex := 6, attributes := #[] }] 1057 2 #[] #[])
  fields := #[]
  methods := #[k2m0]
  instanceTypes := #[]
  staticTypes := #[]
  resolved := Array.replicate 22 none
  statics := none }

def pool3 : Array CpInfo := pool [(1, .methodref 2 3), (0, .class_ 4), (0, .nameAndType 5 6), (0, u "java/lang/Record"), (0, u "<init>"), (0, u "()V"), (0, .methodref 8 9), (0, .class_ 10), (0, .nameAndType 11 12), (0, u "java/util/Objects"), (0, u "requireNonNull"), (0, u "(Ljava/lang/Object;)Ljava/lang/Object;"), (0, .interfaceMethodref 14 15), (0, .class_ 16), (0, .nameAndType 17 18), (0, u "java/util/List"), (0, u "copyOf"), (0, u "(Ljava/util/Collection;)Ljava/util/List;"), (0, .fieldref 20 21), (0, .class_ 22), (0, .nameAndType 23 24), (0, u "com/example/refleash/refleash/heap/Trace"), (0, u "objectId"), (0, u "J"), (0, .fieldref 20 26), (0, .nameAndType 27 28), (0, u "root"), (0, u "Lcom/example/refleash/refleash/heap/Trace$Root;"), (0, .fieldref 20 30), (0, .nameAndType 31 32), (0, u "hops"), (0, u "Ljava/util/List;"), (0, .fieldref 20 34), (0, .nameAndType 35 24), (0, u "retainedBytes"), (0, .fieldref 20 37), (0, .nameAndType 38 24), (0, u "retainedObjects"), (14, u "(JLcom/example/refleash/refleash/heap/Trace$Root;Ljava/util/List;JJ)V"), (9, u "()Ljava/util/List;"), (4, .class_ 69), (0, u "com/example/refleash/refleash/heap/Trace$Root"), (0, .class_ 71), (0, u "com/example/refleash/refleash/heap/Trace$Root$Kind"), (0, .class_ 73), (0, u "com/example/refleash/refleash/heap/Trace$Hop"), (0, .class_ 75), (0, u "com/example/refleash/refleash/heap/Trace$Hop$Kind")] 25

def k3c0 : Code := { maxStack := 3, maxLocals := 9, code := prog_49_method_1_code, exceptionTable := #[], attributes := #[] }
def k3m0 : Method := { name := "<init>", desc := "(JLcom/example/refleash/refleash/heap/Trace$Root;Ljava/util/List;JJ)V", sig := { parameters := [.long, (.object "com/example/refleash/refleash/heap/Trace$Root"), (.object "java/util/List"), .long, .long], returnType := none }, accessFlags := 1, code := some k3c0 }
def k3c1 : Code := { maxStack := 1, maxLocals := 1, code := prog_49_method_7_code, exceptionTable := #[], attributes := #[] }
def k3m1 : Method := { name := "hops", desc := "()Ljava/util/List;", sig := { parameters := [], returnType := some (.object "java/util/List") }, accessFlags := 1, code := some k3c1 }
/-- com/example/refleash/refleash/heap/Trace -/
def k3 : Class := { plain "com/example/refleash/refleash/heap/Trace" (some 2) with
  accessFlags := 49
  interfaces := #[]
  cf := some (fileOf pool3 20 #[.nestMembers #[68, 70, 72, 74]] #[{ accessFlags := 1, nameIndex := 5, descriptorIndex := 53, attributes := #[] }, { accessFlags := 1, nameIndex := 31, descriptorIndex := 63, attributes := #[] }] 49 2 #[] #[{ accessFlags := 18, nameIndex := 23, descriptorIndex := 24, attributes := #[] }, { accessFlags := 18, nameIndex := 27, descriptorIndex := 28, attributes := #[] }, { accessFlags := 18, nameIndex := 31, descriptorIndex := 32, attributes := #[] }, { accessFlags := 18, nameIndex := 35, descriptorIndex := 24, attributes := #[] }, { accessFlags := 18, nameIndex := 38, descriptorIndex := 24, attributes := #[] }])
  fields := #[{ name := "objectId", type := .long, accessFlags := 18, slot := 0, constantValue := 0 }, { name := "root", type := (.object "com/example/refleash/refleash/heap/Trace$Root"), accessFlags := 18, slot := 1, constantValue := 0 }, { name := "hops", type := (.object "java/util/List"), accessFlags := 18, slot := 2, constantValue := 0 }, { name := "retainedBytes", type := .long, accessFlags := 18, slot := 3, constantValue := 0 }, { name := "retainedObjects", type := .long, accessFlags := 18, slot := 4, constantValue := 0 }]
  methods := #[k3m0, k3m1]
  instanceTypes := #[.long, (.object "com/example/refleash/refleash/heap/Trace$Root"), (.object "java/util/List"), .long, .long]
  staticTypes := #[]
  resolved := Array.replicate 101 none
  statics := none }

def pool4 : Array CpInfo := pool [(1, .methodref 2 3), (0, .class_ 4), (0, .nameAndType 5 6), (0, u "java/lang/Record"), (0, u "<init>"), (0, u "()V"), (0, .methodref 8 9), (0, .class_ 10), (0, .nameAndType 11 12), (0, u "java/util/Objects"), (0, u "requireNonNull"), (0, u "(Ljava/lang/Object;)Ljava/lang/Object;"), (0, .fieldref 14 15), (0, .class_ 16), (0, .nameAndType 17 18), (0, u "com/example/refleash/refleash/heap/Trace$Root"), (0, u "kind"), (0, u "Lcom/example/refleash/refleash/heap/Trace$Root$Kind;"), (0, .fieldref 14 20), (0, .nameAndType 21 22), (0, u "className"), (0, u "Ljava/lang/String;"), (0, .fieldref 14 24), (0, .nameAndType 25 22), (0, u "thread"), (0, .fieldref 14 27), (0, .nameAndType 28 22), (0, u "method"), (51, u "NUMBER"), (0, u "Ljava/util/regex/Pattern;"), (35, u "(Lcom/example/refleash/refleash/heap/Trace$Root$Kind;Ljava/lang/String;Ljava/lang/String;Ljava/lang/String;)V"), (12, .class_ 131), (0, u "com/example/refleash/refleash/heap/Trace")] 23

def k4c0 : Code := { maxStack := 2, maxLocals := 5, code := prog_52_method_1_code, exceptionTable := #[], attributes := #[] }
def k4m0 : Method := { name := "<init>", desc := "(Lcom/example/refleash/refleash/heap/Trace$Root$Kind;Ljava/lang/String;Ljava/lang/String;Ljava/lang/String;)V", sig := { parameters := [(.object "com/example/refleash/refleash/heap/Trace$Root$Kind"), (.object "java/lang/String"), (.object "java/lang/String"), (.object "java/lang/String")], returnType := none }, accessFlags := 1, code := some k4c0 }
/-- com/example/refleash/refleash/heap/Trace$Root -/
def k4 : Class := { plain "com/example/refleash/refleash/heap/Trace$Root" (some 2) with
  accessFlags := 49
  interfaces := #[]
  cf := some (fileOf pool4 14 #[.nestHost 130] #[{ accessFlags := 1, nameIndex := 5, descriptorIndex := 117, attributes := #[] }] 49 2 #[] #[{ accessFlags := 18, nameIndex := 17, descriptorIndex := 18, attributes := #[] }, { accessFlags := 18, nameIndex := 21, descriptorIndex := 22, attributes := #[] }, { accessFlags := 18, nameIndex := 25, descriptorIndex := 22, attributes := #[] }, { accessFlags := 18, nameIndex := 28, descriptorIndex := 22, attributes := #[] }, { accessFlags := 26, nameIndex := 80, descriptorIndex := 81, attributes := #[] }])
  fields := #[{ name := "kind", type := (.object "com/example/refleash/refleash/heap/Trace$Root$Kind"), accessFlags := 18, slot := 0, constantValue := 0 }, { name := "className", type := (.object "java/lang/String"), accessFlags := 18, slot := 1, constantValue := 0 }, { name := "thread", type := (.object "java/lang/String"), accessFlags := 18, slot := 2, constantValue := 0 }, { name := "method", type := (.object "java/lang/String"), accessFlags := 18, slot := 3, constantValue := 0 }, { name := "NUMBER", type := (.object "java/util/regex/Pattern"), accessFlags := 26, slot := 0, constantValue := 0 }]
  methods := #[k4m0]
  instanceTypes := #[(.object "com/example/refleash/refleash/heap/Trace$Root$Kind"), (.object "java/lang/String"), (.object "java/lang/String"), (.object "java/lang/String")]
  staticTypes := #[(.object "java/util/regex/Pattern")]
  resolved := Array.replicate 155 none
  statics := none }

def pool5 : Array CpInfo := pool [(1, .class_ 2), (0, u "java/lang/constant/Constable"), (0, .class_ 4), (0, u "java/lang/Object")] 6

/-- java/lang/constant/Constable -/
def k5 : Class := { plain "java/lang/constant/Constable" (some 0) with
  accessFlags := 1537
  interfaces := #[]
  cf := some (fileOf pool5 1 #[] #[] 1537 3 #[] #[])
  fields := #[]
  methods := #[]
  instanceTypes := #[]
  staticTypes := #[]
  resolved := Array.replicate 11 none
  statics := none }

def pool6 : Array CpInfo := pool [(1, .class_ 2), (0, u "java/lang/Comparable"), (0, .class_ 4), (0, u "java/lang/Object")] 7

/-- java/lang/Comparable -/
def k6 : Class := { plain "java/lang/Comparable" (some 0) with
  accessFlags := 1537
  interfaces := #[]
  cf := some (fileOf pool6 1 #[] #[] 1537 3 #[] #[])
  fields := #[]
  methods := #[]
  instanceTypes := #[]
  staticTypes := #[]
  resolved := Array.replicate 12 none
  statics := none }

def pool7 : Array CpInfo := pool [(1, .class_ 2), (0, u "java/io/Serializable"), (0, .class_ 4), (0, u "java/lang/Object")] 2

/-- java/io/Serializable -/
def k7 : Class := { plain "java/io/Serializable" (some 0) with
  accessFlags := 1537
  interfaces := #[]
  cf := some (fileOf pool7 1 #[] #[] 1537 3 #[] #[])
  fields := #[]
  methods := #[]
  instanceTypes := #[]
  staticTypes := #[]
  resolved := Array.replicate 7 none
  statics := none }

def pool8 : Array CpInfo := pool [(2, .class_ 4), (1, u "java/lang/Enum"), (0, u "name"), (0, u "Ljava/lang/String;"), (2, u "ordinal"), (0, u "I"), (1, .class_ 14), (1, u "java/lang/Object"), (4, u "hash"), (86, .class_ 108), (1, u "java/lang/Enum$EnumDesc"), (2, .class_ 112), (0, u "java/lang/constant/Constable"), (0, .class_ 114), (0, u "java/lang/Comparable"), (0, .class_ 116), (0, u "java/io/Serializable")] 87

/-- java/lang/Enum -/
def k8 : Class := { plain "java/lang/Enum" (some 0) with
  accessFlags := 1057
  interfaces := #[5, 6, 7]
  cf := some (fileOf pool8 2 #[.nestMembers #[106]] #[] 1057 12 #[111, 113, 115] #[{ accessFlags := 18, nameIndex := 5, descriptorIndex := 6, attributes := #[] }, { accessFlags := 18, nameIndex := 9, descriptorIndex := 10, attributes := #[] }, { accessFlags := 2, nameIndex := 19, descriptorIndex := 10, attributes := #[] }])
  fields := #[{ name := "name", type := (.object "java/lang/String"), accessFlags := 18, slot := 0, constantValue := 0 }, { name := "ordinal", type := .int, accessFlags := 18, slot := 1, constantValue := 0 }, { name := "hash", type := .int, accessFlags := 2, slot := 2, constantValue := 0 }]
  methods := #[]
  instanceTypes := #[(.object "java/lang/String"), .int, .int]
  staticTypes := #[]
  resolved := Array.replicate 204 none
  statics := none }

def pool9 : Array CpInfo := pool [(1, .class_ 2), (0, u "com/example/refleash/refleash/heap/Trace$Root$Kind"), (2, u "CLASS"), (0, u "Lcom/example/refleash/refleash/heap/Trace$Root$Kind;"), (2, u "FRAME"), (2, u "THREAD"), (2, u "JNI_GLOBAL"), (2, u "JNI_LOCAL"), (2, u "NATIVE_STACK"), (2, u "THREAD_BLOCK"), (2, u "MONITOR"), (2, u "UNKNOWN"), (2, u "$VALUES"), (0, u "[Lcom/example/refleash/refleash/heap/Trace$Root$Kind;"), (6, .class_ 43), (1, u "java/lang/Enum"), (53, .class_ 98), (0, u "com/example/refleash/refleash/heap/Trace")] 5

/-- com/example/refleash/refleash/heap/Trace$Root$Kind -/
def k9 : Class := { plain "com/example/refleash/refleash/heap/Trace$Root$Kind" (some 8) with
  accessFlags := 16433
  interfaces := #[]
  cf := some (fileOf pool9 1 #[.nestHost 97] #[] 16433 41 #[] #[{ accessFlags := 16409, nameIndex := 5, descriptorIndex := 6, attributes := #[] }, { accessFlags := 16409, nameIndex := 9, descriptorIndex := 6, attributes := #[] }, { accessFlags := 16409, nameIndex := 12, descriptorIndex := 6, attributes := #[] }, { accessFlags := 16409, nameIndex := 15, descriptorIndex := 6, attributes := #[] }, { accessFlags := 16409, nameIndex := 18, descriptorIndex := 6, attributes := #[] }, { accessFlags := 16409, nameIndex := 21, descriptorIndex := 6, attributes := #[] }, { accessFlags := 16409, nameIndex := 24, descriptorIndex := 6, attributes := #[] }, { accessFlags := 16409, nameIndex := 27, descriptorIndex := 6, attributes := #[] }, { accessFlags := 16409, nameIndex := 30, descriptorIndex := 6, attributes := #[] }, { accessFlags := 4122, nameIndex := 33, descriptorIndex := 34, attributes := #[] }])
  fields := #[{ name := "CLASS", type := (.object "com/example/refleash/refleash/heap/Trace$Root$Kind"), accessFlags := 16409, slot := 0, constantValue := 0 }, { name := "FRAME", type := (.object "com/example/refleash/refleash/heap/Trace$Root$Kind"), accessFlags := 16409, slot := 1, constantValue := 0 }, { name := "THREAD", type := (.object "com/example/refleash/refleash/heap/Trace$Root$Kind"), accessFlags := 16409, slot := 2, constantValue := 0 }, { name := "JNI_GLOBAL", type := (.object "com/example/refleash/refleash/heap/Trace$Root$Kind"), accessFlags := 16409, slot := 3, constantValue := 0 }, { name := "JNI_LOCAL", type := (.object "com/example/refleash/refleash/heap/Trace$Root$Kind"), accessFlags := 16409, slot := 4, constantValue := 0 }, { name := "NATIVE_STACK", type := (.object "com/example/refleash/refleash/heap/Trace$Root$Kind"), accessFlags := 16409, slot := 5, constantValue := 0 }, { name := "THREAD_BLOCK", type := (.object "com/example/refleash/refleash/heap/Trace$Root$Kind"), accessFlags := 16409, slot := 6, constantValue := 0 }, { name := "MONITOR", type := (.object "com/example/refleash/refleash/heap/Trace$Root$Kind"), accessFlags := 16409, slot := 7, constantValue := 0 }, { name := "UNKNOWN", type := (.object "com/example/refleash/refleash/heap/Trace$Root$Kind"), accessFlags := 16409, slot := 8, constantValue := 0 }, { name := "$VALUES", type := (.array (.object "com/example/refleash/refleash/heap/Trace$Root$Kind")), accessFlags := 4122, slot := 9, constantValue := 0 }]
  methods := #[]
  instanceTypes := #[(.object "java/lang/String"), .int, .int]
  staticTypes := #[(.object "com/example/refleash/refleash/heap/Trace$Root$Kind"), (.object "com/example/refleash/refleash/heap/Trace$Root$Kind"), (.object "com/example/refleash/refleash/heap/Trace$Root$Kind"), (.object "com/example/refleash/refleash/heap/Trace$Root$Kind"), (.object "com/example/refleash/refleash/heap/Trace$Root$Kind"), (.object "com/example/refleash/refleash/heap/Trace$Root$Kind"), (.object "com/example/refleash/refleash/heap/Trace$Root$Kind"), (.object "com/example/refleash/refleash/heap/Trace$Root$Kind"), (.object "com/example/refleash/refleash/heap/Trace$Root$Kind"), (.array (.object "com/example/refleash/refleash/heap/Trace$Root$Kind"))]
  resolved := Array.replicate 104 none
  statics := some 0 }

def pool10 : Array CpInfo := pool [(2, .class_ 4), (1, u "java/lang/CharSequence"), (42, .class_ 48), (0, u "java/lang/CharSequence$1CodePointIterator"), (10, .class_ 60), (0, u "java/lang/CharSequence$1CharIterator"), (5, .class_ 67), (0, u "java/lang/Object")] 63

/-- java/lang/CharSequence -/
def k10 : Class := { plain "java/lang/CharSequence" (some 0) with
  accessFlags := 1537
  interfaces := #[]
  cf := some (fileOf pool10 2 #[.nestMembers #[47, 59]] #[] 1537 66 #[] #[])
  fields := #[]
  methods := #[]
  instanceTypes := #[]
  staticTypes := #[]
  resolved := Array.replicate 131 none
  statics := none }

def pool11 : Array CpInfo := pool [(1, .class_ 2), (0, u "java/lang/constant/ConstantDesc"), (0, .class_ 4), (0, u "java/lang/Object")] 32

/-- java/lang/constant/ConstantDesc -/
def k11 : Class := { plain "java/lang/constant/ConstantDesc" (some 0) with
  accessFlags := 1537
  interfaces := #[]
  cf := some (fileOf pool11 1 #[] #[] 1537 3 #[] #[])
  fields := #[]
  methods := #[]
  instanceTypes := #[]
  staticTypes := #[]
  resolved := Array.replicate 37 none
  statics := none }

def pool12 : Array CpInfo := pool [(2, .class_ 4), (1, u "java/lang/Object"), (0, u "<init>"), (0, u "()V"), (3, .class_ 12), (1, u "java/lang/String"), (0, u "value"), (0, u "[B"), (2, u "coder"), (0, u "B"), (2, u "hash"), (0, u "I"), (2, u "hashIsZero"), (0, u "Z"), (13, u "COMPACT_STRINGS"), (534, .class_ 576), (0, u "java/lang/CharSequence"), (22, u "CASE_INSENSITIVE_ORDER"), (0, u "Ljava/util/Comparator;"), (500, u "serialPersistentFields"), (0, u "[Ljava/io/ObjectStreamField;"), (0, .class_ 1104), (0, u "java/lang/String$CaseInsensitiveComparator"), (1, .class_ 1107), (0, u "java/io/Serializable"), (0, .class_ 1109), (0, u "java/lang/Comparable"), (0, .class_ 1111), (0, u "java/lang/constant/Constable"), (0, .class_ 1113), (0, u "java/lang/constant/ConstantDesc"), (2, u "serialVersionUID"), (0, u "J"), (3, u "REPL"), (0, u "C"), (2, u "LATIN1"), (1, u "UTF16")] 323

def k12m0 : Method := { name := "<init>", desc := "()V", sig := { parameters := [], returnType := none }, accessFlags := 1, code := none }
/-- java/lang/String -/
def k12 : Class := { plain "java/lang/String" (some 0) with
  accessFlags := 49
  interfaces := #[7, 6, 10, 5, 11]
  cf := some (fileOf pool12 10 #[.nestMembers #[1103]] #[{ accessFlags := 1, nameIndex := 5, descriptorIndex := 6, attributes := #[] }] 49 2 #[1106, 1108, 575, 1110, 1112] #[{ accessFlags := 18, nameIndex := 13, descriptorIndex := 14, attributes := #[] }, { accessFlags := 18, nameIndex := 17, descriptorIndex := 18, attributes := #[] }, { accessFlags := 2, nameIndex := 21, descriptorIndex := 22, attributes := #[] }, { accessFlags := 2, nameIndex := 25, descriptorIndex := 26, attributes := #[] }, { accessFlags := 26, nameIndex := 1116, descriptorIndex := 1117, attributes := #[] }, { accessFlags := 24, nameIndex := 40, descriptorIndex := 26, attributes := #[] }, { accessFlags := 26, nameIndex := 1101, descriptorIndex := 1102, attributes := #[] }, { accessFlags := 26, nameIndex := 1121, descriptorIndex := 1122, attributes := #[] }, { accessFlags := 25, nameIndex := 599, descriptorIndex := 600, attributes := #[] }, { accessFlags := 24, nameIndex := 1125, descriptorIndex := 18, attributes := #[] }, { accessFlags := 24, nameIndex := 1127, descriptorIndex := 18, attributes := #[] }])
  fields := #[{ name := "value", type := (.array .byte), accessFlags := 18, slot := 0, constantValue := 0 }, { name := "coder", type := .byte, accessFlags := 18, slot := 1, constantValue := 0 }, { name := "hash", type := .int, accessFlags := 2, slot := 2, constantValue := 0 }, { name := "hashIsZero", type := .boolean, accessFlags := 2, slot := 3, constantValue := 0 }, { name := "serialVersionUID", type := .long, accessFlags := 26, slot := 0, constantValue := 0 }, { name := "COMPACT_STRINGS", type := .boolean, accessFlags := 24, slot := 1, constantValue := 0 }, { name := "serialPersistentFields", type := (.array (.object "java/io/ObjectStreamField")), accessFlags := 26, slot := 2, constantValue := 0 }, { name := "REPL", type := .char, accessFlags := 26, slot := 3, constantValue := 0 }, { name := "CASE_INSENSITIVE_ORDER", type := (.object "java/util/Comparator"), accessFlags := 25, slot := 4, constantValue := 0 }, { name := "LATIN1", type := .byte, accessFlags := 24, slot := 5, constantValue := 0 }, { name := "UTF16", type := .byte, accessFlags := 24, slot := 6, constantValue := 0 }]
  methods := #[k12m0]
  instanceTypes := #[(.array .byte), .byte, .int, .boolean]
  staticTypes := #[.long, .boolean, (.array (.object "java/io/ObjectStreamField")), .char, (.object "java/util/Comparator"), .byte, .byte]
  resolved := Array.replicate 1451 none
  statics := none }

def pool13 : Array CpInfo := pool [(2, .class_ 4), (1, u "java/lang/Object"), (0, u "<init>"), (0, u "()V"), (35, .class_ 44), (1, u "java/util/Objects"), (0, u "requireNonNull"), (0, u "(Ljava/lang/Object;)Ljava/lang/Object;")] 137

def k13m0 : Method := { name := "<init>", desc := "()V", sig := { parameters := [], returnType := none }, accessFlags := 2, code := none }
def k13c1 : Code := { maxStack := 2, maxLocals := 1, code := jdk_31_method_10_code, exceptionTable := #[], attributes := #[] }
def k13m1 : Method := { name := "requireNonNull", desc := "(Ljava/lang/Object;)Ljava/lang/Object;", sig := { parameters := [(.object "java/lang/Object")], returnType := some (.object "java/lang/Object") }, accessFlags := 9, code := some k13c1 }
/-- java/util/Objects -/
def k13 : Class := { plain "java/util/Objects" (some 0) with
  accessFlags := 49
  interfaces := #[]
  cf := some (fileOf pool13 42 #[] #[{ accessFlags := 2, nameIndex := 5, descriptorIndex := 6, attributes := #[] }, { accessFlags := 9, nameIndex := 45, descriptorIndex := 46, attributes := #[] }] 49 2 #[] #[])
  fields := #[]
  methods := #[k13m0, k13m1]
  instanceTypes := #[]
  staticTypes := #[]
  resolved := Array.replicate 184 none
  statics := none }

def pool14 : Array CpInfo := pool [(8, .class_ 10), (1, u "java/lang/Iterable"), (24, .class_ 36), (0, u "java/lang/Object")] 25

/-- java/lang/Iterable -/
def k14 : Class := { plain "java/lang/Iterable" (some 0) with
  accessFlags := 1537
  interfaces := #[]
  cf := some (fileOf pool14 8 #[] #[] 1537 35 #[] #[])
  fields := #[]
  methods := #[]
  instanceTypes := #[]
  staticTypes := #[]
  resolved := Array.replicate 62 none
  statics := none }

def pool15 : Array CpInfo := pool [(10, .class_ 12), (1, u "java/util/Collection"), (0, u "toArray"), (16, u "()Z"), (29, .class_ 61), (0, u "java/lang/Object"), (0, .class_ 63), (0, u "java/lang/Iterable"), (2, u "isEmpty"), (3, u "()[Ljava/lang/Object;")] 44

def k15m0 : Method := { name := "isEmpty", desc := "()Z", sig := { parameters := [], returnType := some .boolean }, accessFlags := 1025, code := none }
def k15m1 : Method := { name := "toArray", desc := "()[Ljava/lang/Object;", sig := { parameters := [], returnType := some (.array (.object "java/lang/Object")) }, accessFlags := 1025, code := none }
/-- java/util/Collection -/
def k15 : Class := { plain "java/util/Collection" (some 0) with
  accessFlags := 1537
  interfaces := #[14]
  cf := some (fileOf pool15 10 #[] #[{ accessFlags := 1025, nameIndex := 66, descriptorIndex := 30, attributes := #[] }, { accessFlags := 1025, nameIndex := 13, descriptorIndex := 70, attributes := #[] }] 1537 60 #[62] #[])
  fields := #[]
  methods := #[k15m0, k15m1]
  instanceTypes := #[]
  staticTypes := #[]
  resolved := Array.replicate 115 none
  statics := none }

def pool16 : Array CpInfo := pool [(1, .methodref 2 3), (0, .class_ 4), (0, .nameAndType 5 6), (0, u "java/lang/Object"), (0, u "<init>"), (0, u "()V"), (1, .class_ 10), (1, u "java/util/AbstractCollection"), (66, .class_ 78), (0, u "java/util/Collection")] 81

def k16c0 : Code := { maxStack := 1, maxLocals := 1, code := jdk_22_method_1_code, exceptionTable := #[], attributes := #[] }
def k16m0 : Method := { name := "<init>", desc := "()V", sig := { parameters := [], returnType := none }, accessFlags := 4, code := some k16c0 }
/-- java/util/AbstractCollection -/
def k16 : Class := { plain "java/util/AbstractCollection" (some 0) with
  accessFlags := 1057
  interfaces := #[15]
  cf := some (fileOf pool16 8 #[] #[{ accessFlags := 4, nameIndex := 5, descriptorIndex := 6, attributes := #[] }] 1057 2 #[77] #[])
  fields := #[]
  methods := #[k16m0]
  instanceTypes := #[]
  staticTypes := #[]
  resolved := Array.replicate 160 none
  statics := none }

def pool17 : Array CpInfo := pool [(8, .class_ 10), (1, u "java/util/SequencedCollection"), (15, .class_ 27), (0, u "java/lang/Object"), (0, .class_ 29), (0, u "java/util/Collection")] 27

/-- java/util/SequencedCollection -/
def k17 : Class := { plain "java/util/SequencedCollection" (some 0) with
  accessFlags := 1537
  interfaces := #[15]
  cf := some (fileOf pool17 8 #[] #[] 1537 26 #[28] #[])
  fields := #[]
  methods := #[]
  instanceTypes := #[]
  staticTypes := #[]
  resolved := Array.replicate 57 none
  statics := none }

def pool18 : Array CpInfo := pool [(8, .class_ 10), (1, u "java/util/List"), (20, u "(Ljava/lang/Object;)V"), (16, u "<init>"), (30, u "size"), (0, u "()I"), (7, u "of"), (1, .fieldref 91 92), (0, .class_ 93), (0, .nameAndType 94 95), (0, u "java/util/ImmutableCollections"), (0, u "EMPTY_LIST"), (0, u "Ljava/util/ImmutableCollections$ListN;"), (0, .class_ 97), (0, u "java/util/ImmutableCollections$List12"), (0, .methodref 96 99), (0, .nameAndType 48 31), (3, .class_ 104), (0, u "java/lang/Object"), (3, u "([Ljava/lang/Object;)Ljava/util/List;"), (3, .methodref 91 113), (0, .nameAndType 114 115), (0, u "listCopy"), (0, u "(Ljava/util/Collection;)Ljava/util/List;"), (3, u "()Ljava/util/List;"), (0, .class_ 121), (0, u "java/util/SequencedCollection"), (112, u "copyOf")] 16

def k18m0 : Method := { name := "size", desc := "()I", sig := { parameters := [], returnType := some .int }, accessFlags := 1025, code := none }
def k18c1 : Code := { maxStack := 1, maxLocals := 0, code := jdk_40_method_36_code, exceptionTable := #[], attributes := #[] }
def k18m1 : Method := { name := "of", desc := "()Ljava/util/List;", sig := { parameters := [], returnType := some (.object "java/util/List") }, accessFlags := 9, code := some k18c1 }
def k18c2 : Code := { maxStack := 5, maxLocals := 2, code := jdk_40_method_47_code, exceptionTable := #[], attributes := #[] }
def k18m2 : Method := { name := "of", desc := "([Ljava/lang/Object;)Ljava/util/List;", sig := { parameters := [(.array (.object "java/lang/Object"))], returnType := some (.object "java/util/List") }, accessFlags := 137, code := some k18c2 }
def k18c3 : Code := { maxStack := 1, maxLocals := 1, code := jdk_40_method_48_code, exceptionTable := #[], attributes := #[] }
def k18m3 : Method := { name := "copyOf", desc := "(Ljava/util/Collection;)Ljava/util/List;", sig := { parameters := [(.object "java/util/Collection")], returnType := some (.object "java/util/List") }, accessFlags := 9, code := some k18c3 }
/-- java/util/List -/
def k18 : Class := { plain "java/util/List" (some 0) with
  accessFlags := 1537
  interfaces := #[17]
  cf := some (fileOf pool18 8 #[] #[{ accessFlags := 1025, nameIndex := 79, descriptorIndex := 80, attributes := #[] }, { accessFlags := 9, nameIndex := 88, descriptorIndex := 119, attributes := #[] }, { accessFlags := 137, nameIndex := 88, descriptorIndex := 108, attributes := #[] }, { accessFlags := 9, nameIndex := 234, descriptorIndex := 115, attributes := #[] }] 1537 103 #[120] #[])
  fields := #[]
  methods := #[k18m0, k18m1, k18m2, k18m3]
  instanceTypes := #[]
  staticTypes := #[]
  resolved := Array.replicate 251 none
  statics := none }

def pool19 : Array CpInfo := pool [(1, .methodref 2 3), (0, .class_ 4), (0, .nameAndType 5 6), (0, u "java/util/AbstractCollection"), (0, u "<init>"), (0, u "()V"), (0, .fieldref 8 9), (0, .class_ 10), (0, .nameAndType 11 12), (0, u "java/util/AbstractList"), (0, u "modCount"), (0, u "I"), (64, .class_ 78), (0, u "java/util/AbstractList$Itr"), (3, .class_ 83), (0, u "java/util/AbstractList$ListItr"), (9, .class_ 94), (0, u "java/util/AbstractList$RandomAccessSubList"), (3, .class_ 99), (0, u "java/util/AbstractList$SubList"), (33, .class_ 134), (0, u "java/util/List"), (73, .class_ 209), (0, u "java/util/AbstractList$SubList$1"), (0, .class_ 211), (0, u "java/util/AbstractList$RandomAccessSpliterator")] 6

def k19c0 : Code := { maxStack := 2, maxLocals := 1, code := jdk_39_method_1_code, exceptionTable := #[], attributes := #[] }
def k19m0 : Method := { name := "<init>", desc := "()V", sig := { parameters := [], returnType := none }, accessFlags := 4, code := some k19c0 }
/-- java/util/AbstractList -/
def k19 : Class := { plain "java/util/AbstractList" (some 16) with
  accessFlags := 1057
  interfaces := #[18]
  cf := some (fileOf pool19 8 #[.nestMembers #[93, 98, 208, 210, 82, 77]] #[{ accessFlags := 4, nameIndex := 5, descriptorIndex := 6, attributes := #[] }] 1057 2 #[133] #[{ accessFlags := 132, nameIndex := 11, descriptorIndex := 12, attributes := #[] }])
  fields := #[{ name := "modCount", type := .int, accessFlags := 132, slot := 0, constantValue := 0 }]
  methods := #[k19m0]
  instanceTypes := #[.int]
  staticTypes := #[]
  resolved := Array.replicate 218 none
  statics := none }

def pool20 : Array CpInfo := pool [(1, .class_ 2), (0, u "java/util/RandomAccess"), (0, .class_ 4), (0, u "java/lang/Object")] 2

/-- java/util/RandomAccess -/
def k20 : Class := { plain "java/util/RandomAccess" (some 0) with
  accessFlags := 1537
  interfaces := #[]
  cf := some (fileOf pool20 1 #[] #[] 1537 3 #[] #[])
  fields := #[]
  methods := #[]
  instanceTypes := #[]
  staticTypes := #[]
  resolved := Array.replicate 7 none
  statics := none }

def pool21 : Array CpInfo := pool [(1, .class_ 2), (0, u "java/lang/Cloneable"), (0, .class_ 4), (0, u "java/lang/Object")] 2

/-- java/lang/Cloneable -/
def k21 : Class := { plain "java/lang/Cloneable" (some 0) with
  accessFlags := 1537
  interfaces := #[]
  cf := some (fileOf pool21 1 #[] #[] 1537 3 #[] #[])
  fields := #[]
  methods := #[]
  instanceTypes := #[]
  staticTypes := #[]
  resolved := Array.replicate 7 none
  statics := none }

def pool22 : Array CpInfo := pool [(1, .methodref 2 3), (0, .class_ 4), (0, .nameAndType 5 6), (0, u "java/util/AbstractList"), (0, u "<init>"), (0, u "()V"), (0, .class_ 8), (0, u "java/lang/Object"), (0, .fieldref 10 11), (0, .class_ 12), (0, .nameAndType 13 14), (0, u "java/util/ArrayList"), (0, u "elementData"), (0, u "[Ljava/lang/Object;"), (2, u "EMPTY_ELEMENTDATA"), (21, .fieldref 10 40), (0, .nameAndType 41 14), (0, u "DEFAULTCAPACITY_EMPTY_ELEMENTDATA"), (4, u "toArray"), (0, u "()[Ljava/lang/Object;"), (0, .fieldref 10 49), (0, .nameAndType 50 51), (0, u "size"), (0, u "I"), (6, .class_ 60), (1, u "java/util/Arrays"), (0, u "copyOf"), (1, .fieldref 10 64), (0, .nameAndType 65 51), (0, u "modCount"), (0, .methodref 58 67), (0, .nameAndType 61 68), (0, u "([Ljava/lang/Object;I)[Ljava/lang/Object;"), (0, .methodref 10 70), (0, .nameAndType 71 72), (0, u "grow"), (0, u "(I)[Ljava/lang/Object;"), (6, .methodref 80 81), (0, .class_ 82), (0, .nameAndType 83 84), (0, u "java/lang/Math"), (0, u "max"), (0, u "(II)I"), (11, u "(Ljava/lang/Object;)Z"), (32, .methodref 10 130), (0, .nameAndType 71 47), (0, .methodref 10 132), (0, .nameAndType 133 134), (0, u "add"), (0, u "(Ljava/lang/Object;[Ljava/lang/Object;I)V"), (13, .class_ 149), (0, u "java/util/List"), (23, u "()Z"), (88, .class_ 263), (0, u "java/util/ArrayList$ListItr"), (3, .class_ 268), (0, u "java/util/ArrayList$Itr"), (7, .class_ 277), (0, u "java/util/ArrayList$SubList"), (12, .class_ 291), (0, u "java/util/ArrayList$ArrayListSpliterator"), (37, .class_ 330), (0, u "java/util/RandomAccess"), (0, .class_ 332), (0, u "java/lang/Cloneable"), (0, .class_ 334), (0, u "java/io/Serializable"), (0, u "serialVersionUID"), (0, u "J"), (3, u "DEFAULT_CAPACITY"), (22, u "isEmpty"), (136, .class_ 501), (0, u "java/util/ArrayList$SubList$2"), (0, .class_ 503), (0, u "java/util/ArrayList$SubList$1")] 5

def k22c0 : Code := { maxStack := 2, maxLocals := 1, code := jdk_38_method_2_code, exceptionTable := #[], attributes := #[] }
def k22m0 : Method := { name := "<init>", desc := "()V", sig := { parameters := [], returnType := none }, accessFlags := 1, code := some k22c0 }
def k22c1 : Code := { maxStack := 4, maxLocals := 4, code := jdk_38_method_6_code, exceptionTable := #[], attributes := #[] }
def k22m1 : Method := { name := "grow", desc := "(I)[Ljava/lang/Object;", sig := { parameters := [.int], returnType := some (.array (.object "java/lang/Object")) }, accessFlags := 2, code := some k22c1 }
def k22c2 : Code := { maxStack := 3, maxLocals := 1, code := jdk_38_method_7_code, exceptionTable := #[], attributes := #[] }
def k22m2 : Method := { name := "grow", desc := "()[Ljava/lang/Object;", sig := { parameters := [], returnType := some (.array (.object "java/lang/Object")) }, accessFlags := 2, code := some k22c2 }
def k22c3 : Code := { maxStack := 1, maxLocals := 1, code := jdk_38_method_9_code, exceptionTable := #[], attributes := #[] }
def k22m3 : Method := { name := "isEmpty", desc := "()Z", sig := { parameters := [], returnType := some .boolean }, accessFlags := 1, code := some k22c3 }
def k22c4 : Code := { maxStack := 2, maxLocals := 1, code := jdk_38_method_16_code, exceptionTable := #[], attributes := #[] }
def k22m4 : Method := { name := "toArray", desc := "()[Ljava/lang/Object;", sig := { parameters := [], returnType := some (.array (.object "java/lang/Object")) }, accessFlags := 1, code := some k22c4 }
def k22c5 : Code := { maxStack := 3, maxLocals := 4, code := jdk_38_method_24_code, exceptionTable := #[], attributes := #[] }
def k22m5 : Method := { name := "add", desc := "(Ljava/lang/Object;[Ljava/lang/Object;I)V", sig := { parameters := [(.object "java/lang/Object"), (.array (.object "java/lang/Object")), .int], returnType := none }, accessFlags := 2, code := some k22c5 }
def k22c6 : Code := { maxStack := 4, maxLocals := 2, code := jdk_38_method_25_code, exceptionTable := #[], attributes := #[] }
def k22m6 : Method := { name := "add", desc := "(Ljava/lang/Object;)Z", sig := { parameters := [(.object "java/lang/Object")], returnType := some .boolean }, accessFlags := 1, code := some k22c6 }
/-- java/util/ArrayList -/
def k22 : Class := { plain "java/util/ArrayList" (some 19) with
  accessFlags := 33
  interfaces := #[18, 20, 21, 7]
  cf := some (fileOf pool22 10 #[.nestMembers #[290, 276, 500, 502, 262, 267]] #[{ accessFlags := 1, nameIndex := 5, descriptorIndex := 6, attributes := #[] }, { accessFlags := 2, nameIndex := 71, descriptorIndex := 72, attributes := #[] }, { accessFlags := 2, nameIndex := 71, descriptorIndex := 47, attributes := #[] }, { accessFlags := 1, nameIndex := 363, descriptorIndex := 173, attributes := #[] }, { accessFlags := 1, nameIndex := 46, descriptorIndex := 47, attributes := #[] }, { accessFlags := 2, nameIndex := 133, descriptorIndex := 134, attributes := #[] }, { accessFlags := 1, nameIndex := 133, descriptorIndex := 96, attributes := #[] }] 33 2 #[148, 329, 331, 333] #[{ accessFlags := 26, nameIndex := 335, descriptorIndex := 336, attributes := #[] }, { accessFlags := 26, nameIndex := 340, descriptorIndex := 51, attributes := #[] }, { accessFlags := 26, nameIndex := 17, descriptorIndex := 14, attributes := #[] }, { accessFlags := 26, nameIndex := 41, descriptorIndex := 14, attributes := #[] }, { accessFlags := 128, nameIndex := 13, descriptorIndex := 14, attributes := #[] }, { accessFlags := 2, nameIndex := 50, descriptorIndex := 51, attributes := #[] }])
  fields := #[{ name := "serialVersionUID", type := .long, accessFlags := 26, slot := 0, constantValue := 0 }, { name := "DEFAULT_CAPACITY", type := .int, accessFlags := 26, slot := 1, constantValue := 0 }, { name := "EMPTY_ELEMENTDATA", type := (.array (.object "java/lang/Object")), accessFlags := 26, slot := 2, constantValue := 0 }, { name := "DEFAULTCAPACITY_EMPTY_ELEMENTDATA", type := (.array (.object "java/lang/Object")), accessFlags := 26, slot := 3, constantValue := 0 }, { name := "elementData", type := (.array (.object "java/lang/Object")), accessFlags := 128, slot := 1, constantValue := 0 }, { name := "size", type := .int, accessFlags := 2, slot := 2, constantValue := 0 }]
  methods := #[k22m0, k22m1, k22m2, k22m3, k22m4, k22m5, k22m6]
  instanceTypes := #[.int, (.array (.object "java/lang/Object")), .int]
  staticTypes := #[.long, .int, (.array (.object "java/lang/Object")), (.array (.object "java/lang/Object"))]
  resolved := Array.replicate 509 none
  statics := some 1 }

def pool23 : Array CpInfo := pool [(2, .class_ 4), (1, u "java/lang/Object"), (0, u "<init>"), (0, u "()V"), (3, .class_ 11), (0, u "java/util/ImmutableCollections$List12"), (0, .class_ 13), (0, u "java/util/ImmutableCollections$ListN"), (3, u "Z"), (0, .class_ 19), (0, u "java/util/List"), (0, .interfaceMethodref 21 22), (0, .class_ 23), (0, .nameAndType 24 25), (0, u "java/util/Collection"), (0, u "isEmpty"), (0, u "()Z"), (0, .interfaceMethodref 18 27), (0, .nameAndType 28 29), (0, u "of"), (0, u "()Ljava/util/List;"), (0, .interfaceMethodref 21 31), (0, .nameAndType 32 33), (0, u "toArray"), (0, u "()[Ljava/lang/Object;"), (0, .interfaceMethodref 18 35), (0, .nameAndType 28 36), (0, u "([Ljava/lang/Object;)Ljava/util/List;"), (10, .class_ 49), (1, u "java/util/ImmutableCollections"), (0, u "$assertionsDisabled"), (5, u "[Ljava/lang/Object;"), (5, u "EMPTY_LIST"), (0, u "Ljava/util/ImmutableCollections$ListN;"), (8, u "EMPTY_LIST_NULLS"), (22, u "SALT32L"), (0, u "J"), (2, u "REVERSE"), (6, u "archivedObjects"), (2, u "EMPTY"), (0, u "Ljava/lang/Object;"), (0, .class_ 112), (0, u "java/util/ImmutableCollections$SetN"), (5, u "EMPTY_SET"), (0, u "Ljava/util/ImmutableCollections$SetN;"), (0, .class_ 121), (0, u "java/util/ImmutableCollections$MapN"), (3, u "EMPTY_MAP"), (0, u "Ljava/util/ImmutableCollections$MapN;"), (4, u "EXPAND_FACTOR"), (0, u "I"), (9, u "listCopy"), (0, u "(Ljava/util/Collection;)Ljava/util/List;"), (25, .class_ 170), (0, u "java/util/ImmutableCollections$MapN$MapNIterator"), (0, .class_ 172), (0, u "java/util/ImmutableCollections$MapN$1"), (0, .class_ 174), (0, u "java/util/ImmutableCollections$Map1"), (0, .class_ 176), (0, u "java/util/ImmutableCollections$AbstractImmutableMap"), (0, .class_ 178), (0, u "java/util/ImmutableCollections$SetN$SetNIterator"), (0, .class_ 180), (0, u "java/util/ImmutableCollections$Set12"), (0, .class_ 182), (0, u "java/util/ImmutableCollections$Set12$1"), (0, .class_ 184), (0, u "java/util/ImmutableCollections$AbstractImmutableSet"), (0, .class_ 186), (0, u "java/util/ImmutableCollections$SubList"), (0, .class_ 188), (0, u "java/util/ImmutableCollections$ListItr"), (0, .class_ 190), (0, u "java/util/ImmutableCollections$AbstractImmutableList"), (0, .class_ 192), (0, u "java/util/ImmutableCollections$AbstractImmutableCollection"), (0, .class_ 194), (0, u "java/util/ImmutableCollections$Access"), (0, .class_ 196), (0, u "java/util/ImmutableCollections$Access$1")] 16

def k23m0 : Method := { name := "<init>", desc := "()V", sig := { parameters := [], returnType := none }, accessFlags := 2, code := none }
def k23c1 : Code := { maxStack := 1, maxLocals := 2, code := jdk_56_method_3_code, exceptionTable := #[], attributes := #[] }
def k23m1 : Method := { name := "listCopy", desc := "(Ljava/util/Collection;)Ljava/util/List;", sig := { parameters := [(.object "java/util/Collection")], returnType := some (.object "java/util/List") }, accessFlags := 8, code := some k23c1 }
/-- java/util/ImmutableCollections -/
def k23 : Class := { plain "java/util/ImmutableCollections" (some 0) with
  accessFlags := 32
  interfaces := #[]
  cf := some (fileOf pool23 47 #[.nestMembers #[120, 169, 171, 173, 175, 111, 177, 179, 181, 183, 12, 10, 185, 187, 189, 191, 193, 195]] #[{ accessFlags := 2, nameIndex := 5, descriptorIndex := 6, attributes := #[] }, { accessFlags := 8, nameIndex := 142, descriptorIndex := 143, attributes := #[] }] 32 2 #[] #[{ accessFlags := 26, nameIndex := 95, descriptorIndex := 96, attributes := #[] }, { accessFlags := 26, nameIndex := 99, descriptorIndex := 17, attributes := #[] }, { accessFlags := 10, nameIndex := 106, descriptorIndex := 56, attributes := #[] }, { accessFlags := 26, nameIndex := 109, descriptorIndex := 110, attributes := #[] }, { accessFlags := 24, nameIndex := 62, descriptorIndex := 63, attributes := #[] }, { accessFlags := 24, nameIndex := 72, descriptorIndex := 63, attributes := #[] }, { accessFlags := 24, nameIndex := 118, descriptorIndex := 119, attributes := #[] }, { accessFlags := 24, nameIndex := 125, descriptorIndex := 126, attributes := #[] }, { accessFlags := 24, nameIndex := 131, descriptorIndex := 132, attributes := #[] }, { accessFlags := 4120, nameIndex := 50, descriptorIndex := 17, attributes := #[] }])
  fields := #[{ name := "SALT32L", type := .long, accessFlags := 26, slot := 0, constantValue := 0 }, { name := "REVERSE", type := .boolean, accessFlags := 26, slot := 1, constantValue := 0 }, { name := "archivedObjects", type := (.array (.object "java/lang/Object")), accessFlags := 10, slot := 2, constantValue := 0 }, { name := "EMPTY", type := (.object "java/lang/Object"), accessFlags := 26, slot := 3, constantValue := 0 }, { name := "EMPTY_LIST", type := (.object "java/util/ImmutableCollections$ListN"), accessFlags := 24, slot := 4, constantValue := 0 }, { name := "EMPTY_LIST_NULLS", type := (.object "java/util/ImmutableCollections$ListN"), accessFlags := 24, slot := 5, constantValue := 0 }, { name := "EMPTY_SET", type := (.object "java/util/ImmutableCollections$SetN"), accessFlags := 24, slot := 6, constantValue := 0 }, { name := "EMPTY_MAP", type := (.object "java/util/ImmutableCollections$MapN"), accessFlags := 24, slot := 7, constantValue := 0 }, { name := "EXPAND_FACTOR", type := .int, accessFlags := 24, slot := 8, constantValue := 0 }, { name := "$assertionsDisabled", type := .boolean, accessFlags := 4120, slot := 9, constantValue := 0 }]
  methods := #[k23m0, k23m1]
  instanceTypes := #[]
  staticTypes := #[.long, .boolean, (.array (.object "java/lang/Object")), (.object "java/lang/Object"), (.object "java/util/ImmutableCollections$ListN"), (.object "java/util/ImmutableCollections$ListN"), (.object "java/util/ImmutableCollections$SetN"), (.object "java/util/ImmutableCollections$MapN"), .int, .boolean]
  resolved := Array.replicate 213 none
  statics := some 2 }

def pool24 : Array CpInfo := pool [(1, .methodref 2 3), (0, .class_ 4), (0, .nameAndType 5 6), (0, u "java/util/AbstractCollection"), (0, u "<init>"), (0, u "()V"), (1, .class_ 10), (1, u "java/util/ImmutableCollections"), (2, .class_ 14), (0, u "java/util/ImmutableCollections$AbstractImmutableCollection")] 41

def k24c0 : Code := { maxStack := 1, maxLocals := 1, code := jdk_47_method_1_code, exceptionTable := #[], attributes := #[] }
def k24m0 : Method := { name := "<init>", desc := "()V", sig := { parameters := [], returnType := none }, accessFlags := 0, code := some k24c0 }
/-- java/util/ImmutableCollections$AbstractImmutableCollection -/
def k24 : Class := { plain "java/util/ImmutableCollections$AbstractImmutableCollection" (some 16) with
  accessFlags := 1056
  interfaces := #[]
  cf := some (fileOf pool24 13 #[.nestHost 8] #[{ accessFlags := 0, nameIndex := 5, descriptorIndex := 6, attributes := #[] }] 1056 2 #[] #[])
  fields := #[]
  methods := #[k24m0]
  instanceTypes := #[]
  staticTypes := #[]
  resolved := Array.replicate 56 none
  statics := none }

def pool25 : Array CpInfo := pool [(1, .methodref 2 3), (0, .class_ 4), (0, .nameAndType 5 6), (0, u "java/util/ImmutableCollections$AbstractImmutableCollection"), (0, u "<init>"), (0, u "()V"), (1, .class_ 10), (1, u "java/util/ImmutableCollections"), (3, .class_ 16), (1, u "java/util/ImmutableCollections$AbstractImmutableList"), (60, .class_ 78), (0, u "java/util/List"), (45, .class_ 125), (0, u "java/util/RandomAccess")] 70

def k25c0 : Code := { maxStack := 1, maxLocals := 1, code := jdk_46_method_1_code, exceptionTable := #[], attributes := #[] }
def k25m0 : Method := { name := "<init>", desc := "()V", sig := { parameters := [], returnType := none }, accessFlags := 0, code := some k25c0 }
/-- java/util/ImmutableCollections$AbstractImmutableList -/
def k25 : Class := { plain "java/util/ImmutableCollections$AbstractImmutableList" (some 24) with
  accessFlags := 1056
  interfaces := #[18, 20]
  cf := some (fileOf pool25 14 #[.nestHost 8] #[{ accessFlags := 0, nameIndex := 5, descriptorIndex := 6, attributes := #[] }] 1056 2 #[77, 124] #[])
  fields := #[]
  methods := #[k25m0]
  instanceTypes := #[]
  staticTypes := #[]
  resolved := Array.replicate 196 none
  statics := none }

def pool26 : Array CpInfo := pool [(1, .methodref 2 3), (0, .class_ 4), (0, .nameAndType 5 6), (0, u "java/util/ImmutableCollections$AbstractImmutableList"), (0, u "<init>"), (0, u "()V"), (0, .methodref 8 9), (0, .class_ 10), (0, .nameAndType 11 12), (0, u "java/util/Objects"), (0, u "requireNonNull"), (0, u "(Ljava/lang/Object;)Ljava/lang/Object;"), (0, .fieldref 14 15), (0, .class_ 16), (0, .nameAndType 17 18), (0, u "java/util/ImmutableCollections$List12"), (0, u "e0"), (0, u "Ljava/lang/Object;"), (0, .fieldref 20 21), (0, .class_ 22), (0, .nameAndType 23 18), (0, u "java/util/ImmutableCollections"), (0, u "EMPTY"), (0, .fieldref 14 25), (0, .nameAndType 26 18), (0, u "e1"), (24, u "size"), (0, u "()I"), (17, .class_ 71), (0, u "java/io/Serializable"), (4, u "(Ljava/lang/Object;)V")] 48

def k26c0 : Code := { maxStack := 2, maxLocals := 2, code := jdk_44_method_1_code, exceptionTable := #[], attributes := #[] }
def k26m0 : Method := { name := "<init>", desc := "(Ljava/lang/Object;)V", sig := { parameters := [(.object "java/lang/Object")], returnType := none }, accessFlags := 0, code := some k26c0 }
def k26c1 : Code := { maxStack := 2, maxLocals := 1, code := jdk_44_method_3_code, exceptionTable := #[], attributes := #[] }
def k26m1 : Method := { name := "size", desc := "()I", sig := { parameters := [], returnType := some .int }, accessFlags := 1, code := some k26c1 }
/-- java/util/ImmutableCollections$List12 -/
def k26 : Class := { plain "java/util/ImmutableCollections$List12" (some 25) with
  accessFlags := 48
  interfaces := #[7]
  cf := some (fileOf pool26 14 #[.nestHost 20] #[{ accessFlags := 0, nameIndex := 5, descriptorIndex := 76, attributes := #[] }, { accessFlags := 1, nameIndex := 51, descriptorIndex := 52, attributes := #[] }] 48 2 #[70] #[{ accessFlags := 18, nameIndex := 17, descriptorIndex := 18, attributes := #[] }, { accessFlags := 18, nameIndex := 26, descriptorIndex := 18, attributes := #[] }])
  fields := #[{ name := "e0", type := (.object "java/lang/Object"), accessFlags := 18, slot := 0, constantValue := 0 }, { name := "e1", type := (.object "java/lang/Object"), accessFlags := 18, slot := 1, constantValue := 0 }]
  methods := #[k26m0, k26m1]
  instanceTypes := #[(.object "java/lang/Object"), (.object "java/lang/Object")]
  staticTypes := #[]
  resolved := Array.replicate 125 none
  statics := none }

def pool27 : Array CpInfo := pool [(2, .class_ 4), (1, u "java/util/ImmutableCollections$AbstractImmutableList"), (2, .fieldref 8 9), (0, .class_ 10), (0, .nameAndType 11 12), (0, u "java/util/ImmutableCollections$ListN"), (0, u "elements"), (0, u "[Ljava/lang/Object;"), (2, u "allowNulls"), (0, u "Z"), (42, .class_ 60), (0, u "java/io/Serializable"), (16, u "size"), (0, u "()I"), (35, .class_ 115), (0, u "java/util/ImmutableCollections")] 3

def k27c0 : Code := { maxStack := 1, maxLocals := 1, code := jdk_45_method_3_code, exceptionTable := #[], attributes := #[] }
def k27m0 : Method := { name := "size", desc := "()I", sig := { parameters := [], returnType := some .int }, accessFlags := 1, code := some k27c0 }
/-- java/util/ImmutableCollections$ListN -/
def k27 : Class := { plain "java/util/ImmutableCollections$ListN" (some 25) with
  accessFlags := 48
  interfaces := #[7]
  cf := some (fileOf pool27 8 #[.nestHost 114] #[{ accessFlags := 1, nameIndex := 77, descriptorIndex := 78, attributes := #[] }] 48 2 #[59] #[{ accessFlags := 18, nameIndex := 11, descriptorIndex := 12, attributes := #[] }, { accessFlags := 18, nameIndex := 15, descriptorIndex := 16, attributes := #[] }])
  fields := #[{ name := "elements", type := (.array (.object "java/lang/Object")), accessFlags := 18, slot := 0, constantValue := 0 }, { name := "allowNulls", type := .boolean, accessFlags := 18, slot := 1, constantValue := 0 }]
  methods := #[k27m0]
  instanceTypes := #[(.array (.object "java/lang/Object")), .boolean]
  staticTypes := #[]
  resolved := Array.replicate 119 none
  statics := none }

def pool28 : Array CpInfo := pool [(1, .methodref 2 3), (0, .class_ 4), (0, .nameAndType 5 6), (0, u "java/lang/Record"), (0, u "<init>"), (0, u "()V"), (0, .methodref 8 9), (0, .class_ 10), (0, .nameAndType 11 12), (0, u "java/util/Objects"), (0, u "requireNonNull"), (0, u "(Ljava/lang/Object;)Ljava/lang/Object;"), (0, .fieldref 14 15), (0, .class_ 16), (0, .nameAndType 17 18), (0, u "com/example/refleash/refleash/heap/Leak$Node"), (0, u "className"), (0, u "Ljava/lang/String;"), (0, .fieldref 14 20), (0, .nameAndType 21 22), (0, u "status"), (0, u "Lcom/example/refleash/refleash/heap/Leak$Status;"), (0, .fieldref 14 24), (0, .nameAndType 25 18), (0, u "reason"), (12, u "(Ljava/lang/String;Lcom/example/refleash/refleash/heap/Leak$Status;Ljava/lang/String;)V"), (10, .class_ 50), (0, u "com/example/refleash/refleash/heap/Leak")] 24

def k28c0 : Code := { maxStack := 2, maxLocals := 4, code := prog_34_method_1_code, exceptionTable := #[], attributes := #[] }
def k28m0 : Method := { name := "<init>", desc := "(Ljava/lang/String;Lcom/example/refleash/refleash/heap/Leak$Status;Ljava/lang/String;)V", sig := { parameters := [(.object "java/lang/String"), (.object "com/example/refleash/refleash/heap/Leak$Status"), (.object "java/lang/String")], returnType := none }, accessFlags := 1, code := some k28c0 }
/-- com/example/refleash/refleash/heap/Leak$Node -/
def k28 : Class := { plain "com/example/refleash/refleash/heap/Leak$Node" (some 2) with
  accessFlags := 49
  interfaces := #[]
  cf := some (fileOf pool28 14 #[.nestHost 49] #[{ accessFlags := 1, nameIndex := 5, descriptorIndex := 38, attributes := #[] }] 49 2 #[] #[{ accessFlags := 18, nameIndex := 17, descriptorIndex := 18, attributes := #[] }, { accessFlags := 18, nameIndex := 21, descriptorIndex := 22, attributes := #[] }, { accessFlags := 18, nameIndex := 25, descriptorIndex := 18, attributes := #[] }])
  fields := #[{ name := "className", type := (.object "java/lang/String"), accessFlags := 18, slot := 0, constantValue := 0 }, { name := "status", type := (.object "com/example/refleash/refleash/heap/Leak$Status"), accessFlags := 18, slot := 1, constantValue := 0 }, { name := "reason", type := (.object "java/lang/String"), accessFlags := 18, slot := 2, constantValue := 0 }]
  methods := #[k28m0]
  instanceTypes := #[(.object "java/lang/String"), (.object "com/example/refleash/refleash/heap/Leak$Status"), (.object "java/lang/String")]
  staticTypes := #[]
  resolved := Array.replicate 75 none
  statics := none }

def pool29 : Array CpInfo := pool [(1, .class_ 2), (0, u "com/example/refleash/refleash/heap/Leak$Status"), (2, u "NO"), (0, u "Lcom/example/refleash/refleash/heap/Leak$Status;"), (2, u "UNKNOWN"), (2, u "YES"), (2, u "$VALUES"), (0, u "[Lcom/example/refleash/refleash/heap/Leak$Status;"), (6, .class_ 25), (1, u "java/lang/Enum"), (26, .class_ 53), (0, u "com/example/refleash/refleash/heap/Leak")] 2

/-- com/example/refleash/refleash/heap/Leak$Status -/
def k29 : Class := { plain "com/example/refleash/refleash/heap/Leak$Status" (some 8) with
  accessFlags := 16433
  interfaces := #[]
  cf := some (fileOf pool29 1 #[.nestHost 52] #[] 16433 23 #[] #[{ accessFlags := 16409, nameIndex := 5, descriptorIndex := 6, attributes := #[] }, { accessFlags := 16409, nameIndex := 9, descriptorIndex := 6, attributes := #[] }, { accessFlags := 16409, nameIndex := 12, descriptorIndex := 6, attributes := #[] }, { accessFlags := 4122, nameIndex := 15, descriptorIndex := 16, attributes := #[] }])
  fields := #[{ name := "NO", type := (.object "com/example/refleash/refleash/heap/Leak$Status"), accessFlags := 16409, slot := 0, constantValue := 0 }, { name := "UNKNOWN", type := (.object "com/example/refleash/refleash/heap/Leak$Status"), accessFlags := 16409, slot := 1, constantValue := 0 }, { name := "YES", type := (.object "com/example/refleash/refleash/heap/Leak$Status"), accessFlags := 16409, slot := 2, constantValue := 0 }, { name := "$VALUES", type := (.array (.object "com/example/refleash/refleash/heap/Leak$Status")), accessFlags := 4122, slot := 3, constantValue := 0 }]
  methods := #[]
  instanceTypes := #[(.object "java/lang/String"), .int, .int]
  staticTypes := #[(.object "com/example/refleash/refleash/heap/Leak$Status"), (.object "com/example/refleash/refleash/heap/Leak$Status"), (.object "com/example/refleash/refleash/heap/Leak$Status"), (.array (.object "com/example/refleash/refleash/heap/Leak$Status"))]
  resolved := Array.replicate 56 none
  statics := some 3 }

def pool30 : Array CpInfo := pool [(1, .class_ 2), (0, u "java/lang/Math"), (1, .class_ 6), (1, u "java/lang/Object"), (0, u "<init>"), (0, u "()V"), (89, .class_ 100), (1, u "java/lang/Math$RandomNumberGeneratorHolder"), (71, u "negativeZeroFloatBits"), (0, u "J"), (2, u "negativeZeroDoubleBits"), (21, u "max"), (2, u "min"), (43, u "$assertionsDisabled"), (0, u "Z"), (88, u "(II)I"), (2, u "twoToTheDoubleScaleDown"), (0, u "D"), (4, u "twoToTheDoubleScaleUp"), (9, u "E"), (3, u "PI"), (2, u "TAU"), (2, u "DEGREES_TO_RADIANS"), (0, u "RADIANS_TO_DEGREES")] 94

def k30m0 : Method := { name := "<init>", desc := "()V", sig := { parameters := [], returnType := none }, accessFlags := 2, code := none }
def k30c1 : Code := { maxStack := 2, maxLocals := 2, code := jdk_29_method_65_code, exceptionTable := #[], attributes := #[] }
def k30m1 : Method := { name := "max", desc := "(II)I", sig := { parameters := [.int, .int], returnType := some .int }, accessFlags := 9, code := some k30c1 }
def k30c2 : Code := { maxStack := 2, maxLocals := 2, code := jdk_29_method_69_code, exceptionTable := #[], attributes := #[] }
def k30m2 : Method := { name := "min", desc := "(II)I", sig := { parameters := [.int, .int], returnType := some .int }, accessFlags := 9, code := some k30c2 }
/-- java/lang/Math -/
def k30 : Class := { plain "java/lang/Math" (some 0) with
  accessFlags := 49
  interfaces := #[]
  cf := some (fileOf pool30 1 #[.nestMembers #[98]] #[{ accessFlags := 2, nameIndex := 7, descriptorIndex := 8, attributes := #[] }, { accessFlags := 9, nameIndex := 198, descriptorIndex := 335, attributes := #[] }, { accessFlags := 9, nameIndex := 201, descriptorIndex := 335, attributes := #[] }] 49 4 #[] #[{ accessFlags := 25, nameIndex := 354, descriptorIndex := 339, attributes := #[] }, { accessFlags := 25, nameIndex := 358, descriptorIndex := 339, attributes := #[] }, { accessFlags := 25, nameIndex := 361, descriptorIndex := 339, attributes := #[] }, { accessFlags := 26, nameIndex := 364, descriptorIndex := 339, attributes := #[] }, { accessFlags := 26, nameIndex := 365, descriptorIndex := 339, attributes := #[] }, { accessFlags := 26, nameIndex := 172, descriptorIndex := 173, attributes := #[] }, { accessFlags := 26, nameIndex := 176, descriptorIndex := 173, attributes := #[] }, { accessFlags := 8, nameIndex := 344, descriptorIndex := 339, attributes := #[] }, { accessFlags := 8, nameIndex := 338, descriptorIndex := 339, attributes := #[] }, { accessFlags := 4120, nameIndex := 245, descriptorIndex := 246, attributes := #[] }])
  fields := #[{ name := "E", type := .double, accessFlags := 25, slot := 0, constantValue := 0 }, { name := "PI", type := .double, accessFlags := 25, slot := 1, constantValue := 0 }, { name := "TAU", type := .double, accessFlags := 25, slot := 2, constantValue := 0 }, { name := "DEGREES_TO_RADIANS", type := .double, accessFlags := 26, slot := 3, constantValue := 0 }, { name := "RADIANS_TO_DEGREES", type := .double, accessFlags := 26, slot := 4, constantValue := 0 }, { name := "negativeZeroFloatBits", type := .long, accessFlags := 26, slot := 5, constantValue := 0 }, { name := "negativeZeroDoubleBits", type := .long, accessFlags := 26, slot := 6, constantValue := 0 }, { name := "twoToTheDoubleScaleUp", type := .double, accessFlags := 8, slot := 7, constantValue := 0 }, { name := "twoToTheDoubleScaleDown", type := .double, accessFlags := 8, slot := 8, constantValue := 0 }, { name := "$assertionsDisabled", type := .boolean, accessFlags := 4120, slot := 9, constantValue := 0 }]
  methods := #[k30m0, k30m1, k30m2]
  instanceTypes := #[]
  staticTypes := #[.double, .double, .double, .double, .double, .long, .long, .double, .double, .boolean]
  resolved := Array.replicate 460 none
  statics := none }

def pool31 : Array CpInfo := pool [(1, .methodref 2 3), (0, .class_ 4), (0, .nameAndType 5 6), (0, u "java/lang/Record"), (0, u "<init>"), (0, u "()V"), (0, .methodref 8 9), (0, .class_ 10), (0, .nameAndType 11 12), (0, u "java/util/Objects"), (0, u "requireNonNull"), (0, u "(Ljava/lang/Object;)Ljava/lang/Object;"), (0, .interfaceMethodref 14 15), (0, .class_ 16), (0, .nameAndType 17 18), (0, u "java/util/List"), (0, u "copyOf"), (0, u "(Ljava/util/Collection;)Ljava/util/List;"), (0, .interfaceMethodref 14 20), (0, .nameAndType 21 22), (0, u "size"), (0, u "()I"), (0, .methodref 24 25), (0, .class_ 26), (0, .nameAndType 27 28), (0, u "com/example/refleash/refleash/heap/Trace"), (0, u "hops"), (0, u "()Ljava/util/List;"), (9, .fieldref 39 40), (0, .class_ 41), (0, .nameAndType 42 43), (0, u "com/example/refleash/refleash/heap/Leak"), (0, u "signature"), (0, u "Ljava/lang/String;"), (0, .fieldref 39 45), (0, .nameAndType 46 47), (0, u "retainedBytes"), (0, u "J"), (0, .fieldref 39 49), (0, .nameAndType 50 51), (0, u "trace"), (0, u "Lcom/example/refleash/refleash/heap/Trace;"), (0, .fieldref 39 53), (0, .nameAndType 54 55), (0, u "nodes"), (0, u "Ljava/util/List;"), (0, .fieldref 39 57), (0, .nameAndType 58 59), (0, u "firstSuspect"), (0, u "I"), (0, .fieldref 39 61), (0, .nameAndType 62 59), (0, u "endSuspect"), (0, .fieldref 39 64), (0, .nameAndType 65 55), (0, u "objects"), (15, u "(Ljava/lang/String;JLcom/example/refleash/refleash/heap/Trace;Ljava/util/List;IILjava/util/List;)V"), (8, u "isSuspect"), (0, u "(I)Z"), (9, .class_ 102), (0, u "com/example/refleash/refleash/heap/Leak$WatchedObject"), (0, .class_ 104), (0, u "com/example/refleash/refleash/heap/Leak$Node"), (0, .class_ 106), (0, u "com/example/refleash/refleash/heap/Leak$Status")] 35

def k31c0 : Code := { maxStack := 4, maxLocals := 9, code := prog_33_method_1_code, exceptionTable := #[], attributes := #[] }
def k31m0 : Method := { name := "<init>", desc := "(Ljava/lang/String;JLcom/example/refleash/refleash/heap/Trace;Ljava/util/List;IILjava/util/List;)V", sig := { parameters := [(.object "java/lang/String"), .long, (.object "com/example/refleash/refleash/heap/Trace"), (.object "java/util/List"), .int, .int, (.object "java/util/List")], returnType := none }, accessFlags := 1, code := some k31c0 }
def k31c1 : Code := { maxStack := 2, maxLocals := 2, code := prog_33_method_3_code, exceptionTable := #[], attributes := #[] }
def k31m1 : Method := { name := "isSuspect", desc := "(I)Z", sig := { parameters := [.int], returnType := some .boolean }, accessFlags := 1, code := some k31c1 }
/-- com/example/refleash/refleash/heap/Leak -/
def k31 : Class := { plain "com/example/refleash/refleash/heap/Leak" (some 2) with
  accessFlags := 49
  interfaces := #[]
  cf := some (fileOf pool31 39 #[.nestMembers #[101, 103, 105]] #[{ accessFlags := 1, nameIndex := 5, descriptorIndex := 81, attributes := #[] }, { accessFlags := 1, nameIndex := 90, descriptorIndex := 91, attributes := #[] }] 49 2 #[] #[{ accessFlags := 18, nameIndex := 42, descriptorIndex := 43, attributes := #[] }, { accessFlags := 18, nameIndex := 46, descriptorIndex := 47, attributes := #[] }, { accessFlags := 18, nameIndex := 50, descriptorIndex := 51, attributes := #[] }, { accessFlags := 18, nameIndex := 54, descriptorIndex := 55, attributes := #[] }, { accessFlags := 18, nameIndex := 58, descriptorIndex := 59, attributes := #[] }, { accessFlags := 18, nameIndex := 62, descriptorIndex := 59, attributes := #[] }, { accessFlags := 18, nameIndex := 65, descriptorIndex := 55, attributes := #[] }])
  fields := #[{ name := "signature", type := (.object "java/lang/String"), accessFlags := 18, slot := 0, constantValue := 0 }, { name := "retainedBytes", type := .long, accessFlags := 18, slot := 1, constantValue := 0 }, { name := "trace", type := (.object "com/example/refleash/refleash/heap/Trace"), accessFlags := 18, slot := 2, constantValue := 0 }, { name := "nodes", type := (.object "java/util/List"), accessFlags := 18, slot := 3, constantValue := 0 }, { name := "firstSuspect", type := .int, accessFlags := 18, slot := 4, constantValue := 0 }, { name := "endSuspect", type := .int, accessFlags := 18, slot := 5, constantValue := 0 }, { name := "objects", type := (.object "java/util/List"), accessFlags := 18, slot := 6, constantValue := 0 }]
  methods := #[k31m0, k31m1]
  instanceTypes := #[(.object "java/lang/String"), .long, (.object "com/example/refleash/refleash/heap/Trace"), (.object "java/util/List"), .int, .int, (.object "java/util/List")]
  staticTypes := #[]
  resolved := Array.replicate 142 none
  statics := none }

def pool32 : Array CpInfo := pool [(2, .class_ 4), (1, u "java/lang/Object"), (0, u "<init>"), (0, u "()V"), (7, .class_ 16), (1, u "java/util/Arrays"), (57, .class_ 76), (1, u "java/util/Arrays$NaturalOrder"), (9, .methodref 2 87), (0, .nameAndType 88 89), (0, u "getClass"), (0, u "()Ljava/lang/Class;"), (20, .class_ 111), (0, u "[Ljava/lang/Object;"), (1, .class_ 115), (1, u "java/util/Arrays$LegacyMergeSort"), (1, u "Z"), (32, .methodref 151 152), (0, .class_ 153), (0, .nameAndType 154 155), (0, u "java/lang/System"), (0, u "arraycopy"), (0, u "(Ljava/lang/Object;ILjava/lang/Object;II)V"), (144, .methodref 14 301), (0, .nameAndType 302 303), (0, u "copyOf"), (0, u "([Ljava/lang/Object;ILjava/lang/Class;)[Ljava/lang/Object;"), (0, .methodref 305 306), (0, .class_ 307), (0, .nameAndType 308 309), (0, u "java/lang/Math"), (0, u "min"), (0, u "(II)I"), (65, .class_ 376), (0, u "java/util/Arrays$ArrayList"), (68, u "$assertionsDisabled"), (269, u "MIN_ARRAY_SORT_GRAN"), (0, u "I"), (2, u "INSERTIONSORT_THRESHOLD"), (140, u "([Ljava/lang/Object;I)[Ljava/lang/Object;"), (114, .class_ 976), (0, u "java/util/Arrays$ArrayItr")] 52

def k32m0 : Method := { name := "<init>", desc := "()V", sig := { parameters := [], returnType := none }, accessFlags := 2, code := none }
def k32c1 : Code := { maxStack := 3, maxLocals := 2, code := jdk_65_method_119_code, exceptionTable := #[], attributes := #[] }
def k32m1 : Method := { name := "copyOf", desc := "([Ljava/lang/Object;I)[Ljava/lang/Object;", sig := { parameters := [(.array (.object "java/lang/Object")), .int], returnType := some (.array (.object "java/lang/Object")) }, accessFlags := 9, code := some k32c1 }
def k32c2 : Code := { maxStack := 6, maxLocals := 4, code := jdk_65_method_120_code, exceptionTable := #[], attributes := #[] }
def k32m2 : Method := { name := "copyOf", desc := "([Ljava/lang/Object;ILjava/lang/Class;)[Ljava/lang/Object;", sig := { parameters := [(.array (.object "java/lang/Object")), .int, (.object "java/lang/Class")], returnType := some (.array (.object "java/lang/Object")) }, accessFlags := 9, code := some k32c2 }
/-- java/util/Arrays -/
def k32 : Class := { plain "java/util/Arrays" (some 0) with
  accessFlags := 49
  interfaces := #[]
  cf := some (fileOf pool32 14 #[.nestMembers #[975, 375, 113, 74]] #[{ accessFlags := 2, nameIndex := 5, descriptorIndex := 6, attributes := #[] }, { accessFlags := 9, nameIndex := 302, descriptorIndex := 860, attributes := #[] }, { accessFlags := 9, nameIndex := 302, descriptorIndex := 303, attributes := #[] }] 49 2 #[] #[{ accessFlags := 26, nameIndex := 715, descriptorIndex := 716, attributes := #[] }, { accessFlags := 26, nameIndex := 719, descriptorIndex := 716, attributes := #[] }, { accessFlags := 4120, nameIndex := 445, descriptorIndex := 117, attributes := #[] }])
  fields := #[{ name := "MIN_ARRAY_SORT_GRAN", type := .int, accessFlags := 26, slot := 0, constantValue := 0 }, { name := "INSERTIONSORT_THRESHOLD", type := .int, accessFlags := 26, slot := 1, constantValue := 0 }, { name := "$assertionsDisabled", type := .boolean, accessFlags := 4120, slot := 2, constantValue := 0 }]
  methods := #[k32m0, k32m1, k32m2]
  instanceTypes := #[]
  staticTypes := #[.int, .int, .boolean]
  resolved := Array.replicate 1029 none
  statics := none }

def pool33 : Array CpInfo := pool [(2, .class_ 4), (1, u "java/lang/Object"), (0, u "<init>"), (0, u "()V"), (1, .class_ 10), (1, u "java/lang/System"), (0, u "allowSecurityManager"), (0, u "I"), (16, u "cons"), (0, u "Ljava/io/Console;"), (77, .class_ 110), (1, u "java/lang/System$CallersHolder"), (43, u "initialErrStream"), (0, u "Ljava/io/PrintStream;"), (19, u "security"), (0, u "Ljava/lang/SecurityManager;"), (31, .class_ 209), (0, u "java/lang/System$1"), (7, u "props"), (0, u "Ljava/util/Properties;"), (2, u "lineSeparator"), (0, u "Ljava/lang/String;"), (96, .class_ 321), (1, u "java/lang/System$LoggerFinder"), (5, .class_ 328), (0, u "java/lang/System$Logger"), (67, u "err"), (2, u "out"), (91, u "notSupportedJnuEncoding"), (15, u "in"), (17, u "initialIn"), (0, u "Ljava/io/InputStream;"), (35, u "bootLayer"), (0, u "Ljava/lang/ModuleLayer;"), (99, .class_ 664), (0, u "java/lang/System$2"), (9, u "NEVER"), (2, u "MAYBE"), (49, u "arraycopy"), (0, u "(Ljava/lang/Object;ILjava/lang/Object;II)V"), (72, .class_ 802), (0, u "java/lang/System$Logger$Level")] 31

def k33m0 : Method := { name := "<init>", desc := "()V", sig := { parameters := [], returnType := none }, accessFlags := 2, code := none }
def k33m1 : Method := { name := "arraycopy", desc := "(Ljava/lang/Object;ILjava/lang/Object;II)V", sig := { parameters := [(.object "java/lang/Object"), .int, (.object "java/lang/Object"), .int, .int], returnType := none }, accessFlags := 265, code := none }
/-- java/lang/System -/
def k33 : Class := { plain "java/lang/System" (some 0) with
  accessFlags := 49
  interfaces := #[]
  cf := some (fileOf pool33 8 #[.nestMembers #[319, 327, 801, 108, 663, 208]] #[{ accessFlags := 2, nameIndex := 5, descriptorIndex := 6, attributes := #[] }, { accessFlags := 265, nameIndex := 727, descriptorIndex := 728, attributes := #[] }] 49 2 #[] #[{ accessFlags := 25, nameIndex := 507, descriptorIndex := 526, attributes := #[] }, { accessFlags := 25, nameIndex := 399, descriptorIndex := 155, attributes := #[] }, { accessFlags := 25, nameIndex := 396, descriptorIndex := 155, attributes := #[] }, { accessFlags := 10, nameIndex := 525, descriptorIndex := 526, attributes := #[] }, { accessFlags := 26, nameIndex := 674, descriptorIndex := 12, attributes := #[] }, { accessFlags := 26, nameIndex := 677, descriptorIndex := 12, attributes := #[] }, { accessFlags := 10, nameIndex := 11, descriptorIndex := 12, attributes := #[] }, { accessFlags := 74, nameIndex := 175, descriptorIndex := 176, attributes := #[] }, { accessFlags := 10, nameIndex := 491, descriptorIndex := 222, attributes := #[] }, { accessFlags := 74, nameIndex := 29, descriptorIndex := 30, attributes := #[] }, { accessFlags := 74, nameIndex := 154, descriptorIndex := 155, attributes := #[] }, { accessFlags := 10, nameIndex := 217, descriptorIndex := 218, attributes := #[] }, { accessFlags := 10, nameIndex := 221, descriptorIndex := 222, attributes := #[] }, { accessFlags := 8, nameIndex := 562, descriptorIndex := 563, attributes := #[] }])
  fields := #[{ name := "in", type := (.object "java/io/InputStream"), accessFlags := 25, slot := 0, constantValue := 0 }, { name := "out", type := (.object "java/io/PrintStream"), accessFlags := 25, slot := 1, constantValue := 0 }, { name := "err", type := (.object "java/io/PrintStream"), accessFlags := 25, slot := 2, constantValue := 0 }, { name := "initialIn", type := (.object "java/io/InputStream"), accessFlags := 10, slot := 3, constantValue := 0 }, { name := "NEVER", type := .int, accessFlags := 26, slot := 4, constantValue := 0 }, { name := "MAYBE", type := .int, accessFlags := 26, slot := 5, constantValue := 0 }, { name := "allowSecurityManager", type := .int, accessFlags := 10, slot := 6, constantValue := 0 }, { name := "security", type := (.object "java/lang/SecurityManager"), accessFlags := 74, slot := 7, constantValue := 0 }, { name := "notSupportedJnuEncoding", type := (.object "java/lang/String"), accessFlags := 10, slot := 8, constantValue := 0 }, { name := "cons", type := (.object "java/io/Console"), accessFlags := 74, slot := 9, constantValue := 0 }, { name := "initialErrStream", type := (.object "java/io/PrintStream"), accessFlags := 74, slot := 10, constantValue := 0 }, { name := "props", type := (.object "java/util/Properties"), accessFlags := 10, slot := 11, constantValue := 0 }, { name := "lineSeparator", type := (.object "java/lang/String"), accessFlags := 10, slot := 12, constantValue := 0 }, { name := "bootLayer", type := (.object "java/lang/ModuleLayer"), accessFlags := 8, slot := 13, constantValue := 0 }]
  methods := #[k33m0, k33m1]
  instanceTypes := #[]
  staticTypes := #[(.object "java/io/InputStream"), (.object "java/io/PrintStream"), (.object "java/io/PrintStream"), (.object "java/io/InputStream"), .int, .int, .int, (.object "java/lang/SecurityManager"), (.object "java/lang/String"), (.object "java/io/Console"), (.object "java/io/PrintStream"), (.object "java/util/Properties"), (.object "java/lang/String"), (.object "java/lang/ModuleLayer")]
  resolved := Array.replicate 834 none
  statics := none }

def pool34 : Array CpInfo := pool [(1, u "java/lang/Class"), (0, .class_ 1), (0, u "java/lang/Object"), (0, .class_ 3)] 0

/-- java/lang/Class -/
def k34 : Class := { plain "java/lang/Class" (some 0) with
  accessFlags := 49
  interfaces := #[]
  cf := some (fileOf pool34 2 #[] #[] 49 4 #[] #[])
  fields := #[]
  methods := #[]
  instanceTypes := #[]
  staticTypes := #[]
  resolved := Array.replicate 5 none
  statics := none }

/-- the primitive byte -/
def k35 : Class := { plain "byte" none with kind := .primitive 'B', accessFlags := 0x411 }
/-- [B -/
def k36 : Class := { plain "[B" (some 0) with kind := .array 35 .byte, interfaces := #[21, 7], accessFlags := 1041 }

/-- the primitive int -/
def k37 : Class := { plain "int" none with kind := .primitive 'I', accessFlags := 0x411 }
/-- [I -/
def k38 : Class := { plain "[I" (some 0) with kind := .array 37 .int, interfaces := #[21, 7], accessFlags := 1041 }

/-- [Ljava/lang/Object; -/
def k39 : Class := { plain "[Ljava/lang/Object;" (some 0) with kind := .array 0 (.object "java/lang/Object"), interfaces := #[21, 7], accessFlags := 1041, mirror := some 4 }

def heap : Heap := #[{ cls := 9, slots := #[.ref 7, .null, .null, .null, .null, .null, .null, .null, .null, .null], vm := .statics 9 },
  { cls := 22, slots := #[.long 0, .int 0, .ref 9, .ref 10], vm := .statics 22 },
  { cls := 23, slots := #[.long 0, .int 0, .null, .ref 11, .ref 6, .null, .null, .null, .int 0, .int 1], vm := .statics 23 },
  { cls := 29, slots := #[.null, .ref 8, .null, .null], vm := .statics 29 },
  { cls := 34, slots := #[], vm := .mirror 39 },
  { cls := 39, slots := #[], vm := .none },
  { cls := 27, slots := #[.ref 5, .int 0], vm := .none },
  { cls := 9, slots := #[.null, .int 0, .int 0], vm := .none },
  { cls := 29, slots := #[.null, .int 1, .int 0], vm := .none },
  { cls := 39, slots := #[], vm := .none },
  { cls := 39, slots := #[], vm := .none },
  { cls := 0, slots := #[], vm := .none }]
def classes : Array Class := #[k0, k1, k2, k3, k4, k5, k6, k7, k8, k9, k10, k11, k12, k13, k14, k15, k16, k17, k18, k19, k20, k21, k22, k23, k24, k25, k26, k27, k28, k29, k30, k31, k32, k33, k34, k35, k36, k37, k38, k39]
def interned : List (Array UInt16 × Addr) := []
def slotsUsed : Nat := 36
def theMethod : MethodId := ⟨1, 1⟩
def args0 : Array Value := #[.int 1, .int 5, .int 3]
def aboutOver (below : List Frame) : State where
  vm := { classes := classes, interned := interned.toArray }
  heap := heap
  slotsUsed := slotsUsed
  threads := #[{ frames := .invoking theMethod args0 :: below }]
def below0 : List Frame := [.native { method := ⟨0, 0⟩, args := #[] }]
def about1 : State := aboutOver below0
def p0 : Program := .bare "" "" ""
def e0 : Env := launch0.env 0 0 0
theorem w_frames : about1.frames = Frame.invoking theMethod args0 :: below0 := rfl
set_option maxRecDepth 65536 in
theorem w_args : argsFit about1.vm theMethod args0 = true := by decide +kernel
set_option maxRecDepth 65536 in
theorem w_heap : heapFits about1 = true := by decide +kernel
set_option maxRecDepth 65536 in
theorem w_runnable : about1.curStatus? = some .runnable := by decide +kernel
set_option maxRecDepth 65536 in
theorem w_alone : about1.alone = true := by decide +kernel
set_option maxRecDepth 65536 in
theorem w_named : about1.methodNamed? x = some theMethod := by decide +kernel
set_option maxRecDepth 65536 in
theorem w_hears : about1.hears theMethod below0 = true := by decide +kernel
set_option maxRecDepth 65536 in
theorem w_ripe : about1.ripe theMethod args0 below0 = true := by decide +kernel
theorem w_running : about1.status = .running := rfl
set_option maxRecDepth 65536 in
theorem w_room : about1.hasRoom e0.platform room_1 = true :=
  launch0.hasRoom_least _ room_1 (by decide +kernel) (by decide +kernel) (by decide +kernel) (by decide +kernel) (by decide +kernel) (by decide +kernel)
theorem allAtoms_all (ts : List Jvm.Cond) (a : Array Jvm.Value) (st : Jvm.State) : (allAtoms ts).before a st = ts.all (fun c => c.before a st) := by
  induction ts with
  | nil => rfl
  | cons c t ih =>
    show (Jvm.Cond.and c (allAtoms t)).before a st = _
    rw [Jvm.Cond.before_and, ih, List.all_cons]
def words1 : List Jvm.Cond := Jvm.Cond.code x code maxLocals ret :: tables_1
/-- a 'code' word, met by the world's own term for the bytes: nothing is compared byte by byte -/
theorem code_word {y : MethodName} {bytes : ByteArray} {mx : Nat} {rt : Option FieldType} {a : Array Value} {s : State} {m : MethodId} {meth : Method} {c : Code} (h1 : s.methodNamed? y = some m) (h2 : s.vm.method? m = some meth) (h3 : meth.code = some c) (h4 : c.code = bytes)
    (h5 : (c.maxLocals == mx && c.exceptionTable.isEmpty && decide (c.maxStack ≤ mostOperands) && decide (meth.sig.returnType = rt) && !meth.locks && decide (parseMethodDescriptor y.desc = some meth.sig)) = true) : (Jvm.Cond.code y bytes mx rt).before a s = true := by
  simp only [Bool.and_eq_true, beq_iff_eq, Bool.not_eq_true', decide_eq_true_eq] at h5
  obtain ⟨⟨⟨⟨⟨g1, g2⟩, g3⟩, g4⟩, g5⟩, g6⟩ := h5
  simp [Cond.before, Cond.holds, Cond.value, h1, h2, h3, h4, g1, g2, g3, g4, g5, g6]
def isCode : Jvm.Cond → Bool
  | .code _ _ _ _ => true
  | _ => false
theorem all_split {L : List Jvm.Cond} {P : Jvm.Cond → Bool} (h1 : L.all (fun c => isCode c || P c) = true) (h2 : ∀ c ∈ L.filter isCode, P c = true) : L.all P = true := by
  refine List.all_eq_true.mpr fun c hc => ?_
  have h := List.all_eq_true.mp h1 c hc
  rcases Bool.eq_false_or_eq_true (isCode c) with hi | hi
  · exact h2 c (List.mem_filter.mpr ⟨hc, hi⟩)
  · simpa [hi] using h
set_option maxRecDepth 65536 in
theorem w_c0 : (Jvm.Cond.code x code maxLocals ret).before args0 about1 = true := code_word (m := ⟨1, 1⟩) (meth := k1m1) (c := k1c1) (by decide +kernel) rfl rfl rfl (by decide +kernel)
set_option maxRecDepth 65536 in
theorem w_c1 : (Jvm.Cond.code ({ cls := "com/example/refleash/refleash/heap/Trace$Root", name := "<init>", desc := "(Lcom/example/refleash/refleash/heap/Trace$Root$Kind;Ljava/lang/String;Ljava/lang/String;Ljava/lang/String;)V" } : Jvm.MethodName) prog_52_method_1_code (5 : Nat) (Option.none : Option Jvm.ClassFile.FieldType)).before args0 about1 = true := code_word (m := ⟨4, 0⟩) (meth := k4m0) (c := k4c0) (by decide +kernel) rfl rfl rfl (by decide +kernel)
set_option maxRecDepth 65536 in
theorem w_c2 : (Jvm.Cond.code ({ cls := "java/lang/Record", name := "<init>", desc := "()V" } : Jvm.MethodName) jdk_30_method_1_code (1 : Nat) (Option.none : Option Jvm.ClassFile.FieldType)).before args0 about1 = true := code_word (m := ⟨2, 0⟩) (meth := k2m0) (c := k2c0) (by decide +kernel) rfl rfl rfl (by decide +kernel)
set_option maxRecDepth 65536 in
theorem w_c3 : (Jvm.Cond.code ({ cls := "java/lang/Object", name := "<init>", desc := "()V" } : Jvm.MethodName) object_method_1_code (1 : Nat) (Option.none : Option Jvm.ClassFile.FieldType)).before args0 about1 = true := code_word (m := ⟨0, 0⟩) (meth := k0m0) (c := k0c0) (by decide +kernel) rfl rfl rfl (by decide +kernel)
set_option maxRecDepth 65536 in
theorem w_c4 : (Jvm.Cond.code ({ cls := "java/util/Objects", name := "requireNonNull", desc := "(Ljava/lang/Object;)Ljava/lang/Object;" } : Jvm.MethodName) jdk_31_method_10_code (1 : Nat) (Option.some (Jvm.ClassFile.FieldType.object "java/lang/Object"))).before args0 about1 = true := code_word (m := ⟨13, 1⟩) (meth := k13m1) (c := k13c1) (by decide +kernel) rfl rfl rfl (by decide +kernel)
set_option maxRecDepth 65536 in
theorem w_c5 : (Jvm.Cond.code ({ cls := "java/util/ArrayList", name := "<init>", desc := "()V" } : Jvm.MethodName) jdk_38_method_2_code (1 : Nat) (Option.none : Option Jvm.ClassFile.FieldType)).before args0 about1 = true := code_word (m := ⟨22, 0⟩) (meth := k22m0) (c := k22c0) (by decide +kernel) rfl rfl rfl (by decide +kernel)
set_option maxRecDepth 65536 in
theorem w_c6 : (Jvm.Cond.code ({ cls := "java/util/AbstractList", name := "<init>", desc := "()V" } : Jvm.MethodName) jdk_39_method_1_code (1 : Nat) (Option.none : Option Jvm.ClassFile.FieldType)).before args0 about1 = true := code_word (m := ⟨19, 0⟩) (meth := k19m0) (c := k19c0) (by decide +kernel) rfl rfl rfl (by decide +kernel)
set_option maxRecDepth 65536 in
theorem w_c7 : (Jvm.Cond.code ({ cls := "java/util/AbstractCollection", name := "<init>", desc := "()V" } : Jvm.MethodName) jdk_22_method_1_code (1 : Nat) (Option.none : Option Jvm.ClassFile.FieldType)).before args0 about1 = true := code_word (m := ⟨16, 0⟩) (meth := k16m0) (c := k16c0) (by decide +kernel) rfl rfl rfl (by decide +kernel)
set_option maxRecDepth 65536 in
theorem w_c8 : (Jvm.Cond.code ({ cls := "com/example/refleash/refleash/heap/Trace", name := "<init>", desc := "(JLcom/example/refleash/refleash/heap/Trace$Root;Ljava/util/List;JJ)V" } : Jvm.MethodName) prog_49_method_1_code (9 : Nat) (Option.none : Option Jvm.ClassFile.FieldType)).before args0 about1 = true := code_word (m := ⟨3, 0⟩) (meth := k3m0) (c := k3c0) (by decide +kernel) rfl rfl rfl (by decide +kernel)
set_option maxRecDepth 65536 in
theorem w_c9 : (Jvm.Cond.code ({ cls := "java/util/List", name := "copyOf", desc := "(Ljava/util/Collection;)Ljava/util/List;" } : Jvm.MethodName) jdk_40_method_48_code (1 : Nat) (Option.some (Jvm.ClassFile.FieldType.object "java/util/List"))).before args0 about1 = true := code_word (m := ⟨18, 3⟩) (meth := k18m3) (c := k18c3) (by decide +kernel) rfl rfl rfl (by decide +kernel)
set_option maxRecDepth 65536 in
theorem w_c10 : (Jvm.Cond.code ({ cls := "java/util/ImmutableCollections", name := "listCopy", desc := "(Ljava/util/Collection;)Ljava/util/List;" } : Jvm.MethodName) jdk_56_method_3_code (2 : Nat) (Option.some (Jvm.ClassFile.FieldType.object "java/util/List"))).before args0 about1 = true := code_word (m := ⟨23, 1⟩) (meth := k23m1) (c := k23c1) (by decide +kernel) rfl rfl rfl (by decide +kernel)
set_option maxRecDepth 65536 in
theorem w_c11 : (Jvm.Cond.code ({ cls := "java/util/ArrayList", name := "isEmpty", desc := "()Z" } : Jvm.MethodName) jdk_38_method_9_code (1 : Nat) (Option.some Jvm.ClassFile.FieldType.boolean)).before args0 about1 = true := code_word (m := ⟨22, 3⟩) (meth := k22m3) (c := k22c3) (by decide +kernel) rfl rfl rfl (by decide +kernel)
set_option maxRecDepth 65536 in
theorem w_c12 : (Jvm.Cond.code ({ cls := "java/util/List", name := "of", desc := "()Ljava/util/List;" } : Jvm.MethodName) jdk_40_method_36_code (0 : Nat) (Option.some (Jvm.ClassFile.FieldType.object "java/util/List"))).before args0 about1 = true := code_word (m := ⟨18, 1⟩) (meth := k18m1) (c := k18c1) (by decide +kernel) rfl rfl rfl (by decide +kernel)
set_option maxRecDepth 65536 in
theorem w_c13 : (Jvm.Cond.code ({ cls := "com/example/refleash/refleash/heap/Leak$Node", name := "<init>", desc := "(Ljava/lang/String;Lcom/example/refleash/refleash/heap/Leak$Status;Ljava/lang/String;)V" } : Jvm.MethodName) prog_34_method_1_code (4 : Nat) (Option.none : Option Jvm.ClassFile.FieldType)).before args0 about1 = true := code_word (m := ⟨28, 0⟩) (meth := k28m0) (c := k28c0) (by decide +kernel) rfl rfl rfl (by decide +kernel)
set_option maxRecDepth 65536 in
theorem w_c14 : (Jvm.Cond.code ({ cls := "java/util/ArrayList", name := "add", desc := "(Ljava/lang/Object;)Z" } : Jvm.MethodName) jdk_38_method_25_code (2 : Nat) (Option.some Jvm.ClassFile.FieldType.boolean)).before args0 about1 = true := code_word (m := ⟨22, 6⟩) (meth := k22m6) (c := k22c6) (by decide +kernel) rfl rfl rfl (by decide +kernel)
set_option maxRecDepth 65536 in
theorem w_c15 : (Jvm.Cond.code ({ cls := "java/util/ArrayList", name := "add", desc := "(Ljava/lang/Object;[Ljava/lang/Object;I)V" } : Jvm.MethodName) jdk_38_method_24_code (4 : Nat) (Option.none : Option Jvm.ClassFile.FieldType)).before args0 about1 = true := code_word (m := ⟨22, 5⟩) (meth := k22m5) (c := k22c5) (by decide +kernel) rfl rfl rfl (by decide +kernel)
set_option maxRecDepth 65536 in
theorem w_c16 : (Jvm.Cond.code ({ cls := "java/util/ArrayList", name := "grow", desc := "()[Ljava/lang/Object;" } : Jvm.MethodName) jdk_38_method_7_code (1 : Nat) (Option.some (Jvm.ClassFile.FieldType.array (Jvm.ClassFile.FieldType.object "java/lang/Object")))).before args0 about1 = true := code_word (m := ⟨22, 2⟩) (meth := k22m2) (c := k22c2) (by decide +kernel) rfl rfl rfl (by decide +kernel)
set_option maxRecDepth 65536 in
theorem w_c17 : (Jvm.Cond.code ({ cls := "java/util/ArrayList", name := "grow", desc := "(I)[Ljava/lang/Object;" } : Jvm.MethodName) jdk_38_method_6_code (4 : Nat) (Option.some (Jvm.ClassFile.FieldType.array (Jvm.ClassFile.FieldType.object "java/lang/Object")))).before args0 about1 = true := code_word (m := ⟨22, 1⟩) (meth := k22m1) (c := k22c1) (by decide +kernel) rfl rfl rfl (by decide +kernel)
set_option maxRecDepth 65536 in
theorem w_c18 : (Jvm.Cond.code ({ cls := "java/lang/Math", name := "max", desc := "(II)I" } : Jvm.MethodName) jdk_29_method_65_code (2 : Nat) (Option.some Jvm.ClassFile.FieldType.int)).before args0 about1 = true := code_word (m := ⟨30, 1⟩) (meth := k30m1) (c := k30c1) (by decide +kernel) rfl rfl rfl (by decide +kernel)
set_option maxRecDepth 65536 in
theorem w_c19 : (Jvm.Cond.code ({ cls := "com/example/refleash/refleash/heap/Leak", name := "<init>", desc := "(Ljava/lang/String;JLcom/example/refleash/refleash/heap/Trace;Ljava/util/List;IILjava/util/List;)V" } : Jvm.MethodName) prog_33_method_1_code (9 : Nat) (Option.none : Option Jvm.ClassFile.FieldType)).before args0 about1 = true := code_word (m := ⟨31, 0⟩) (meth := k31m0) (c := k31c0) (by decide +kernel) rfl rfl rfl (by decide +kernel)
set_option maxRecDepth 65536 in
theorem w_c20 : (Jvm.Cond.code ({ cls := "java/util/ArrayList", name := "toArray", desc := "()[Ljava/lang/Object;" } : Jvm.MethodName) jdk_38_method_16_code (1 : Nat) (Option.some (Jvm.ClassFile.FieldType.array (Jvm.ClassFile.FieldType.object "java/lang/Object")))).before args0 about1 = true := code_word (m := ⟨22, 4⟩) (meth := k22m4) (c := k22c4) (by decide +kernel) rfl rfl rfl (by decide +kernel)
set_option maxRecDepth 65536 in
theorem w_c21 : (Jvm.Cond.code ({ cls := "java/util/Arrays", name := "copyOf", desc := "([Ljava/lang/Object;I)[Ljava/lang/Object;" } : Jvm.MethodName) jdk_65_method_119_code (2 : Nat) (Option.some (Jvm.ClassFile.FieldType.array (Jvm.ClassFile.FieldType.object "java/lang/Object")))).before args0 about1 = true := code_word (m := ⟨32, 1⟩) (meth := k32m1) (c := k32c1) (by decide +kernel) rfl rfl rfl (by decide +kernel)
set_option maxRecDepth 65536 in
theorem w_c22 : (Jvm.Cond.code ({ cls := "java/util/Arrays", name := "copyOf", desc := "([Ljava/lang/Object;ILjava/lang/Class;)[Ljava/lang/Object;" } : Jvm.MethodName) jdk_65_method_120_code (4 : Nat) (Option.some (Jvm.ClassFile.FieldType.array (Jvm.ClassFile.FieldType.object "java/lang/Object")))).before args0 about1 = true := code_word (m := ⟨32, 2⟩) (meth := k32m2) (c := k32c2) (by decide +kernel) rfl rfl rfl (by decide +kernel)
set_option maxRecDepth 65536 in
theorem w_c23 : (Jvm.Cond.code ({ cls := "java/lang/Math", name := "min", desc := "(II)I" } : Jvm.MethodName) jdk_29_method_69_code (2 : Nat) (Option.some Jvm.ClassFile.FieldType.int)).before args0 about1 = true := code_word (m := ⟨30, 2⟩) (meth := k30m2) (c := k30c2) (by decide +kernel) rfl rfl rfl (by decide +kernel)
set_option maxRecDepth 65536 in
theorem w_c24 : (Jvm.Cond.code ({ cls := "java/util/List", name := "of", desc := "([Ljava/lang/Object;)Ljava/util/List;" } : Jvm.MethodName) jdk_40_method_47_code (2 : Nat) (Option.some (Jvm.ClassFile.FieldType.object "java/util/List"))).before args0 about1 = true := code_word (m := ⟨18, 2⟩) (meth := k18m2) (c := k18c2) (by decide +kernel) rfl rfl rfl (by decide +kernel)
set_option maxRecDepth 65536 in
theorem w_c25 : (Jvm.Cond.code ({ cls := "java/util/ImmutableCollections$List12", name := "<init>", desc := "(Ljava/lang/Object;)V" } : Jvm.MethodName) jdk_44_method_1_code (2 : Nat) (Option.none : Option Jvm.ClassFile.FieldType)).before args0 about1 = true := code_word (m := ⟨26, 0⟩) (meth := k26m0) (c := k26c0) (by decide +kernel) rfl rfl rfl (by decide +kernel)
set_option maxRecDepth 65536 in
theorem w_c26 : (Jvm.Cond.code ({ cls := "java/util/ImmutableCollections$AbstractImmutableList", name := "<init>", desc := "()V" } : Jvm.MethodName) jdk_46_method_1_code (1 : Nat) (Option.none : Option Jvm.ClassFile.FieldType)).before args0 about1 = true := code_word (m := ⟨25, 0⟩) (meth := k25m0) (c := k25c0) (by decide +kernel) rfl rfl rfl (by decide +kernel)
set_option maxRecDepth 65536 in
theorem w_c27 : (Jvm.Cond.code ({ cls := "java/util/ImmutableCollections$AbstractImmutableCollection", name := "<init>", desc := "()V" } : Jvm.MethodName) jdk_47_method_1_code (1 : Nat) (Option.none : Option Jvm.ClassFile.FieldType)).before args0 about1 = true := code_word (m := ⟨24, 0⟩) (meth := k24m0) (c := k24c0) (by decide +kernel) rfl rfl rfl (by decide +kernel)
set_option maxRecDepth 65536 in
theorem w_c28 : (Jvm.Cond.code ({ cls := "java/util/ImmutableCollections$List12", name := "size", desc := "()I" } : Jvm.MethodName) jdk_44_method_3_code (1 : Nat) (Option.some Jvm.ClassFile.FieldType.int)).before args0 about1 = true := code_word (m := ⟨26, 1⟩) (meth := k26m1) (c := k26c1) (by decide +kernel) rfl rfl rfl (by decide +kernel)
set_option maxRecDepth 65536 in
theorem w_c29 : (Jvm.Cond.code ({ cls := "com/example/refleash/refleash/heap/Trace", name := "hops", desc := "()Ljava/util/List;" } : Jvm.MethodName) prog_49_method_7_code (1 : Nat) (Option.some (Jvm.ClassFile.FieldType.object "java/util/List"))).before args0 about1 = true := code_word (m := ⟨3, 1⟩) (meth := k3m1) (c := k3c1) (by decide +kernel) rfl rfl rfl (by decide +kernel)
set_option maxRecDepth 65536 in
theorem w_c30 : (Jvm.Cond.code ({ cls := "java/util/ImmutableCollections$ListN", name := "size", desc := "()I" } : Jvm.MethodName) jdk_45_method_3_code (1 : Nat) (Option.some Jvm.ClassFile.FieldType.int)).before args0 about1 = true := code_word (m := ⟨27, 0⟩) (meth := k27m0) (c := k27c0) (by decide +kernel) rfl rfl rfl (by decide +kernel)
set_option maxRecDepth 65536 in
theorem w_c31 : (Jvm.Cond.code ({ cls := "com/example/refleash/refleash/heap/Leak", name := "isSuspect", desc := "(I)Z" } : Jvm.MethodName) prog_33_method_3_code (2 : Nat) (Option.some Jvm.ClassFile.FieldType.boolean)).before args0 about1 = true := code_word (m := ⟨31, 1⟩) (meth := k31m1) (c := k31c1) (by decide +kernel) rfl rfl rfl (by decide +kernel)
def codes1 : List Jvm.Cond := [Jvm.Cond.code x code maxLocals ret, Jvm.Cond.code ({ cls := "com/example/refleash/refleash/heap/Trace$Root", name := "<init>", desc := "(Lcom/example/refleash/refleash/heap/Trace$Root$Kind;Ljava/lang/String;Ljava/lang/String;Ljava/lang/String;)V" } : Jvm.MethodName) prog_52_method_1_code (5 : Nat) (Option.none : Option Jvm.ClassFile.FieldType), Jvm.Cond.code ({ cls := "java/lang/Record", name := "<init>", desc := "()V" } : Jvm.MethodName) jdk_30_method_1_code (1 : Nat) (Option.none : Option Jvm.ClassFile.FieldType), Jvm.Cond.code ({ cls := "java/lang/Object", name := "<init>", desc := "()V" } : Jvm.MethodName) object_method_1_code (1 : Nat) (Option.none : Option Jvm.ClassFile.FieldType), Jvm.Cond.code ({ cls := "java/util/Objects", name := "requireNonNull", desc := "(Ljava/lang/Object;)Ljava/lang/Object;" } : Jvm.MethodName) jdk_31_method_10_code (1 : Nat) (Option.some (Jvm.ClassFile.FieldType.object "java/lang/Object")), Jvm.Cond.code ({ cls := "java/util/ArrayList", name := "<init>", desc := "()V" } : Jvm.MethodName) jdk_38_method_2_code (1 : Nat) (Option.none : Option Jvm.ClassFile.FieldType), Jvm.Cond.code ({ cls := "java/util/AbstractList", name := "<init>", desc := "()V" } : Jvm.MethodName) jdk_39_method_1_code (1 : Nat) (Option.none : Option Jvm.ClassFile.FieldType), Jvm.Cond.code ({ cls := "java/util/AbstractCollection", name := "<init>", desc := "()V" } : Jvm.MethodName) jdk_22_method_1_code (1 : Nat) (Option.none : Option Jvm.ClassFile.FieldType), Jvm.Cond.code ({ cls := "com/example/refleash/refleash/heap/Trace", name := "<init>", desc := "(JLcom/example/refleash/refleash/heap/Trace$Root;Ljava/util/List;JJ)V" } : Jvm.MethodName) prog_49_method_1_code (9 : Nat) (Option.none : Option Jvm.ClassFile.FieldType), Jvm.Cond.code ({ cls := "java/util/List", name := "copyOf", desc := "(Ljava/util/Collection;)Ljava/util/List;" } : Jvm.MethodName) jdk_40_method_48_code (1 : Nat) (Option.some (Jvm.ClassFile.FieldType.object "java/util/List")), Jvm.Cond.code ({ cls := "java/util/ImmutableCollections", name := "listCopy", desc := "(Ljava/util/Collection;)Ljava/util/List;" } : Jvm.MethodName) jdk_56_method_3_code (2 : Nat) (Option.some (Jvm.ClassFile.FieldType.object "java/util/List")), Jvm.Cond.code ({ cls := "java/util/ArrayList", name := "isEmpty", desc := "()Z" } : Jvm.MethodName) jdk_38_method_9_code (1 : Nat) (Option.some Jvm.ClassFile.FieldType.boolean), Jvm.Cond.code ({ cls := "java/util/List", name := "of", desc := "()Ljava/util/List;" } : Jvm.MethodName) jdk_40_method_36_code (0 : Nat) (Option.some (Jvm.ClassFile.FieldType.object "java/util/List")), Jvm.Cond.code ({ cls := "com/example/refleash/refleash/heap/Leak$Node", name := "<init>", desc := "(Ljava/lang/String;Lcom/example/refleash/refleash/heap/Leak$Status;Ljava/lang/String;)V" } : Jvm.MethodName) prog_34_method_1_code (4 : Nat) (Option.none : Option Jvm.ClassFile.FieldType), Jvm.Cond.code ({ cls := "java/util/ArrayList", name := "add", desc := "(Ljava/lang/Object;)Z" } : Jvm.MethodName) jdk_38_method_25_code (2 : Nat) (Option.some Jvm.ClassFile.FieldType.boolean), Jvm.Cond.code ({ cls := "java/util/ArrayList", name := "add", desc := "(Ljava/lang/Object;[Ljava/lang/Object;I)V" } : Jvm.MethodName) jdk_38_method_24_code (4 : Nat) (Option.none : Option Jvm.ClassFile.FieldType), Jvm.Cond.code ({ cls := "java/util/ArrayList", name := "grow", desc := "()[Ljava/lang/Object;" } : Jvm.MethodName) jdk_38_method_7_code (1 : Nat) (Option.some (Jvm.ClassFile.FieldType.array (Jvm.ClassFile.FieldType.object "java/lang/Object"))), Jvm.Cond.code ({ cls := "java/util/ArrayList", name := "grow", desc := "(I)[Ljava/lang/Object;" } : Jvm.MethodName) jdk_38_method_6_code (4 : Nat) (Option.some (Jvm.ClassFile.FieldType.array (Jvm.ClassFile.FieldType.object "java/lang/Object"))), Jvm.Cond.code ({ cls := "java/lang/Math", name := "max", desc := "(II)I" } : Jvm.MethodName) jdk_29_method_65_code (2 : Nat) (Option.some Jvm.ClassFile.FieldType.int), Jvm.Cond.code ({ cls := "com/example/refleash/refleash/heap/Leak", name := "<init>", desc := "(Ljava/lang/String;JLcom/example/refleash/refleash/heap/Trace;Ljava/util/List;IILjava/util/List;)V" } : Jvm.MethodName) prog_33_method_1_code (9 : Nat) (Option.none : Option Jvm.ClassFile.FieldType), Jvm.Cond.code ({ cls := "java/util/ArrayList", name := "toArray", desc := "()[Ljava/lang/Object;" } : Jvm.MethodName) jdk_38_method_16_code (1 : Nat) (Option.some (Jvm.ClassFile.FieldType.array (Jvm.ClassFile.FieldType.object "java/lang/Object"))), Jvm.Cond.code ({ cls := "java/util/Arrays", name := "copyOf", desc := "([Ljava/lang/Object;I)[Ljava/lang/Object;" } : Jvm.MethodName) jdk_65_method_119_code (2 : Nat) (Option.some (Jvm.ClassFile.FieldType.array (Jvm.ClassFile.FieldType.object "java/lang/Object"))), Jvm.Cond.code ({ cls := "java/util/Arrays", name := "copyOf", desc := "([Ljava/lang/Object;ILjava/lang/Class;)[Ljava/lang/Object;" } : Jvm.MethodName) jdk_65_method_120_code (4 : Nat) (Option.some (Jvm.ClassFile.FieldType.array (Jvm.ClassFile.FieldType.object "java/lang/Object"))), Jvm.Cond.code ({ cls := "java/lang/Math", name := "min", desc := "(II)I" } : Jvm.MethodName) jdk_29_method_69_code (2 : Nat) (Option.some Jvm.ClassFile.FieldType.int), Jvm.Cond.code ({ cls := "java/util/List", name := "of", desc := "([Ljava/lang/Object;)Ljava/util/List;" } : Jvm.MethodName) jdk_40_method_47_code (2 : Nat) (Option.some (Jvm.ClassFile.FieldType.object "java/util/List")), Jvm.Cond.code ({ cls := "java/util/ImmutableCollections$List12", name := "<init>", desc := "(Ljava/lang/Object;)V" } : Jvm.MethodName) jdk_44_method_1_code (2 : Nat) (Option.none : Option Jvm.ClassFile.FieldType), Jvm.Cond.code ({ cls := "java/util/ImmutableCollections$AbstractImmutableList", name := "<init>", desc := "()V" } : Jvm.MethodName) jdk_46_method_1_code (1 : Nat) (Option.none : Option Jvm.ClassFile.FieldType), Jvm.Cond.code ({ cls := "java/util/ImmutableCollections$AbstractImmutableCollection", name := "<init>", desc := "()V" } : Jvm.MethodName) jdk_47_method_1_code (1 : Nat) (Option.none : Option Jvm.ClassFile.FieldType), Jvm.Cond.code ({ cls := "java/util/ImmutableCollections$List12", name := "size", desc := "()I" } : Jvm.MethodName) jdk_44_method_3_code (1 : Nat) (Option.some Jvm.ClassFile.FieldType.int), Jvm.Cond.code ({ cls := "com/example/refleash/refleash/heap/Trace", name := "hops", desc := "()Ljava/util/List;" } : Jvm.MethodName) prog_49_method_7_code (1 : Nat) (Option.some (Jvm.ClassFile.FieldType.object "java/util/List")), Jvm.Cond.code ({ cls := "java/util/ImmutableCollections$ListN", name := "size", desc := "()I" } : Jvm.MethodName) jdk_45_method_3_code (1 : Nat) (Option.some Jvm.ClassFile.FieldType.int), Jvm.Cond.code ({ cls := "com/example/refleash/refleash/heap/Leak", name := "isSuspect", desc := "(I)Z" } : Jvm.MethodName) prog_33_method_3_code (2 : Nat) (Option.some Jvm.ClassFile.FieldType.boolean)]
set_option maxRecDepth 65536 in
theorem codes_eq : words1.filter isCode = codes1 := rfl
theorem w_codes : ∀ c ∈ words1.filter isCode, c.before args0 about1 = true := by
  rw [codes_eq]
  intro c hc
  simp only [codes1, List.mem_cons, List.not_mem_nil, or_false] at hc
  rcases hc with rfl | rfl | rfl | rfl | rfl | rfl | rfl | rfl | rfl | rfl | rfl | rfl | rfl | rfl | rfl | rfl | rfl | rfl | rfl | rfl | rfl | rfl | rfl | rfl | rfl | rfl | rfl | rfl | rfl | rfl | rfl | rfl
  · exact w_c0
  · exact w_c1
  · exact w_c2
  · exact w_c3
  · exact w_c4
  · exact w_c5
  · exact w_c6
  · exact w_c7
  · exact w_c8
  · exact w_c9
  · exact w_c10
  · exact w_c11
  · exact w_c12
  · exact w_c13
  · exact w_c14
  · exact w_c15
  · exact w_c16
  · exact w_c17
  · exact w_c18
  · exact w_c19
  · exact w_c20
  · exact w_c21
  · exact w_c22
  · exact w_c23
  · exact w_c24
  · exact w_c25
  · exact w_c26
  · exact w_c27
  · exact w_c28
  · exact w_c29
  · exact w_c30
  · exact w_c31
set_option maxRecDepth 65536 in
theorem w_t1 : (words1.take 24).all (fun c => isCode c || c.before args0 about1) = true := by decide +kernel
set_option maxRecDepth 65536 in
theorem w_t2 : ((words1.drop 24).take 24).all (fun c => isCode c || c.before args0 about1) = true := by decide +kernel
set_option maxRecDepth 65536 in
theorem w_t3 : (((words1.drop 24).drop 24).take 24).all (fun c => isCode c || c.before args0 about1) = true := by decide +kernel
set_option maxRecDepth 65536 in
theorem w_t4 : ((((words1.drop 24).drop 24).drop 24).take 24).all (fun c => isCode c || c.before args0 about1) = true := by decide +kernel
set_option maxRecDepth 65536 in
theorem w_t5 : (((((words1.drop 24).drop 24).drop 24).drop 24).take 24).all (fun c => isCode c || c.before args0 about1) = true := by decide +kernel
set_option maxRecDepth 65536 in
theorem w_t6 : ((((((words1.drop 24).drop 24).drop 24).drop 24).drop 24).take 24).all (fun c => isCode c || c.before args0 about1) = true := by decide +kernel
set_option maxRecDepth 65536 in
theorem w_t7 : (((((((words1.drop 24).drop 24).drop 24).drop 24).drop 24).drop 24).take 24).all (fun c => isCode c || c.before args0 about1) = true := by decide +kernel
set_option maxRecDepth 65536 in
theorem w_t8 : ((((((((words1.drop 24).drop 24).drop 24).drop 24).drop 24).drop 24).drop 24).take 24).all (fun c => isCode c || c.before args0 about1) = true := by decide +kernel
set_option maxRecDepth 65536 in
theorem w_t9 : (((((((((words1.drop 24).drop 24).drop 24).drop 24).drop 24).drop 24).drop 24).drop 24).take 24).all (fun c => isCode c || c.before args0 about1) = true := by decide +kernel
set_option maxRecDepth 65536 in
theorem w_t10 : ((((((((((words1.drop 24).drop 24).drop 24).drop 24).drop 24).drop 24).drop 24).drop 24).drop 24).take 24).all (fun c => isCode c || c.before args0 about1) = true := by decide +kernel
set_option maxRecDepth 65536 in
theorem w_t11 : (((((((((((words1.drop 24).drop 24).drop 24).drop 24).drop 24).drop 24).drop 24).drop 24).drop 24).drop 24).take 24).all (fun c => isCode c || c.before args0 about1) = true := by decide +kernel
set_option maxRecDepth 65536 in
theorem w_t12 : (((((((((((words1.drop 24).drop 24).drop 24).drop 24).drop 24).drop 24).drop 24).drop 24).drop 24).drop 24).drop 24).all (fun c => isCode c || c.before args0 about1) = true := by decide +kernel
theorem w_tables : (allAtoms (Jvm.Cond.code x code maxLocals ret :: tables_1)).before args0 about1 = true := by
  rw [allAtoms_all]
  show words1.all (fun c => c.before args0 about1) = true
  refine all_split ?_ w_codes
  rw [← List.take_append_drop 24 words1, List.all_append, w_t1, ← List.take_append_drop 24 (words1.drop 24), List.all_append, w_t2, ← List.take_append_drop 24 ((words1.drop 24).drop 24), List.all_append, w_t3, ← List.take_append_drop 24 (((words1.drop 24).drop 24).drop 24), List.all_append, w_t4, ← List.take_append_drop 24 ((((words1.drop 24).drop 24).drop 24).drop 24), List.all_append, w_t5, ← List.take_append_drop 24 (((((words1.drop 24).drop 24).drop 24).drop 24).drop 24), List.all_append, w_t6, ← List.take_append_drop 24 ((((((words1.drop 24).drop 24).drop 24).drop 24).drop 24).drop 24), List.all_append, w_t7, ← List.take_append_drop 24 (((((((words1.drop 24).drop 24).drop 24).drop 24).drop 24).drop 24).drop 24), List.all_append, w_t8, ← List.take_append_drop 24 ((((((((words1.drop 24).drop 24).drop 24).drop 24).drop 24).drop 24).drop 24).drop 24), List.all_append, w_t9, ← List.take_append_drop 24 (((((((((words1.drop 24).drop 24).drop 24).drop 24).drop 24).drop 24).drop 24).drop 24).drop 24), List.all_append, w_t10, ← List.take_append_drop 24 ((((((((((words1.drop 24).drop 24).drop 24).drop 24).drop 24).drop 24).drop 24).drop 24).drop 24).drop 24), List.all_append, w_t11, w_t12]
  rfl
set_option maxRecDepth 65536 in
theorem w_rest : rest_1_c.before args0 about1 = true := by decide +kernel
set_option maxRecDepth 65536 in
theorem w_case : (Jvm.Cond.and given_1 narrow_1).before args0 about1 = true := by decide +kernel
theorem w_applies : (headSpec (Jvm.Cond.code x code maxLocals ret :: tables_1) room_1).applies x e0.platform about1 = true :=
  (Spec.applies_iff w_frames).mpr ⟨w_running, w_runnable, w_alone, w_named, w_hears, w_ripe, w_room, w_tables⟩
theorem atStart : AtStart classFile x code maxLocals ret World_1 tables_1 room_1 Calls_1 rest_1 Pre_1 launch0 p0 e0 about1 theMethod args0 below0 :=
  ⟨lists_1, trivial, launch0.admits_env _ _ _, launch0.least_env, fairChoices_fair.cas, fairChoices_fair.clock, w_frames, w_args, w_heap, w_applies, ⟨⟨39, k39, 4, by decide +kernel, rfl, rfl, _, rfl, rfl⟩, trivial⟩, w_rest, w_case⟩
end start1
theorem witness_1 : WitnessClaimed_1 := ⟨start1.p0, start1.e0, start1.about1, start1.theMethod, start1.args0, start1.below0, start1.atStart⟩
end Jvm.Pilot.@@N@@
