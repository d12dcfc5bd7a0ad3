import JvmDerived
import JvmDerived.Pilot.@@N@@Statement
import JvmDerived.Pilot.@@N@@Code
set_option linter.unusedVariables false
set_option linter.unusedSimpArgs false
namespace Jvm.Pilot.@@N@@
open Jvm Jvm.ClassFile Sem Op Lib Jvm.Free Jvm.Stand Jvm.LawKit Jvm.RoadKit Bundle Jvm.Pilot.@@N@@.Jvm.D
theorem own_keq {h0 h h' : Heap} {ws : List Addr} (e : h' = h) (K : Keep h0 h ws) : Keep h0 h' ws := e ▸ K

def own_of (p : Int32) (u0 : Addr) (u1 : Addr) (u2 : Addr) (u3 : Addr) (u4 : Addr) (u5 : Addr) (u6 : Addr) (u7 : Addr) (u8 : Addr) : Value := if p = 90 then .ref u0 else if p = 66 then .ref u1 else if p = 83 then .ref u2 else if p = 67 then .ref u3 else if p = 73 then .ref u4 else if p = 74 then .ref u5 else if p = 70 then .ref u6 else if p = 68 then .ref u7 else if p = 86 then .ref u8 else .null
theorem own_ref (p : Int32) (u0 : Addr) (u1 : Addr) (u2 : Addr) (u3 : Addr) (u4 : Addr) (u5 : Addr) (u6 : Addr) (u7 : Addr) (u8 : Addr) : (own_of p u0 u1 u2 u3 u4 u5 u6 u7 u8).isRef = true := by
  unfold own_of
  iterate 9 (split; · rfl)
  rfl
theorem own_eqv {args : Array Value} {s : State} {a b : Term} {y : Value} (h : (Cond.eq a b).value args s none s [] = some true) (hb : b.eval args s none [] s = some y) (hy : (∃ z, y = .int z) ∨ ∃ z, y = .ref z) : a.eval args s none [] s = some y := by
  obtain ⟨x, y', ha, hb', k1, k2⟩ := cmp_v (Or.inl h)
  cases hb.symm.trans hb'
  rw [ha]
  rcases hy with ⟨z, rfl⟩ | ⟨z, rfl⟩
  · obtain ⟨z', rfl⟩ := k2
    simp [Cond.value, ha, hb] at h
    rw [h]
  · have q := eq_R ha hb k2.2 rfl
    rw [h] at q
    have := of_decide_eq_true (Option.some.inj q).symm
    rw [this]
theorem own_fld {args : Array Value} {s : State} {t : Term} {a : Addr} {C n d : String} {k : Int32} (h : (Cond.eq (.field t C n d) (.int k)).value args s none s [] = some true) (ht : t.eval args s none [] s = some (.ref a)) : Fld s s.heap a C n d (.int k) := by
  refine Fld.start ?_
  rw [← fld_at (args := args) (first := s) (o := none) (idx := []) (C := C) (n := n) (dd := d) ht]
  exact own_eqv h (Term.int_eval k) (Or.inl ⟨_, rfl⟩)
theorem own_len {args : Array Value} {s : State} {t : Term} {a : Addr} {c : Cell} {ty : FieldType} {k : Int32} (h : (Cond.eq (.length t) (.int k)).value args s none s [] = some true) (ht : t.eval args s none [] s = some (.ref a)) (A : Arr s s.heap a c ty) : c.slots.size < 2 ^ 31 ∧ c.slots.size.toInt32 = k := by
  have q := own_eqv h (Term.int_eval k) (Or.inl ⟨_, rfl⟩)
  have hc : s.arrayAt? a = some c := Arr.fin (Vm.Alike.refl _) A
  by_cases z : c.slots.size < 2 ^ 31
  · rw [len_f ht hc z] at q; exact ⟨z, by simpa using q⟩
  · simp [Term.eval, ht, hc, z] at q
theorem own_at {args : Array Value} {s : State} {t : Term} {a b : Addr} {c : Cell} {ty : FieldType} {k : Int32} (h : (Term.elem t (.int k)).eval args s none [] s = some (.ref b)) (ht : t.eval args s none [] s = some (.ref a)) (A : Arr s s.heap a c ty) : c.slots[k.toNatClampNeg]? = some (.ref b) :=
  (elem_in h ht (Term.int_eval k) A.1).2
theorem ef_IsL (m : MethodId) (x0 : Addr) : entryFrame m #[(.ref x0)] 1 = mkF m 0 #[.val (.ref x0)] [] := by (first | (simp [entryFrame, mkF, argsToLocals, Value.category]; done) | rfl)
def QIsL (Z : State) (x1 : Addr) (zc : Int32) (h0 : Heap) (n0 : Nat) (v : Option Value) (h : Heap) (L : List Loc) : Prop := v = some (.int (1 : Int32)) ∧ Fr n0 L ∧ h = h0
theorem pn_java_lang_String : plainName "java/lang/String" = true := by first | (simp [plainName, overriddenIn]; done) | decide +kernel
theorem d2_0 : decode jdk_42_method_154_code 0 = .ok (.getstatic 38, 3) := by decide +kernel
theorem d2_3 : decode jdk_42_method_154_code 3 = .ok (.ifCond .eq 14, 3) := by decide +kernel
theorem d2_6 : decode jdk_42_method_154_code 6 = .ok (.aload_n 0, 1) := by decide +kernel
theorem d2_7 : decode jdk_42_method_154_code 7 = .ok (.getfield 15, 3) := by decide +kernel
theorem d2_10 : decode jdk_42_method_154_code 10 = .ok (.ifCond .ne 7, 3) := by decide +kernel
theorem d2_13 : decode jdk_42_method_154_code 13 = .ok (.iconst 1, 1) := by decide +kernel
theorem d2_14 : decode jdk_42_method_154_code 14 = .ok (.goto 4, 3) := by decide +kernel
theorem d2_18 : decode jdk_42_method_154_code 18 = .ok (.ireturn, 1) := by decide +kernel
set_option maxRecDepth 65536 in
set_option maxHeartbeats 40000000 in
theorem rmIsL (l : Launch) (Z : State) (a0 : Array Value) (hw : ∀ d ∈ tables_1, d.before a0 Z = true) (ws : List Jvm.Cond) (x1 : Addr) (zc : Int32) (h0 : Heap) (n0 : Nat) (Z0 : n0 ≤ h0.size) (SC : Sta Z h0 "java/lang/String" "COMPACT_STRINGS" "Z" (.int zc)) (hzc : ¬ zc = (0 : Int32)) (FC : Fld Z h0 x1 "java/lang/String" "coder" "B" (.int (0 : Int32))) :
    MetFree l (⟨"java/lang/String", "isLatin1", "()Z"⟩ : MethodName) (head1 (Jvm.Cond.code (⟨"java/lang/String", "isLatin1", "()Z"⟩ : MethodName) jdk_42_method_154_code 1 (some .boolean) :: ws) ({ frames := 0, cells := 0, slots := 0, locals := 0 } : Room)) (fun a U => a = #[(.ref x1)] ∧ Z.Warmed39 U.vm ∧ U.heap = h0) (fun _ _ _ _ _ => True) (fun _ U o U' => ∃ v L, o = .returned v ∧ QIsL Z x1 zc h0 n0 v U'.heap L ∧ FrameEnd U o U' L ({ frames := 0, cells := 0, slots := 0, locals := 0 } : Room).cells ({ frames := 0, cells := 0, slots := 0, locals := 0 } : Room).slots) := by
  refine MetFree.of_bodySF (plainFor_of_name pn_java_lang_String) hisR ?_
  intro p e s m args below meth c s₁ Bd hml0 hP hK
  obtain ⟨rfl, hZ, hh⟩ := hP
  have hx := Bd.exec
  have hby := Bd.bytes
  have hml : c.maxLocals = 1 := hml0
  have hown : s.vm.findClass "java/lang/String" = some m.cls := findClass_of_methodNamed Bd.named
  have hnm := (name_of_methodNamed Bd.named Bd.method).1
  have X0 : Stand p l e ({ frames := 0, cells := 0, slots := 0, locals := 0 } : Room) s m #[(.ref x1)] below meth c s₁ [] 0 0 := Stand.of_body Bd
  have e0 : s₁.heap = h0 := by rw [← hh, Bd.state]; rfl
  have N0 := Fr.nil n0
  have pre0 : ∀ t, Steps p.tables e below (s₁.setTop (mkF m 0 #[.val (.ref x1)] [])) t → Steps p.tables e below (s₁.setTop (entryFrame m #[(.ref x1)] 1)) t := fun t k => castTop (ef_IsL m x1) k
  obtain ⟨T1, X1, e1, st1⟩ := getS2 X0 hx hZ hown (host := "") (Or.inl (hw _ (List.mem_of_getElem? (i := 18) rfl))) Via.refl e0 SC (g := (mkF m 0 #[.val (.ref x1)] [])) rfl (hb hby d2_0)
  obtain ⟨T2, X2, e2, st2⟩ := getF X1 hx hZ hown (host := "") (Or.inl (hw _ (List.mem_of_getElem? (i := 19) rfl))) Via.refl e1 FC (g := (mkF m 7 #[.val (.ref x1)] [(.ref x1)])) rfl rfl (hb hby d2_7)
  have pre3 : ∀ t, Steps p.tables e below (T2.setTop (mkF m 18 #[.val (.ref x1)] [(.int (1 : Int32))])) t → Steps p.tables e below (s₁.setTop (mkF m 0 #[.val (.ref x1)] [])) t := by
    intro t kt
    show Steps p.tables e below (s₁.setTop (mkF m 0 #[.val (.ref x1)] [])) _
    refine st1 _ ?_
    show Steps p.tables e below (T1.setTop (mkF m 3 #[.val (.ref x1)] [(.int zc)])) _
    refine XS.ifNo X1.here hx rfl (hb hby d2_3) rfl ((if0 _ _).trans (feq (hzc : ¬ (zc = (0 : Int32)))).1) ?_
    show Steps p.tables e below (T1.setTop (mkF m 6 #[.val (.ref x1)] [])) _
    refine XS.aloadN X1.here hx rfl (hb hby d2_6) rfl rfl ?_
    show Steps p.tables e below (T1.setTop (mkF m 7 #[.val (.ref x1)] [(.ref x1)])) _
    refine st2 _ ?_
    show Steps p.tables e below (T2.setTop (mkF m 10 #[.val (.ref x1)] [(.int (0 : Int32))])) _
    refine XS.ifNo X2.here hx rfl (hb hby d2_10) rfl ((if0 _ _).trans (teq (rfl : (0 : Int32) = (0 : Int32))).2) ?_
    show Steps p.tables e below (T2.setTop (mkF m 13 #[.val (.ref x1)] [])) _
    refine XS.iconst X2.here hx rfl (hb hby d2_13) ?_
    show Steps p.tables e below (T2.setTop (mkF m 14 #[.val (.ref x1)] [(.int (1 : Int32))])) _
    refine XS.goto X2.here hx rfl (pc0 := 14) (pc' := 18) rfl (hb hby d2_14) (by decide) (by decide) ?_
    exact kt
  obtain ⟨fs, hr, hrun, hended, hW, hsame⟩ := X2.leave (v := some (.int (1 : Int32))) (fun h => by rw [Bd.returns] at h; cases h)
  refine ⟨_, _, (pre0 _ (pre3 _ ?_)), hrun, hended, _, _, rfl, ?_, ⟨_, rfl⟩, hW, hsame.mono (by decide) (by decide)⟩
  · show Steps p.tables e below (T2.setTop (mkF m 18 #[.val (.ref x1)] [(.int (1 : Int32))])) _
    exact retN X2 hx (t := .boolean) Bd.returns (by simp) (hb hby d2_18) hr
  · show QIsL Z x1 zc h0 n0 _ T2.heap _
    rw [e2]
    exact ⟨rfl, N0, rfl⟩
theorem ef_PCk (m : MethodId) (x0 : Int32) (x1 : Int32) (x2 : Value) (hx2 : x2.isRef = true) : entryFrame m #[(.int x0), (.int x1), x2] 3 = mkF m 0 #[.val (.int x0), .val (.int x1), .val x2] [] := by rcases ref_cases hx2 with rfl | ⟨_, rfl⟩ <;> (first | (simp [entryFrame, mkF, argsToLocals, Value.category]; done) | rfl)
def QPCk (Z : State) (i1 : Int32) (i2 : Int32) (fm : Value) (h0 : Heap) (n0 : Nat) (v : Option Value) (h : Heap) (L : List Loc) : Prop := v = some (.int i1) ∧ Fr n0 L ∧ h = h0
theorem pn_jdk_internal_util_Preconditions : plainName "jdk/internal/util/Preconditions" = true := by first | (simp [plainName, overriddenIn]; done) | decide +kernel
theorem d5_0 : decode jdk_41_method_11_code 0 = .ok (.iload_n 0, 1) := by decide +kernel
theorem d5_1 : decode jdk_41_method_11_code 1 = .ok (.ifCond .lt 8, 3) := by decide +kernel
theorem d5_4 : decode jdk_41_method_11_code 4 = .ok (.iload_n 0, 1) := by decide +kernel
theorem d5_5 : decode jdk_41_method_11_code 5 = .ok (.iload_n 1, 1) := by decide +kernel
theorem d5_6 : decode jdk_41_method_11_code 6 = .ok (.if_icmp .lt 10, 3) := by decide +kernel
theorem d5_16 : decode jdk_41_method_11_code 16 = .ok (.iload_n 0, 1) := by decide +kernel
theorem d5_17 : decode jdk_41_method_11_code 17 = .ok (.ireturn, 1) := by decide +kernel
set_option maxRecDepth 65536 in
set_option maxHeartbeats 40000000 in
theorem rmPCk (l : Launch) (Z : State) (a0 : Array Value) (hw : ∀ d ∈ tables_1, d.before a0 Z = true) (ws : List Jvm.Cond) (i1 : Int32) (i2 : Int32) (fm : Value) (h0 : Heap) (n0 : Nat) (Z0 : n0 ≤ h0.size) (rf : fm.isRef = true) (hi0 : ¬ i1 < (0 : Int32)) (hi1 : i1 < i2) :
    MetFree l (⟨"jdk/internal/util/Preconditions", "checkIndex", "(IILjava/util/function/BiFunction;)I"⟩ : MethodName) (head1 (Jvm.Cond.code (⟨"jdk/internal/util/Preconditions", "checkIndex", "(IILjava/util/function/BiFunction;)I"⟩ : MethodName) jdk_41_method_11_code 3 (some .int) :: ws) ({ frames := 0, cells := 0, slots := 0, locals := 0 } : Room)) (fun a U => a = #[(.int i1), (.int i2), fm] ∧ Z.Warmed39 U.vm ∧ U.heap = h0) (fun _ _ _ _ _ => True) (fun _ U o U' => ∃ v L, o = .returned v ∧ QPCk Z i1 i2 fm h0 n0 v U'.heap L ∧ FrameEnd U o U' L ({ frames := 0, cells := 0, slots := 0, locals := 0 } : Room).cells ({ frames := 0, cells := 0, slots := 0, locals := 0 } : Room).slots) := by
  refine MetFree.of_bodySF (plainFor_of_name pn_jdk_internal_util_Preconditions) hisR ?_
  intro p e s m args below meth c s₁ Bd hml0 hP hK
  obtain ⟨rfl, hZ, hh⟩ := hP
  have hx := Bd.exec
  have hby := Bd.bytes
  have hml : c.maxLocals = 3 := hml0
  have hown : s.vm.findClass "jdk/internal/util/Preconditions" = some m.cls := findClass_of_methodNamed Bd.named
  have hnm := (name_of_methodNamed Bd.named Bd.method).1
  have X0 : Stand p l e ({ frames := 0, cells := 0, slots := 0, locals := 0 } : Room) s m #[(.int i1), (.int i2), fm] below meth c s₁ [] 0 0 := Stand.of_body Bd
  have e0 : s₁.heap = h0 := by rw [← hh, Bd.state]; rfl
  have N0 := Fr.nil n0
  have pre0 : ∀ t, Steps p.tables e below (s₁.setTop (mkF m 0 #[.val (.int i1), .val (.int i2), .val fm] [])) t → Steps p.tables e below (s₁.setTop (entryFrame m #[(.int i1), (.int i2), fm] 3)) t := fun t k => castTop (ef_PCk m i1 i2 fm rf) k
  have pre4 : ∀ t, Steps p.tables e below (s₁.setTop (mkF m 17 #[.val (.int i1), .val (.int i2), .val fm] [(.int i1)])) t → Steps p.tables e below (s₁.setTop (mkF m 0 #[.val (.int i1), .val (.int i2), .val fm] [])) t := by
    intro t kt
    show Steps p.tables e below (s₁.setTop (mkF m 0 #[.val (.int i1), .val (.int i2), .val fm] [])) _
    refine XS.iloadN X0.here hx rfl (hb hby d5_0) rfl ?_
    show Steps p.tables e below (s₁.setTop (mkF m 1 #[.val (.int i1), .val (.int i2), .val fm] [(.int i1)])) _
    refine XS.ifNo X0.here hx rfl (hb hby d5_1) rfl ((if0 _ _).trans (flt (hi0 : ¬ (i1 < (0 : Int32)))).1) ?_
    show Steps p.tables e below (s₁.setTop (mkF m 4 #[.val (.int i1), .val (.int i2), .val fm] [])) _
    refine XS.iloadN X0.here hx rfl (hb hby d5_4) rfl ?_
    show Steps p.tables e below (s₁.setTop (mkF m 5 #[.val (.int i1), .val (.int i2), .val fm] [(.int i1)])) _
    refine XS.iloadN X0.here hx rfl (hb hby d5_5) rfl ?_
    show Steps p.tables e below (s₁.setTop (mkF m 6 #[.val (.int i1), .val (.int i2), .val fm] [(.int i2), (.int i1)])) _
    refine XS.icmpYes X0.here hx rfl (pc0 := 6) (pc' := 16) rfl (hb hby d5_6) rfl (tlt (hi1 : i1 < i2)).1 (by decide) (by decide) ?_
    show Steps p.tables e below (s₁.setTop (mkF m 16 #[.val (.int i1), .val (.int i2), .val fm] [])) _
    refine XS.iloadN X0.here hx rfl (hb hby d5_16) rfl ?_
    exact kt
  obtain ⟨fs, hr, hrun, hended, hW, hsame⟩ := X0.leave (v := some (.int i1)) (fun h => by rw [Bd.returns] at h; cases h)
  refine ⟨_, _, (pre0 _ (pre4 _ ?_)), hrun, hended, _, _, rfl, ?_, ⟨_, rfl⟩, hW, hsame.mono (by decide) (by decide)⟩
  · show Steps p.tables e below (s₁.setTop (mkF m 17 #[.val (.int i1), .val (.int i2), .val fm] [(.int i1)])) _
    exact retOut X0 hx (t := .int) Bd.returns rfl (Or.inl ⟨rfl, Or.inl rfl, _, rfl⟩) (hb hby d5_17) hr
  · show QPCk Z i1 i2 fm h0 n0 _ s₁.heap _
    rw [e0]
    exact ⟨rfl, N0, rfl⟩
theorem ef_SCk (m : MethodId) (x0 : Int32) (x1 : Int32) : entryFrame m #[(.int x0), (.int x1)] 2 = mkF m 0 #[.val (.int x0), .val (.int x1)] [] := by (first | (simp [entryFrame, mkF, argsToLocals, Value.category]; done) | rfl)
def QSCk (Z : State) (i1 : Int32) (i2 : Int32) (fm : Value) (h0 : Heap) (n0 : Nat) (v : Option Value) (h : Heap) (L : List Loc) : Prop := v = none ∧ Fr n0 L ∧ h = h0
theorem d4_0 : decode jdk_42_method_155_code 0 = .ok (.iload_n 0, 1) := by decide +kernel
theorem d4_1 : decode jdk_42_method_155_code 1 = .ok (.iload_n 1, 1) := by decide +kernel
theorem d4_2 : decode jdk_42_method_155_code 2 = .ok (.getstatic 1053, 3) := by decide +kernel
theorem d4_5 : decode jdk_42_method_155_code 5 = .ok (.invokestatic 1059, 3) := by decide +kernel
theorem pd__IILjava_util_function_BiFunction__I : parseMethodDescriptor "(IILjava/util/function/BiFunction;)I" = some ⟨[.int, .int, (.object "java/util/function/BiFunction")], some .int⟩ := by decide +kernel
theorem d4_8 : decode jdk_42_method_155_code 8 = .ok (.pop, 1) := by decide +kernel
theorem d4_9 : decode jdk_42_method_155_code 9 = .ok (.return_, 1) := by decide +kernel
set_option maxRecDepth 65536 in
set_option maxHeartbeats 40000000 in
theorem rmSCk (l : Launch) (Z : State) (a0 : Array Value) (hw : ∀ d ∈ tables_1, d.before a0 Z = true) (ws : List Jvm.Cond) (i1 : Int32) (i2 : Int32) (fm : Value) (h0 : Heap) (n0 : Nat) (Z0 : n0 ≤ h0.size) (SFm : Sta Z h0 "jdk/internal/util/Preconditions" "SIOOBE_FORMATTER" "Ljava/util/function/BiFunction;" fm) (rf : fm.isRef = true) (hi0 : ¬ i1 < (0 : Int32)) (hi1 : i1 < i2) :
    MetFree l (⟨"java/lang/String", "checkIndex", "(II)V"⟩ : MethodName) (head1 (Jvm.Cond.code (⟨"java/lang/String", "checkIndex", "(II)V"⟩ : MethodName) jdk_42_method_155_code 2 none :: ws) ({ frames := 1, cells := 0, slots := 0, locals := 14 } : Room)) (fun a U => a = #[(.int i1), (.int i2)] ∧ Z.Warmed39 U.vm ∧ U.heap = h0) (fun _ _ _ _ _ => True) (fun _ U o U' => ∃ v L, o = .returned v ∧ QSCk Z i1 i2 fm h0 n0 v U'.heap L ∧ FrameEnd U o U' L ({ frames := 1, cells := 0, slots := 0, locals := 14 } : Room).cells ({ frames := 1, cells := 0, slots := 0, locals := 14 } : Room).slots) := by
  refine MetFree.of_bodySF (plainFor_of_name pn_java_lang_String) hisR ?_
  intro p e s m args below meth c s₁ Bd hml0 hP hK
  obtain ⟨rfl, hZ, hh⟩ := hP
  have hx := Bd.exec
  have hby := Bd.bytes
  have hml : c.maxLocals = 2 := hml0
  have hown : s.vm.findClass "java/lang/String" = some m.cls := findClass_of_methodNamed Bd.named
  have hnm := (name_of_methodNamed Bd.named Bd.method).1
  have X0 : Stand p l e ({ frames := 1, cells := 0, slots := 0, locals := 14 } : Room) s m #[(.int i1), (.int i2)] below meth c s₁ [] 0 0 := Stand.of_body Bd
  have e0 : s₁.heap = h0 := by rw [← hh, Bd.state]; rfl
  have N0 := Fr.nil n0
  have pre0 : ∀ t, Steps p.tables e below (s₁.setTop (mkF m 0 #[.val (.int i1), .val (.int i2)] [])) t → Steps p.tables e below (s₁.setTop (entryFrame m #[(.int i1), (.int i2)] 2)) t := fun t k => castTop (ef_SCk m i1 i2) k
  obtain ⟨T5, X5, e5, st5⟩ := getS2 X0 hx hZ hown (host := "") (Or.inl (hw _ (List.mem_of_getElem? (i := 28) rfl))) Via.refl e0 SFm (g := (mkF m 2 #[.val (.int i1), .val (.int i2)] [(.int i2), (.int i1)])) rfl (hb hby d4_2)
  obtain ⟨_, _, ⟨T6, L6, k6, n6⟩, -, X6, ⟨Lc6, hQ6, l6, y6, z6⟩, st6⟩ := Jvm.LawKit.callS X5 hx (y := (⟨"jdk/internal/util/Preconditions", "checkIndex", "(IILjava/util/function/BiFunction;)I"⟩ : MethodName)) hown (mvT hZ (hw _ (List.mem_of_getElem? (i := 30) rfl))) (mvT hZ (hw _ (List.mem_of_getElem? (i := 31) rfl))) (mvT hZ (hw _ (List.mem_of_getElem? (i := 29) rfl))) (mvT hZ (hw _ (List.mem_of_getElem? (i := 32) rfl))) (by decide) (backOf (W := 0) (rmPCk l Z a0 hw [] i1 i2 fm h0 n0 Z0 rf hi0 hi1) hZ (hw _ (List.mem_of_getElem? (i := 32) rfl)) (hw _ (List.mem_of_getElem? (i := 29) rfl)) (by decide) (by decide)) (g := (mkF m 5 #[.val (.int i1), .val (.int i2)] [fm, (.int i2), (.int i1)])) rfl (by rw [hml]; rfl) (argsL := [(.int i1), (.int i2), fm]) (rest := []) (lenOf pd__IILjava_util_function_BiFunction__I rfl) rfl (by show 2 * 0 + _ ≤ _; exact Nat.le_of_eq rfl) (hb hby d4_5) (fun _ _ => ⟨rfl, e5, (by decide : 0 + 0 ≤ _), (by decide : 0 + 0 ≤ _)⟩)
  dsimp only [Pt.U, Pt.locs, Pt.cells, Pt.slots] at X6 l6 y6 z6 st6 hQ6
  subst l6 y6 z6
  obtain ⟨rfl, N6q, EQ6⟩ := hQ6
  have N6 := Fr.app N0 N6q
  have Z6 : n0 ≤ T6.heap.size := by rw [EQ6]; exact Z0
  have K6 := own_keq EQ6 (Keep.refl h0 [])
  have pre7 : ∀ t, Steps p.tables e below (T6.setTop (mkF m 9 #[.val (.int i1), .val (.int i2)] [])) t → Steps p.tables e below (s₁.setTop (mkF m 0 #[.val (.int i1), .val (.int i2)] [])) t := by
    intro t kt
    show Steps p.tables e below (s₁.setTop (mkF m 0 #[.val (.int i1), .val (.int i2)] [])) _
    refine XS.iloadN X0.here hx rfl (hb hby d4_0) rfl ?_
    show Steps p.tables e below (s₁.setTop (mkF m 1 #[.val (.int i1), .val (.int i2)] [(.int i1)])) _
    refine XS.iloadN X0.here hx rfl (hb hby d4_1) rfl ?_
    show Steps p.tables e below (s₁.setTop (mkF m 2 #[.val (.int i1), .val (.int i2)] [(.int i2), (.int i1)])) _
    refine st5 _ ?_
    show Steps p.tables e below (T5.setTop (mkF m 5 #[.val (.int i1), .val (.int i2)] [fm, (.int i2), (.int i1)])) _
    refine st6 _ ?_
    show Steps p.tables e below (T6.setTop (mkF m 8 #[.val (.int i1), .val (.int i2)] [(.int i1)])) _
    refine XS.pop X6.here hx rfl (hb hby d4_8) rfl rfl ?_
    exact kt
  obtain ⟨fs, hr, hrun, hended, hW, hsame⟩ := X6.leave (v := none) (fun _ => rfl)
  refine ⟨_, _, (pre0 _ (pre7 _ ?_)), hrun, hended, _, _, rfl, ?_, ⟨_, rfl⟩, hW, hsame.mono (by decide) (by decide)⟩
  · show Steps p.tables e below (T6.setTop (mkF m 9 #[.val (.int i1), .val (.int i2)] [])) _
    exact X6.returnOut hx Bd.returns (hb hby d4_9) hr
  · show QSCk Z i1 i2 fm h0 n0 _ T6.heap _
    exact ⟨rfl, N6, by rw [EQ6]⟩
theorem ef_LCh (m : MethodId) (x0 : Addr) (x1 : Int32) : entryFrame m #[(.ref x0), (.int x1)] 2 = mkF m 0 #[.val (.ref x0), .val (.int x1)] [] := by (first | (simp [entryFrame, mkF, argsToLocals, Value.category]; done) | rfl)
def QLCh (Z : State) (t1 : Addr) (kb : ClassId) (nb : Int32) (vb : List Value) (i1 : Int32) (bt : Int32) (fm : Value) (h0 : Heap) (n0 : Nat) (v : Option Value) (h : Heap) (L : List Loc) : Prop := v = some (.int (nar .char ((bt &&& (255 : Int32)).toUInt32.toUInt16.toUInt32.toInt32))) ∧ Fr n0 L ∧ h = h0
theorem pn_java_lang_StringLatin1 : plainName "java/lang/StringLatin1" = true := by first | (simp [plainName, overriddenIn]; done) | decide +kernel
theorem d3_0 : decode jdk_43_method_2_code 0 = .ok (.iload_n 1, 1) := by decide +kernel
theorem d3_1 : decode jdk_43_method_2_code 1 = .ok (.aload_n 0, 1) := by decide +kernel
theorem d3_2 : decode jdk_43_method_2_code 2 = .ok (.arraylength, 1) := by decide +kernel
theorem d3_3 : decode jdk_43_method_2_code 3 = .ok (.invokestatic 9, 3) := by decide +kernel
theorem pd__II_V : parseMethodDescriptor "(II)V" = some ⟨[.int, .int], none⟩ := by decide +kernel
theorem d3_6 : decode jdk_43_method_2_code 6 = .ok (.aload_n 0, 1) := by decide +kernel
theorem d3_7 : decode jdk_43_method_2_code 7 = .ok (.iload_n 1, 1) := by decide +kernel
theorem d3_8 : decode jdk_43_method_2_code 8 = .ok (.baload, 1) := by decide +kernel
theorem d3_9 : decode jdk_43_method_2_code 9 = .ok (.sipush 255, 3) := by decide +kernel
theorem d3_12 : decode jdk_43_method_2_code 12 = .ok (.iand, 1) := by decide +kernel
theorem d3_13 : decode jdk_43_method_2_code 13 = .ok (.i2c, 1) := by decide +kernel
theorem d3_14 : decode jdk_43_method_2_code 14 = .ok (.ireturn, 1) := by decide +kernel
set_option maxRecDepth 65536 in
set_option maxHeartbeats 40000000 in
theorem rmLCh (l : Launch) (Z : State) (a0 : Array Value) (hw : ∀ d ∈ tables_1, d.before a0 Z = true) (ws : List Jvm.Cond) (t1 : Addr) (kb : ClassId) (nb : Int32) (vb : List Value) (i1 : Int32) (bt : Int32) (fm : Value) (h0 : Heap) (n0 : Nat) (Z0 : n0 ≤ h0.size) (SFm : Sta Z h0 "jdk/internal/util/Preconditions" "SIOOBE_FORMATTER" "Ljava/util/function/BiFunction;" fm) (rf : fm.isRef = true) (KA : Arv Z h0 t1 kb .byte nb vb (.int (0 : Int32))) (hi0 : ¬ i1 < (0 : Int32)) (hi1 : i1 < nb) (hbt : vb.getD i1.toNatClampNeg (.int (0 : Int32)) = .int bt) :
    MetFree l (⟨"java/lang/StringLatin1", "charAt", "([BI)C"⟩ : MethodName) (head1 (Jvm.Cond.code (⟨"java/lang/StringLatin1", "charAt", "([BI)C"⟩ : MethodName) jdk_43_method_2_code 2 (some .char) :: ws) ({ frames := 2, cells := 0, slots := 0, locals := 27 } : Room)) (fun a U => a = #[(.ref t1), (.int i1)] ∧ Z.Warmed39 U.vm ∧ U.heap = h0) (fun _ _ _ _ _ => True) (fun _ U o U' => ∃ v L, o = .returned v ∧ QLCh Z t1 kb nb vb i1 bt fm h0 n0 v U'.heap L ∧ FrameEnd U o U' L ({ frames := 2, cells := 0, slots := 0, locals := 27 } : Room).cells ({ frames := 2, cells := 0, slots := 0, locals := 27 } : Room).slots) := by
  refine MetFree.of_bodySF (plainFor_of_name pn_java_lang_StringLatin1) hisR ?_
  intro p e s m args below meth c s₁ Bd hml0 hP hK
  obtain ⟨rfl, hZ, hh⟩ := hP
  have hx := Bd.exec
  have hby := Bd.bytes
  have hml : c.maxLocals = 2 := hml0
  have hown : s.vm.findClass "java/lang/StringLatin1" = some m.cls := findClass_of_methodNamed Bd.named
  have hnm := (name_of_methodNamed Bd.named Bd.method).1
  have X0 : Stand p l e ({ frames := 2, cells := 0, slots := 0, locals := 27 } : Room) s m #[(.ref t1), (.int i1)] below meth c s₁ [] 0 0 := Stand.of_body Bd
  have e0 : s₁.heap = h0 := by rw [← hh, Bd.state]; rfl
  have N0 := Fr.nil n0
  have pre0 : ∀ t, Steps p.tables e below (s₁.setTop (mkF m 0 #[.val (.ref t1), .val (.int i1)] [])) t → Steps p.tables e below (s₁.setTop (entryFrame m #[(.ref t1), (.int i1)] 2)) t := fun t k => castTop (ef_LCh m t1 i1) k
  obtain ⟨c8, Ar8, -, S8, M8, -, -⟩ := id KA
  obtain ⟨_, _, ⟨T9, L9, k9, n9⟩, -, X9, ⟨Lc9, hQ9, l9, y9, z9⟩, st9⟩ := Jvm.LawKit.callS X0 hx (y := (⟨"java/lang/String", "checkIndex", "(II)V"⟩ : MethodName)) hown (mvT hZ (hw _ (List.mem_of_getElem? (i := 25) rfl))) (mvT hZ (hw _ (List.mem_of_getElem? (i := 26) rfl))) (mvT hZ (hw _ (List.mem_of_getElem? (i := 1) rfl))) (mvT hZ (hw _ (List.mem_of_getElem? (i := 27) rfl))) (by decide) (backOf (W := 0) (rmSCk l Z a0 hw [] i1 nb fm h0 n0 Z0 SFm rf hi0 hi1) hZ (hw _ (List.mem_of_getElem? (i := 27) rfl)) (hw _ (List.mem_of_getElem? (i := 1) rfl)) (by decide) (by decide)) (g := (mkF m 3 #[.val (.ref t1), .val (.int i1)] [(.int nb), (.int i1)])) rfl (by rw [hml]; rfl) (argsL := [(.int i1), (.int nb)]) (rest := []) (lenOf pd__II_V rfl) rfl (by show 2 * 0 + _ ≤ _; exact Nat.le_of_eq rfl) (hb hby d3_3) (fun _ _ => ⟨rfl, e0, (by decide : 0 + 0 ≤ _), (by decide : 0 + 0 ≤ _)⟩)
  dsimp only [Pt.U, Pt.locs, Pt.cells, Pt.slots] at X9 l9 y9 z9 st9 hQ9
  subst l9 y9 z9
  obtain ⟨rfl, N9q, EQ9⟩ := hQ9
  have N9 := Fr.app N0 N9q
  have Z9 : n0 ≤ T9.heap.size := by rw [EQ9]; exact Z0
  have K9 := own_keq EQ9 (Keep.refl h0 [])
  have f10 := (EQ9 ▸ KA)
  obtain ⟨c11, Ar11, q11, S11, M11, H11, G11⟩ := id f10
  have hin11 : ¬ (i1 < 0 ∨ c11.slots.size ≤ (i1).toNatClampNeg) := inb_of S11 ⟨hi0, hi1⟩
  have hat11 : c11.slots[(i1).toNatClampNeg]? = some (.int bt) := (H11 _ (Nat.lt_of_not_le fun y => hin11 (Or.inr y))).trans (congrArg some hbt)
  have pre12 : ∀ t, Steps p.tables e below (T9.setTop (mkF m 14 #[.val (.ref t1), .val (.int i1)] [(.int ((bt &&& (255 : Int32)).toUInt32.toUInt16.toUInt32.toInt32))])) t → Steps p.tables e below (s₁.setTop (mkF m 0 #[.val (.ref t1), .val (.int i1)] [])) t := by
    intro t kt
    show Steps p.tables e below (s₁.setTop (mkF m 0 #[.val (.ref t1), .val (.int i1)] [])) _
    refine XS.iloadN X0.here hx rfl (hb hby d3_0) rfl ?_
    show Steps p.tables e below (s₁.setTop (mkF m 1 #[.val (.ref t1), .val (.int i1)] [(.int i1)])) _
    refine XS.aloadN X0.here hx rfl (hb hby d3_1) rfl rfl ?_
    show Steps p.tables e below (s₁.setTop (mkF m 2 #[.val (.ref t1), .val (.int i1)] [(.ref t1), (.int i1)])) _
    refine X0.arraylength hx (by rw [e0]; exact Ar8.1) (State.isArrayOf_alike hZ.alike Ar8.2.1) (g := (mkF m 2 #[.val (.ref t1), .val (.int i1)] [(.ref t1), (.int i1)])) rfl rfl (hb hby d3_2) _ ?_
    rw [len_of S8 M8]
    show Steps p.tables e below (s₁.setTop (mkF m 3 #[.val (.ref t1), .val (.int i1)] [(.int nb), (.int i1)])) _
    refine st9 _ ?_
    show Steps p.tables e below (T9.setTop (mkF m 6 #[.val (.ref t1), .val (.int i1)] [])) _
    refine XS.aloadN X9.here hx rfl (hb hby d3_6) rfl rfl ?_
    show Steps p.tables e below (T9.setTop (mkF m 7 #[.val (.ref t1), .val (.int i1)] [(.ref t1)])) _
    refine XS.iloadN X9.here hx rfl (hb hby d3_7) rfl ?_
    show Steps p.tables e below (T9.setTop (mkF m 8 #[.val (.ref t1), .val (.int i1)] [(.int i1), (.ref t1)])) _
    refine X9.baloadBytes hx (j := i1) (v := (.int bt)) Ar11.1 (State.isArrayOf_alike hZ.alike Ar11.2.1) Ar11.2.2 hin11 hat11 (g := (mkF m 8 #[.val (.ref t1), .val (.int i1)] [(.int i1), (.ref t1)])) rfl rfl (hb hby d3_8) _ ?_
    show Steps p.tables e below (T9.setTop (mkF m 9 #[.val (.ref t1), .val (.int i1)] [(.int bt)])) _
    refine XS.sipush X9.here hx rfl (hb hby d3_9) ?_
    show Steps p.tables e below (T9.setTop (mkF m 12 #[.val (.ref t1), .val (.int i1)] [(.int (255 : Int32)), (.int bt)])) _
    refine XS.iand X9.here hx rfl (hb hby d3_12) rfl ?_
    show Steps p.tables e below (T9.setTop (mkF m 13 #[.val (.ref t1), .val (.int i1)] [(.int (bt &&& (255 : Int32)))])) _
    refine XS.i2c X9.here hx rfl (hb hby d3_13) rfl ?_
    exact kt
  obtain ⟨fs, hr, hrun, hended, hW, hsame⟩ := X9.leave (v := some (.int (nar .char ((bt &&& (255 : Int32)).toUInt32.toUInt16.toUInt32.toInt32)))) (fun h => by rw [Bd.returns] at h; cases h)
  refine ⟨_, _, (pre0 _ (pre12 _ ?_)), hrun, hended, _, _, rfl, ?_, ⟨_, rfl⟩, hW, hsame.mono (by decide) (by decide)⟩
  · show Steps p.tables e below (T9.setTop (mkF m 14 #[.val (.ref t1), .val (.int i1)] [(.int ((bt &&& (255 : Int32)).toUInt32.toUInt16.toUInt32.toInt32))])) _
    exact retN X9 hx (t := .char) Bd.returns (by simp) (hb hby d3_14) hr
  · show QLCh Z t1 kb nb vb i1 bt fm h0 n0 _ T9.heap _
    exact ⟨rfl, N9, by rw [EQ9]⟩
theorem ef_ChA (m : MethodId) (x0 : Addr) (x1 : Int32) : entryFrame m #[(.ref x0), (.int x1)] 2 = mkF m 0 #[.val (.ref x0), .val (.int x1)] [] := by (first | (simp [entryFrame, mkF, argsToLocals, Value.category]; done) | rfl)
def QChA (Z : State) (x1 : Addr) (t1 : Addr) (kb : ClassId) (nb : Int32) (vb : List Value) (i1 : Int32) (bt : Int32) (zc : Int32) (fm : Value) (h0 : Heap) (n0 : Nat) (v : Option Value) (h : Heap) (L : List Loc) : Prop := v = some (.int (nar .char (nar .char ((bt &&& (255 : Int32)).toUInt32.toUInt16.toUInt32.toInt32)))) ∧ Fr n0 L ∧ h = h0
theorem d1_0 : decode jdk_42_method_56_code 0 = .ok (.aload_n 0, 1) := by decide +kernel
theorem d1_1 : decode jdk_42_method_56_code 1 = .ok (.invokevirtual 492, 3) := by decide +kernel
theorem pd___Z : parseMethodDescriptor "()Z" = some ⟨[], some .boolean⟩ := by decide +kernel
theorem d1_4 : decode jdk_42_method_56_code 4 = .ok (.ifCond .eq 12, 3) := by decide +kernel
theorem d1_7 : decode jdk_42_method_56_code 7 = .ok (.aload_n 0, 1) := by decide +kernel
theorem d1_8 : decode jdk_42_method_56_code 8 = .ok (.getfield 9, 3) := by decide +kernel
theorem d1_11 : decode jdk_42_method_56_code 11 = .ok (.iload_n 1, 1) := by decide +kernel
theorem d1_12 : decode jdk_42_method_56_code 12 = .ok (.invokestatic 495, 3) := by decide +kernel
theorem pd___BI_C : parseMethodDescriptor "([BI)C" = some ⟨[(.array .byte), .int], some .char⟩ := by decide +kernel
theorem d1_15 : decode jdk_42_method_56_code 15 = .ok (.ireturn, 1) := by decide +kernel
set_option maxRecDepth 65536 in
set_option maxHeartbeats 40000000 in
theorem rmChA (l : Launch) (Z : State) (a0 : Array Value) (hw : ∀ d ∈ tables_1, d.before a0 Z = true) (ws : List Jvm.Cond) (x1 : Addr) (t1 : Addr) (kb : ClassId) (nb : Int32) (vb : List Value) (i1 : Int32) (bt : Int32) (zc : Int32) (fm : Value) (h0 : Heap) (n0 : Nat) (Z0 : n0 ≤ h0.size) (SC : Sta Z h0 "java/lang/String" "COMPACT_STRINGS" "Z" (.int zc)) (hzc : ¬ zc = (0 : Int32)) (SFm : Sta Z h0 "jdk/internal/util/Preconditions" "SIOOBE_FORMATTER" "Ljava/util/function/BiFunction;" fm) (rf : fm.isRef = true) (FC : Fld Z h0 x1 "java/lang/String" "coder" "B" (.int (0 : Int32))) (FV : Fld Z h0 x1 "java/lang/String" "value" "[B" (.ref t1)) (EX : Exa Z h0 x1 "java/lang/String") (KA : Arv Z h0 t1 kb .byte nb vb (.int (0 : Int32))) (hi0 : ¬ i1 < (0 : Int32)) (hi1 : i1 < nb) (hbt : vb.getD i1.toNatClampNeg (.int (0 : Int32)) = .int bt) :
    MetFree l (⟨"java/lang/String", "charAt", "(I)C"⟩ : MethodName) (head1 (Jvm.Cond.code (⟨"java/lang/String", "charAt", "(I)C"⟩ : MethodName) jdk_42_method_56_code 2 (some .char) :: ws) ({ frames := 3, cells := 0, slots := 0, locals := 40 } : Room)) (fun a U => a = #[(.ref x1), (.int i1)] ∧ Z.Warmed39 U.vm ∧ U.heap = h0) (fun _ _ _ _ _ => True) (fun _ U o U' => ∃ v L, o = .returned v ∧ QChA Z x1 t1 kb nb vb i1 bt zc fm h0 n0 v U'.heap L ∧ FrameEnd U o U' L ({ frames := 3, cells := 0, slots := 0, locals := 40 } : Room).cells ({ frames := 3, cells := 0, slots := 0, locals := 40 } : Room).slots) := by
  refine MetFree.of_bodySF (plainFor_of_name pn_java_lang_String) hisR ?_
  intro p e s m args below meth c s₁ Bd hml0 hP hK
  obtain ⟨rfl, hZ, hh⟩ := hP
  have hx := Bd.exec
  have hby := Bd.bytes
  have hml : c.maxLocals = 2 := hml0
  have hown : s.vm.findClass "java/lang/String" = some m.cls := findClass_of_methodNamed Bd.named
  have hnm := (name_of_methodNamed Bd.named Bd.method).1
  have X0 : Stand p l e ({ frames := 3, cells := 0, slots := 0, locals := 40 } : Room) s m #[(.ref x1), (.int i1)] below meth c s₁ [] 0 0 := Stand.of_body Bd
  have e0 : s₁.heap = h0 := by rw [← hh, Bd.state]; rfl
  have N0 := Fr.nil n0
  have pre0 : ∀ t, Steps p.tables e below (s₁.setTop (mkF m 0 #[.val (.ref x1), .val (.int i1)] [])) t → Steps p.tables e below (s₁.setTop (entryFrame m #[(.ref x1), (.int i1)] 2)) t := fun t k => castTop (ef_ChA m x1 i1) k
  obtain ⟨cq13, kq13, q13a, q13b, q13c⟩ := isOf hZ e0 EX
  obtain ⟨_, _, ⟨T13, L13, k13, n13⟩, -, X13, ⟨Lc13, hQ13, l13, y13, z13⟩, st13⟩ := X0.virtualBack hx (y := (⟨"java/lang/String", "isLatin1", "()Z"⟩ : MethodName)) (z := (⟨"java/lang/String", "isLatin1", "()Z"⟩ : MethodName)) hown (mvT hZ (hw _ (List.mem_of_getElem? (i := 13) rfl))) (mvT hZ (hw _ (List.mem_of_getElem? (i := 14) rfl))) (notFace_of_selects (args := #[]) (mvT hZ (hw _ (List.mem_of_getElem? (i := 16) rfl)))) (mvT hZ (hw _ (List.mem_of_getElem? (i := 16) rfl))) (mvT hZ (hw _ (List.mem_of_getElem? (i := 15) rfl))) (by decide) (backOf (W := 0) (rmIsL l Z a0 hw [] x1 zc h0 n0 Z0 SC hzc FC) hZ (hw _ (List.mem_of_getElem? (i := 17) rfl)) (hw _ (List.mem_of_getElem? (i := 1) rfl)) (by decide) (by decide)) q13a q13c (g := (mkF m 1 #[.val (.ref x1), .val (.int i1)] [(.ref x1)])) rfl (by rw [hml]; rfl) (Steps.refl _) (argsL := []) (rest := []) (lenOf pd___Z rfl) rfl (by show 2 * 0 + _ ≤ _; exact Nat.le_of_eq rfl) (hb hby d1_1) (fun _ _ => ⟨rfl, e0, (by decide : 0 + 0 ≤ _), (by decide : 0 + 0 ≤ _)⟩)
  dsimp only [Pt.U, Pt.locs, Pt.cells, Pt.slots] at X13 l13 y13 z13 st13 hQ13
  subst l13 y13 z13
  obtain ⟨rfl, N13q, EQ13⟩ := hQ13
  have N13 := Fr.app N0 N13q
  have Z13 : n0 ≤ T13.heap.size := by rw [EQ13]; exact Z0
  have K13 := own_keq EQ13 (Keep.refl h0 [])
  have f14 := (EQ13 ▸ FV)
  obtain ⟨T15, X15, e15, st15⟩ := getF X13 hx hZ hown (host := "") (Or.inl (hw _ (List.mem_of_getElem? (i := 20) rfl))) Via.refl rfl f14 (g := (mkF m 8 #[.val (.ref x1), .val (.int i1)] [(.ref x1)])) rfl rfl (hb hby d1_8)
  have f16 := (EQ13 ▸ SFm)
  have f17 := (EQ13 ▸ KA)
  obtain ⟨_, _, ⟨T18, L18, k18, n18⟩, -, X18, ⟨Lc18, hQ18, l18, y18, z18⟩, st18⟩ := Jvm.LawKit.callS X15 hx (y := (⟨"java/lang/StringLatin1", "charAt", "([BI)C"⟩ : MethodName)) hown (mvT hZ (hw _ (List.mem_of_getElem? (i := 21) rfl))) (mvT hZ (hw _ (List.mem_of_getElem? (i := 22) rfl))) (mvT hZ (hw _ (List.mem_of_getElem? (i := 23) rfl))) (mvT hZ (hw _ (List.mem_of_getElem? (i := 24) rfl))) (by decide) (backOf (W := 0) (rmLCh l Z a0 hw [] t1 kb nb vb i1 bt fm T13.heap n0 Z13 f16 rf f17 hi0 hi1 hbt) hZ (hw _ (List.mem_of_getElem? (i := 24) rfl)) (hw _ (List.mem_of_getElem? (i := 23) rfl)) (by decide) (by decide)) (g := (mkF m 12 #[.val (.ref x1), .val (.int i1)] [(.int i1), (.ref t1)])) rfl (by rw [hml]; rfl) (argsL := [(.ref t1), (.int i1)]) (rest := []) (lenOf pd___BI_C rfl) rfl (by show 2 * 0 + _ ≤ _; exact Nat.le_of_eq rfl) (hb hby d1_12) (fun _ _ => ⟨rfl, e15, (by decide : 0 + 0 ≤ _), (by decide : 0 + 0 ≤ _)⟩)
  dsimp only [Pt.U, Pt.locs, Pt.cells, Pt.slots] at X18 l18 y18 z18 st18 hQ18
  subst l18 y18 z18
  obtain ⟨rfl, N18q, EQ18⟩ := hQ18
  have N18 := Fr.app N13 N18q
  have Z18 : n0 ≤ T18.heap.size := by rw [EQ18]; exact Z13
  have K18 := own_keq EQ18 K13
  have pre19 : ∀ t, Steps p.tables e below (T18.setTop (mkF m 15 #[.val (.ref x1), .val (.int i1)] [(.int (nar .char ((bt &&& (255 : Int32)).toUInt32.toUInt16.toUInt32.toInt32)))])) t → Steps p.tables e below (s₁.setTop (mkF m 0 #[.val (.ref x1), .val (.int i1)] [])) t := by
    intro t kt
    show Steps p.tables e below (s₁.setTop (mkF m 0 #[.val (.ref x1), .val (.int i1)] [])) _
    refine XS.aloadN X0.here hx rfl (hb hby d1_0) rfl rfl ?_
    show Steps p.tables e below (s₁.setTop (mkF m 1 #[.val (.ref x1), .val (.int i1)] [(.ref x1)])) _
    refine st13.trans ?_
    show Steps p.tables e below (T13.setTop (mkF m 4 #[.val (.ref x1), .val (.int i1)] [(.int (1 : Int32))])) _
    refine XS.ifNo X13.here hx rfl (hb hby d1_4) rfl ((if0 _ _).trans (feq (by decide : ¬ ((1 : Int32) = (0 : Int32)))).1) ?_
    show Steps p.tables e below (T13.setTop (mkF m 7 #[.val (.ref x1), .val (.int i1)] [])) _
    refine XS.aloadN X13.here hx rfl (hb hby d1_7) rfl rfl ?_
    show Steps p.tables e below (T13.setTop (mkF m 8 #[.val (.ref x1), .val (.int i1)] [(.ref x1)])) _
    refine st15 _ ?_
    show Steps p.tables e below (T15.setTop (mkF m 11 #[.val (.ref x1), .val (.int i1)] [(.ref t1)])) _
    refine XS.iloadN X15.here hx rfl (hb hby d1_11) rfl ?_
    show Steps p.tables e below (T15.setTop (mkF m 12 #[.val (.ref x1), .val (.int i1)] [(.int i1), (.ref t1)])) _
    refine st18 _ ?_
    exact kt
  obtain ⟨fs, hr, hrun, hended, hW, hsame⟩ := X18.leave (v := some (.int (nar .char (nar .char ((bt &&& (255 : Int32)).toUInt32.toUInt16.toUInt32.toInt32))))) (fun h => by rw [Bd.returns] at h; cases h)
  refine ⟨_, _, (pre0 _ (pre19 _ ?_)), hrun, hended, _, _, rfl, ?_, ⟨_, rfl⟩, hW, hsame.mono (by decide) (by decide)⟩
  · show Steps p.tables e below (T18.setTop (mkF m 15 #[.val (.ref x1), .val (.int i1)] [(.int (nar .char ((bt &&& (255 : Int32)).toUInt32.toUInt16.toUInt32.toInt32)))])) _
    exact retN X18 hx (t := .char) Bd.returns (by simp) (hb hby d1_15) hr
  · show QChA Z x1 t1 kb nb vb i1 bt zc fm h0 n0 _ T18.heap _
    exact ⟨rfl, N18, by rw [EQ18, EQ13]⟩
theorem ef_exp (m : MethodId) (x0 : Int32) : entryFrame m #[(.int x0)] 1 = mkF m 0 #[.val (.int x0)] [] := by (first | (simp [entryFrame, mkF, argsToLocals, Value.category]; done) | rfl)
def Qexp (Z : State) (p1 : Int32) (u0 : Addr) (u1 : Addr) (u2 : Addr) (u3 : Addr) (u4 : Addr) (u5 : Addr) (u6 : Addr) (u7 : Addr) (u8 : Addr) (h0 : Heap) (n0 : Nat) (v : Option Value) (h : Heap) (L : List Loc) : Prop := v = some (own_of p1 u0 u1 u2 u3 u4 u5 u6 u7 u8) ∧ Fr n0 L ∧ h = h0
theorem pn_com_example_corvid_corvid_symbol_PrimitiveTypeOfDescriptorPinLaw : plainName "com/example/corvid/corvid/symbol/PrimitiveTypeOfDescriptorPinLaw" = true := by first | (simp [plainName, overriddenIn]; done) | decide +kernel
theorem d7_0 : decode method_2_code 0 = .ok (.iload_n 0, 1) := by decide +kernel
theorem d7_1 : decode method_2_code 1 = .ok (.bipush 90, 2) := by decide +kernel
theorem d7_3 : decode method_2_code 3 = .ok (.if_icmp .ne 7, 3) := by decide +kernel
theorem d7_6 : decode method_2_code 6 = .ok (.getstatic 7, 3) := by decide +kernel
theorem d7_9 : decode method_2_code 9 = .ok (.areturn, 1) := by decide +kernel
theorem d7_10 : decode method_2_code 10 = .ok (.iload_n 0, 1) := by decide +kernel
theorem d7_11 : decode method_2_code 11 = .ok (.bipush 66, 2) := by decide +kernel
theorem d7_13 : decode method_2_code 13 = .ok (.if_icmp .ne 7, 3) := by decide +kernel
theorem d7_16 : decode method_2_code 16 = .ok (.getstatic 13, 3) := by decide +kernel
theorem d7_19 : decode method_2_code 19 = .ok (.areturn, 1) := by decide +kernel
theorem d7_20 : decode method_2_code 20 = .ok (.iload_n 0, 1) := by decide +kernel
theorem d7_21 : decode method_2_code 21 = .ok (.bipush 83, 2) := by decide +kernel
theorem d7_23 : decode method_2_code 23 = .ok (.if_icmp .ne 7, 3) := by decide +kernel
theorem d7_26 : decode method_2_code 26 = .ok (.getstatic 16, 3) := by decide +kernel
theorem d7_29 : decode method_2_code 29 = .ok (.areturn, 1) := by decide +kernel
theorem d7_30 : decode method_2_code 30 = .ok (.iload_n 0, 1) := by decide +kernel
theorem d7_31 : decode method_2_code 31 = .ok (.bipush 67, 2) := by decide +kernel
theorem d7_33 : decode method_2_code 33 = .ok (.if_icmp .ne 7, 3) := by decide +kernel
theorem d7_36 : decode method_2_code 36 = .ok (.getstatic 19, 3) := by decide +kernel
theorem d7_39 : decode method_2_code 39 = .ok (.areturn, 1) := by decide +kernel
theorem d7_40 : decode method_2_code 40 = .ok (.iload_n 0, 1) := by decide +kernel
theorem d7_41 : decode method_2_code 41 = .ok (.bipush 73, 2) := by decide +kernel
theorem d7_43 : decode method_2_code 43 = .ok (.if_icmp .ne 7, 3) := by decide +kernel
theorem d7_46 : decode method_2_code 46 = .ok (.getstatic 22, 3) := by decide +kernel
theorem d7_49 : decode method_2_code 49 = .ok (.areturn, 1) := by decide +kernel
theorem d7_50 : decode method_2_code 50 = .ok (.iload_n 0, 1) := by decide +kernel
theorem d7_51 : decode method_2_code 51 = .ok (.bipush 74, 2) := by decide +kernel
theorem d7_53 : decode method_2_code 53 = .ok (.if_icmp .ne 7, 3) := by decide +kernel
theorem d7_56 : decode method_2_code 56 = .ok (.getstatic 25, 3) := by decide +kernel
theorem d7_59 : decode method_2_code 59 = .ok (.areturn, 1) := by decide +kernel
theorem d7_60 : decode method_2_code 60 = .ok (.iload_n 0, 1) := by decide +kernel
theorem d7_61 : decode method_2_code 61 = .ok (.bipush 70, 2) := by decide +kernel
theorem d7_63 : decode method_2_code 63 = .ok (.if_icmp .ne 7, 3) := by decide +kernel
theorem d7_66 : decode method_2_code 66 = .ok (.getstatic 28, 3) := by decide +kernel
theorem d7_69 : decode method_2_code 69 = .ok (.areturn, 1) := by decide +kernel
theorem d7_70 : decode method_2_code 70 = .ok (.iload_n 0, 1) := by decide +kernel
theorem d7_71 : decode method_2_code 71 = .ok (.bipush 68, 2) := by decide +kernel
theorem d7_73 : decode method_2_code 73 = .ok (.if_icmp .ne 7, 3) := by decide +kernel
theorem d7_76 : decode method_2_code 76 = .ok (.getstatic 31, 3) := by decide +kernel
theorem d7_79 : decode method_2_code 79 = .ok (.areturn, 1) := by decide +kernel
theorem d7_80 : decode method_2_code 80 = .ok (.iload_n 0, 1) := by decide +kernel
theorem d7_81 : decode method_2_code 81 = .ok (.bipush 86, 2) := by decide +kernel
theorem d7_83 : decode method_2_code 83 = .ok (.if_icmp .ne 7, 3) := by decide +kernel
theorem d7_86 : decode method_2_code 86 = .ok (.getstatic 34, 3) := by decide +kernel
theorem d7_89 : decode method_2_code 89 = .ok (.areturn, 1) := by decide +kernel
theorem d7_90 : decode method_2_code 90 = .ok (.aconst_null, 1) := by decide +kernel
theorem d7_91 : decode method_2_code 91 = .ok (.areturn, 1) := by decide +kernel
set_option maxRecDepth 65536 in
set_option maxHeartbeats 40000000 in
theorem rmexp (l : Launch) (Z : State) (a0 : Array Value) (hw : ∀ d ∈ tables_1, d.before a0 Z = true) (ws : List Jvm.Cond) (p1 : Int32) (u0 : Addr) (u1 : Addr) (u2 : Addr) (u3 : Addr) (u4 : Addr) (u5 : Addr) (u6 : Addr) (u7 : Addr) (u8 : Addr) (h0 : Heap) (n0 : Nat) (Z0 : n0 ≤ h0.size) (S0 : Sta Z h0 "com/example/corvid/corvid/symbol/PrimitiveType" "BOOLEAN" "Lcom/example/corvid/corvid/symbol/PrimitiveType;" (.ref u0)) (S1 : Sta Z h0 "com/example/corvid/corvid/symbol/PrimitiveType" "BYTE" "Lcom/example/corvid/corvid/symbol/PrimitiveType;" (.ref u1)) (S2 : Sta Z h0 "com/example/corvid/corvid/symbol/PrimitiveType" "SHORT" "Lcom/example/corvid/corvid/symbol/PrimitiveType;" (.ref u2)) (S3 : Sta Z h0 "com/example/corvid/corvid/symbol/PrimitiveType" "CHAR" "Lcom/example/corvid/corvid/symbol/PrimitiveType;" (.ref u3)) (S4 : Sta Z h0 "com/example/corvid/corvid/symbol/PrimitiveType" "INT" "Lcom/example/corvid/corvid/symbol/PrimitiveType;" (.ref u4)) (S5 : Sta Z h0 "com/example/corvid/corvid/symbol/PrimitiveType" "LONG" "Lcom/example/corvid/corvid/symbol/PrimitiveType;" (.ref u5)) (S6 : Sta Z h0 "com/example/corvid/corvid/symbol/PrimitiveType" "FLOAT" "Lcom/example/corvid/corvid/symbol/PrimitiveType;" (.ref u6)) (S7 : Sta Z h0 "com/example/corvid/corvid/symbol/PrimitiveType" "DOUBLE" "Lcom/example/corvid/corvid/symbol/PrimitiveType;" (.ref u7)) (S8 : Sta Z h0 "com/example/corvid/corvid/symbol/PrimitiveType" "VOID" "Lcom/example/corvid/corvid/symbol/PrimitiveType;" (.ref u8)) :
    MetFree l (⟨"com/example/corvid/corvid/symbol/PrimitiveTypeOfDescriptorPinLaw", "expected", "(C)Lcom/example/corvid/corvid/symbol/PrimitiveType;"⟩ : MethodName) (head1 (Jvm.Cond.code (⟨"com/example/corvid/corvid/symbol/PrimitiveTypeOfDescriptorPinLaw", "expected", "(C)Lcom/example/corvid/corvid/symbol/PrimitiveType;"⟩ : MethodName) method_2_code 1 (some (.object "com/example/corvid/corvid/symbol/PrimitiveType")) :: ws) ({ frames := 0, cells := 0, slots := 0, locals := 0 } : Room)) (fun a U => a = #[(.int p1)] ∧ Z.Warmed39 U.vm ∧ U.heap = h0) (fun _ _ _ _ _ => True) (fun _ U o U' => ∃ v L, o = .returned v ∧ Qexp Z p1 u0 u1 u2 u3 u4 u5 u6 u7 u8 h0 n0 v U'.heap L ∧ FrameEnd U o U' L ({ frames := 0, cells := 0, slots := 0, locals := 0 } : Room).cells ({ frames := 0, cells := 0, slots := 0, locals := 0 } : Room).slots) := by
  refine MetFree.of_bodySF (plainFor_of_name pn_com_example_corvid_corvid_symbol_PrimitiveTypeOfDescriptorPinLaw) hisR ?_
  intro p e s m args below meth c s₁ Bd hml0 hP hK
  obtain ⟨rfl, hZ, hh⟩ := hP
  have hx := Bd.exec
  have hby := Bd.bytes
  have hml : c.maxLocals = 1 := hml0
  have hown : s.vm.findClass "com/example/corvid/corvid/symbol/PrimitiveTypeOfDescriptorPinLaw" = some m.cls := findClass_of_methodNamed Bd.named
  have hnm := (name_of_methodNamed Bd.named Bd.method).1
  have X0 : Stand p l e ({ frames := 0, cells := 0, slots := 0, locals := 0 } : Room) s m #[(.int p1)] below meth c s₁ [] 0 0 := Stand.of_body Bd
  have e0 : s₁.heap = h0 := by rw [← hh, Bd.state]; rfl
  have N0 := Fr.nil n0
  have pre0 : ∀ t, Steps p.tables e below (s₁.setTop (mkF m 0 #[.val (.int p1)] [])) t → Steps p.tables e below (s₁.setTop (entryFrame m #[(.int p1)] 1)) t := fun t k => castTop (ef_exp m p1) k
  have pre20 : ∀ t, Steps p.tables e below (s₁.setTop (mkF m 3 #[.val (.int p1)] [(.int (90 : Int32)), (.int p1)])) t → Steps p.tables e below (s₁.setTop (mkF m 0 #[.val (.int p1)] [])) t := by
    intro t kt
    show Steps p.tables e below (s₁.setTop (mkF m 0 #[.val (.int p1)] [])) _
    refine XS.iloadN X0.here hx rfl (hb hby d7_0) rfl ?_
    show Steps p.tables e below (s₁.setTop (mkF m 1 #[.val (.int p1)] [(.int p1)])) _
    refine XS.bipush X0.here hx rfl (hb hby d7_1) ?_
    exact kt
  by_cases c0 : p1 = (90 : Int32)
  · skip
    obtain ⟨T21, X21, e21, st21⟩ := getS2 X0 hx hZ hown (host := "") (Or.inl (hw _ (List.mem_of_getElem? (i := 47) rfl))) Via.refl e0 S0 (g := (mkF m 6 #[.val (.int p1)] [])) rfl (hb hby d7_6)
    have ev : own_of p1 u0 u1 u2 u3 u4 u5 u6 u7 u8 = .ref u0 := by unfold own_of; rw [if_pos c0]
    have pre22 : ∀ t, Steps p.tables e below (T21.setTop (mkF m 9 #[.val (.int p1)] [(.ref u0)])) t → Steps p.tables e below (s₁.setTop (mkF m 3 #[.val (.int p1)] [(.int (90 : Int32)), (.int p1)])) t := by
      intro t kt
      show Steps p.tables e below (s₁.setTop (mkF m 3 #[.val (.int p1)] [(.int (90 : Int32)), (.int p1)])) _
      refine XS.icmpNo X0.here hx rfl (hb hby d7_3) rfl (teq (c0 : p1 = (90 : Int32))).2 ?_
      show Steps p.tables e below (s₁.setTop (mkF m 6 #[.val (.int p1)] [])) _
      refine st21 _ ?_
      exact kt
    obtain ⟨fs, hr, hrun, hended, hW, hsame⟩ := X21.leave (v := some (.ref u0)) (fun h => by rw [Bd.returns] at h; cases h)
    refine ⟨_, _, (pre0 _ (pre20 _ (pre22 _ ?_))), hrun, hended, _, _, rfl, ?_, ⟨_, rfl⟩, hW, hsame.mono (by decide) (by decide)⟩
    · show Steps p.tables e below (T21.setTop (mkF m 9 #[.val (.int p1)] [(.ref u0)])) _
      exact retOut X21 hx (t := (.object "com/example/corvid/corvid/symbol/PrimitiveType")) Bd.returns rfl (Or.inr (Or.inr (Or.inr (Or.inr ⟨rfl, rfl, rfl⟩)))) (hb hby d7_9) hr
    · show Qexp Z p1 u0 u1 u2 u3 u4 u5 u6 u7 u8 h0 n0 _ T21.heap _
      rw [e21]
      exact ⟨by rw [ev], N0, rfl⟩
  · skip
    have pre23 : ∀ t, Steps p.tables e below (s₁.setTop (mkF m 13 #[.val (.int p1)] [(.int (66 : Int32)), (.int p1)])) t → Steps p.tables e below (s₁.setTop (mkF m 3 #[.val (.int p1)] [(.int (90 : Int32)), (.int p1)])) t := by
      intro t kt
      show Steps p.tables e below (s₁.setTop (mkF m 3 #[.val (.int p1)] [(.int (90 : Int32)), (.int p1)])) _
      refine XS.icmpYes X0.here hx rfl (pc0 := 3) (pc' := 10) rfl (hb hby d7_3) rfl (feq (c0 : ¬ (p1 = (90 : Int32)))).2 (by decide) (by decide) ?_
      show Steps p.tables e below (s₁.setTop (mkF m 10 #[.val (.int p1)] [])) _
      refine XS.iloadN X0.here hx rfl (hb hby d7_10) rfl ?_
      show Steps p.tables e below (s₁.setTop (mkF m 11 #[.val (.int p1)] [(.int p1)])) _
      refine XS.bipush X0.here hx rfl (hb hby d7_11) ?_
      exact kt
    by_cases c1 : p1 = (66 : Int32)
    · skip
      obtain ⟨T24, X24, e24, st24⟩ := getS2 X0 hx hZ hown (host := "") (Or.inl (hw _ (List.mem_of_getElem? (i := 45) rfl))) Via.refl e0 S1 (g := (mkF m 16 #[.val (.int p1)] [])) rfl (hb hby d7_16)
      have ev : own_of p1 u0 u1 u2 u3 u4 u5 u6 u7 u8 = .ref u1 := by unfold own_of; rw [if_neg c0, if_pos c1]
      have pre25 : ∀ t, Steps p.tables e below (T24.setTop (mkF m 19 #[.val (.int p1)] [(.ref u1)])) t → Steps p.tables e below (s₁.setTop (mkF m 13 #[.val (.int p1)] [(.int (66 : Int32)), (.int p1)])) t := by
        intro t kt
        show Steps p.tables e below (s₁.setTop (mkF m 13 #[.val (.int p1)] [(.int (66 : Int32)), (.int p1)])) _
        refine XS.icmpNo X0.here hx rfl (hb hby d7_13) rfl (teq (c1 : p1 = (66 : Int32))).2 ?_
        show Steps p.tables e below (s₁.setTop (mkF m 16 #[.val (.int p1)] [])) _
        refine st24 _ ?_
        exact kt
      obtain ⟨fs, hr, hrun, hended, hW, hsame⟩ := X24.leave (v := some (.ref u1)) (fun h => by rw [Bd.returns] at h; cases h)
      refine ⟨_, _, (pre0 _ (pre20 _ (pre23 _ (pre25 _ ?_)))), hrun, hended, _, _, rfl, ?_, ⟨_, rfl⟩, hW, hsame.mono (by decide) (by decide)⟩
      · show Steps p.tables e below (T24.setTop (mkF m 19 #[.val (.int p1)] [(.ref u1)])) _
        exact retOut X24 hx (t := (.object "com/example/corvid/corvid/symbol/PrimitiveType")) Bd.returns rfl (Or.inr (Or.inr (Or.inr (Or.inr ⟨rfl, rfl, rfl⟩)))) (hb hby d7_19) hr
      · show Qexp Z p1 u0 u1 u2 u3 u4 u5 u6 u7 u8 h0 n0 _ T24.heap _
        rw [e24]
        exact ⟨by rw [ev], N0, rfl⟩
    · skip
      have pre26 : ∀ t, Steps p.tables e below (s₁.setTop (mkF m 23 #[.val (.int p1)] [(.int (83 : Int32)), (.int p1)])) t → Steps p.tables e below (s₁.setTop (mkF m 13 #[.val (.int p1)] [(.int (66 : Int32)), (.int p1)])) t := by
        intro t kt
        show Steps p.tables e below (s₁.setTop (mkF m 13 #[.val (.int p1)] [(.int (66 : Int32)), (.int p1)])) _
        refine XS.icmpYes X0.here hx rfl (pc0 := 13) (pc' := 20) rfl (hb hby d7_13) rfl (feq (c1 : ¬ (p1 = (66 : Int32)))).2 (by decide) (by decide) ?_
        show Steps p.tables e below (s₁.setTop (mkF m 20 #[.val (.int p1)] [])) _
        refine XS.iloadN X0.here hx rfl (hb hby d7_20) rfl ?_
        show Steps p.tables e below (s₁.setTop (mkF m 21 #[.val (.int p1)] [(.int p1)])) _
        refine XS.bipush X0.here hx rfl (hb hby d7_21) ?_
        exact kt
      by_cases c2 : p1 = (83 : Int32)
      · skip
        obtain ⟨T27, X27, e27, st27⟩ := getS2 X0 hx hZ hown (host := "") (Or.inl (hw _ (List.mem_of_getElem? (i := 49) rfl))) Via.refl e0 S2 (g := (mkF m 26 #[.val (.int p1)] [])) rfl (hb hby d7_26)
        have ev : own_of p1 u0 u1 u2 u3 u4 u5 u6 u7 u8 = .ref u2 := by unfold own_of; rw [if_neg c0, if_neg c1, if_pos c2]
        have pre28 : ∀ t, Steps p.tables e below (T27.setTop (mkF m 29 #[.val (.int p1)] [(.ref u2)])) t → Steps p.tables e below (s₁.setTop (mkF m 23 #[.val (.int p1)] [(.int (83 : Int32)), (.int p1)])) t := by
          intro t kt
          show Steps p.tables e below (s₁.setTop (mkF m 23 #[.val (.int p1)] [(.int (83 : Int32)), (.int p1)])) _
          refine XS.icmpNo X0.here hx rfl (hb hby d7_23) rfl (teq (c2 : p1 = (83 : Int32))).2 ?_
          show Steps p.tables e below (s₁.setTop (mkF m 26 #[.val (.int p1)] [])) _
          refine st27 _ ?_
          exact kt
        obtain ⟨fs, hr, hrun, hended, hW, hsame⟩ := X27.leave (v := some (.ref u2)) (fun h => by rw [Bd.returns] at h; cases h)
        refine ⟨_, _, (pre0 _ (pre20 _ (pre23 _ (pre26 _ (pre28 _ ?_))))), hrun, hended, _, _, rfl, ?_, ⟨_, rfl⟩, hW, hsame.mono (by decide) (by decide)⟩
        · show Steps p.tables e below (T27.setTop (mkF m 29 #[.val (.int p1)] [(.ref u2)])) _
          exact retOut X27 hx (t := (.object "com/example/corvid/corvid/symbol/PrimitiveType")) Bd.returns rfl (Or.inr (Or.inr (Or.inr (Or.inr ⟨rfl, rfl, rfl⟩)))) (hb hby d7_29) hr
        · show Qexp Z p1 u0 u1 u2 u3 u4 u5 u6 u7 u8 h0 n0 _ T27.heap _
          rw [e27]
          exact ⟨by rw [ev], N0, rfl⟩
      · skip
        have pre29 : ∀ t, Steps p.tables e below (s₁.setTop (mkF m 33 #[.val (.int p1)] [(.int (67 : Int32)), (.int p1)])) t → Steps p.tables e below (s₁.setTop (mkF m 23 #[.val (.int p1)] [(.int (83 : Int32)), (.int p1)])) t := by
          intro t kt
          show Steps p.tables e below (s₁.setTop (mkF m 23 #[.val (.int p1)] [(.int (83 : Int32)), (.int p1)])) _
          refine XS.icmpYes X0.here hx rfl (pc0 := 23) (pc' := 30) rfl (hb hby d7_23) rfl (feq (c2 : ¬ (p1 = (83 : Int32)))).2 (by decide) (by decide) ?_
          show Steps p.tables e below (s₁.setTop (mkF m 30 #[.val (.int p1)] [])) _
          refine XS.iloadN X0.here hx rfl (hb hby d7_30) rfl ?_
          show Steps p.tables e below (s₁.setTop (mkF m 31 #[.val (.int p1)] [(.int p1)])) _
          refine XS.bipush X0.here hx rfl (hb hby d7_31) ?_
          exact kt
        by_cases c3 : p1 = (67 : Int32)
        · skip
          obtain ⟨T30, X30, e30, st30⟩ := getS2 X0 hx hZ hown (host := "") (Or.inl (hw _ (List.mem_of_getElem? (i := 59) rfl))) Via.refl e0 S3 (g := (mkF m 36 #[.val (.int p1)] [])) rfl (hb hby d7_36)
          have ev : own_of p1 u0 u1 u2 u3 u4 u5 u6 u7 u8 = .ref u3 := by unfold own_of; rw [if_neg c0, if_neg c1, if_neg c2, if_pos c3]
          have pre31 : ∀ t, Steps p.tables e below (T30.setTop (mkF m 39 #[.val (.int p1)] [(.ref u3)])) t → Steps p.tables e below (s₁.setTop (mkF m 33 #[.val (.int p1)] [(.int (67 : Int32)), (.int p1)])) t := by
            intro t kt
            show Steps p.tables e below (s₁.setTop (mkF m 33 #[.val (.int p1)] [(.int (67 : Int32)), (.int p1)])) _
            refine XS.icmpNo X0.here hx rfl (hb hby d7_33) rfl (teq (c3 : p1 = (67 : Int32))).2 ?_
            show Steps p.tables e below (s₁.setTop (mkF m 36 #[.val (.int p1)] [])) _
            refine st30 _ ?_
            exact kt
          obtain ⟨fs, hr, hrun, hended, hW, hsame⟩ := X30.leave (v := some (.ref u3)) (fun h => by rw [Bd.returns] at h; cases h)
          refine ⟨_, _, (pre0 _ (pre20 _ (pre23 _ (pre26 _ (pre29 _ (pre31 _ ?_)))))), hrun, hended, _, _, rfl, ?_, ⟨_, rfl⟩, hW, hsame.mono (by decide) (by decide)⟩
          · show Steps p.tables e below (T30.setTop (mkF m 39 #[.val (.int p1)] [(.ref u3)])) _
            exact retOut X30 hx (t := (.object "com/example/corvid/corvid/symbol/PrimitiveType")) Bd.returns rfl (Or.inr (Or.inr (Or.inr (Or.inr ⟨rfl, rfl, rfl⟩)))) (hb hby d7_39) hr
          · show Qexp Z p1 u0 u1 u2 u3 u4 u5 u6 u7 u8 h0 n0 _ T30.heap _
            rw [e30]
            exact ⟨by rw [ev], N0, rfl⟩
        · skip
          have pre32 : ∀ t, Steps p.tables e below (s₁.setTop (mkF m 43 #[.val (.int p1)] [(.int (73 : Int32)), (.int p1)])) t → Steps p.tables e below (s₁.setTop (mkF m 33 #[.val (.int p1)] [(.int (67 : Int32)), (.int p1)])) t := by
            intro t kt
            show Steps p.tables e below (s₁.setTop (mkF m 33 #[.val (.int p1)] [(.int (67 : Int32)), (.int p1)])) _
            refine XS.icmpYes X0.here hx rfl (pc0 := 33) (pc' := 40) rfl (hb hby d7_33) rfl (feq (c3 : ¬ (p1 = (67 : Int32)))).2 (by decide) (by decide) ?_
            show Steps p.tables e below (s₁.setTop (mkF m 40 #[.val (.int p1)] [])) _
            refine XS.iloadN X0.here hx rfl (hb hby d7_40) rfl ?_
            show Steps p.tables e below (s₁.setTop (mkF m 41 #[.val (.int p1)] [(.int p1)])) _
            refine XS.bipush X0.here hx rfl (hb hby d7_41) ?_
            exact kt
          by_cases c4 : p1 = (73 : Int32)
          · skip
            obtain ⟨T33, X33, e33, st33⟩ := getS2 X0 hx hZ hown (host := "") (Or.inl (hw _ (List.mem_of_getElem? (i := 61) rfl))) Via.refl e0 S4 (g := (mkF m 46 #[.val (.int p1)] [])) rfl (hb hby d7_46)
            have ev : own_of p1 u0 u1 u2 u3 u4 u5 u6 u7 u8 = .ref u4 := by unfold own_of; rw [if_neg c0, if_neg c1, if_neg c2, if_neg c3, if_pos c4]
            have pre34 : ∀ t, Steps p.tables e below (T33.setTop (mkF m 49 #[.val (.int p1)] [(.ref u4)])) t → Steps p.tables e below (s₁.setTop (mkF m 43 #[.val (.int p1)] [(.int (73 : Int32)), (.int p1)])) t := by
              intro t kt
              show Steps p.tables e below (s₁.setTop (mkF m 43 #[.val (.int p1)] [(.int (73 : Int32)), (.int p1)])) _
              refine XS.icmpNo X0.here hx rfl (hb hby d7_43) rfl (teq (c4 : p1 = (73 : Int32))).2 ?_
              show Steps p.tables e below (s₁.setTop (mkF m 46 #[.val (.int p1)] [])) _
              refine st33 _ ?_
              exact kt
            obtain ⟨fs, hr, hrun, hended, hW, hsame⟩ := X33.leave (v := some (.ref u4)) (fun h => by rw [Bd.returns] at h; cases h)
            refine ⟨_, _, (pre0 _ (pre20 _ (pre23 _ (pre26 _ (pre29 _ (pre32 _ (pre34 _ ?_))))))), hrun, hended, _, _, rfl, ?_, ⟨_, rfl⟩, hW, hsame.mono (by decide) (by decide)⟩
            · show Steps p.tables e below (T33.setTop (mkF m 49 #[.val (.int p1)] [(.ref u4)])) _
              exact retOut X33 hx (t := (.object "com/example/corvid/corvid/symbol/PrimitiveType")) Bd.returns rfl (Or.inr (Or.inr (Or.inr (Or.inr ⟨rfl, rfl, rfl⟩)))) (hb hby d7_49) hr
            · show Qexp Z p1 u0 u1 u2 u3 u4 u5 u6 u7 u8 h0 n0 _ T33.heap _
              rw [e33]
              exact ⟨by rw [ev], N0, rfl⟩
          · skip
            have pre35 : ∀ t, Steps p.tables e below (s₁.setTop (mkF m 53 #[.val (.int p1)] [(.int (74 : Int32)), (.int p1)])) t → Steps p.tables e below (s₁.setTop (mkF m 43 #[.val (.int p1)] [(.int (73 : Int32)), (.int p1)])) t := by
              intro t kt
              show Steps p.tables e below (s₁.setTop (mkF m 43 #[.val (.int p1)] [(.int (73 : Int32)), (.int p1)])) _
              refine XS.icmpYes X0.here hx rfl (pc0 := 43) (pc' := 50) rfl (hb hby d7_43) rfl (feq (c4 : ¬ (p1 = (73 : Int32)))).2 (by decide) (by decide) ?_
              show Steps p.tables e below (s₁.setTop (mkF m 50 #[.val (.int p1)] [])) _
              refine XS.iloadN X0.here hx rfl (hb hby d7_50) rfl ?_
              show Steps p.tables e below (s₁.setTop (mkF m 51 #[.val (.int p1)] [(.int p1)])) _
              refine XS.bipush X0.here hx rfl (hb hby d7_51) ?_
              exact kt
            by_cases c5 : p1 = (74 : Int32)
            · skip
              obtain ⟨T36, X36, e36, st36⟩ := getS2 X0 hx hZ hown (host := "") (Or.inl (hw _ (List.mem_of_getElem? (i := 57) rfl))) Via.refl e0 S5 (g := (mkF m 56 #[.val (.int p1)] [])) rfl (hb hby d7_56)
              have ev : own_of p1 u0 u1 u2 u3 u4 u5 u6 u7 u8 = .ref u5 := by unfold own_of; rw [if_neg c0, if_neg c1, if_neg c2, if_neg c3, if_neg c4, if_pos c5]
              have pre37 : ∀ t, Steps p.tables e below (T36.setTop (mkF m 59 #[.val (.int p1)] [(.ref u5)])) t → Steps p.tables e below (s₁.setTop (mkF m 53 #[.val (.int p1)] [(.int (74 : Int32)), (.int p1)])) t := by
                intro t kt
                show Steps p.tables e below (s₁.setTop (mkF m 53 #[.val (.int p1)] [(.int (74 : Int32)), (.int p1)])) _
                refine XS.icmpNo X0.here hx rfl (hb hby d7_53) rfl (teq (c5 : p1 = (74 : Int32))).2 ?_
                show Steps p.tables e below (s₁.setTop (mkF m 56 #[.val (.int p1)] [])) _
                refine st36 _ ?_
                exact kt
              obtain ⟨fs, hr, hrun, hended, hW, hsame⟩ := X36.leave (v := some (.ref u5)) (fun h => by rw [Bd.returns] at h; cases h)
              refine ⟨_, _, (pre0 _ (pre20 _ (pre23 _ (pre26 _ (pre29 _ (pre32 _ (pre35 _ (pre37 _ ?_)))))))), hrun, hended, _, _, rfl, ?_, ⟨_, rfl⟩, hW, hsame.mono (by decide) (by decide)⟩
              · show Steps p.tables e below (T36.setTop (mkF m 59 #[.val (.int p1)] [(.ref u5)])) _
                exact retOut X36 hx (t := (.object "com/example/corvid/corvid/symbol/PrimitiveType")) Bd.returns rfl (Or.inr (Or.inr (Or.inr (Or.inr ⟨rfl, rfl, rfl⟩)))) (hb hby d7_59) hr
              · show Qexp Z p1 u0 u1 u2 u3 u4 u5 u6 u7 u8 h0 n0 _ T36.heap _
                rw [e36]
                exact ⟨by rw [ev], N0, rfl⟩
            · skip
              have pre38 : ∀ t, Steps p.tables e below (s₁.setTop (mkF m 63 #[.val (.int p1)] [(.int (70 : Int32)), (.int p1)])) t → Steps p.tables e below (s₁.setTop (mkF m 53 #[.val (.int p1)] [(.int (74 : Int32)), (.int p1)])) t := by
                intro t kt
                show Steps p.tables e below (s₁.setTop (mkF m 53 #[.val (.int p1)] [(.int (74 : Int32)), (.int p1)])) _
                refine XS.icmpYes X0.here hx rfl (pc0 := 53) (pc' := 60) rfl (hb hby d7_53) rfl (feq (c5 : ¬ (p1 = (74 : Int32)))).2 (by decide) (by decide) ?_
                show Steps p.tables e below (s₁.setTop (mkF m 60 #[.val (.int p1)] [])) _
                refine XS.iloadN X0.here hx rfl (hb hby d7_60) rfl ?_
                show Steps p.tables e below (s₁.setTop (mkF m 61 #[.val (.int p1)] [(.int p1)])) _
                refine XS.bipush X0.here hx rfl (hb hby d7_61) ?_
                exact kt
              by_cases c6 : p1 = (70 : Int32)
              · skip
                obtain ⟨T39, X39, e39, st39⟩ := getS2 X0 hx hZ hown (host := "") (Or.inl (hw _ (List.mem_of_getElem? (i := 51) rfl))) Via.refl e0 S6 (g := (mkF m 66 #[.val (.int p1)] [])) rfl (hb hby d7_66)
                have ev : own_of p1 u0 u1 u2 u3 u4 u5 u6 u7 u8 = .ref u6 := by unfold own_of; rw [if_neg c0, if_neg c1, if_neg c2, if_neg c3, if_neg c4, if_neg c5, if_pos c6]
                have pre40 : ∀ t, Steps p.tables e below (T39.setTop (mkF m 69 #[.val (.int p1)] [(.ref u6)])) t → Steps p.tables e below (s₁.setTop (mkF m 63 #[.val (.int p1)] [(.int (70 : Int32)), (.int p1)])) t := by
                  intro t kt
                  show Steps p.tables e below (s₁.setTop (mkF m 63 #[.val (.int p1)] [(.int (70 : Int32)), (.int p1)])) _
                  refine XS.icmpNo X0.here hx rfl (hb hby d7_63) rfl (teq (c6 : p1 = (70 : Int32))).2 ?_
                  show Steps p.tables e below (s₁.setTop (mkF m 66 #[.val (.int p1)] [])) _
                  refine st39 _ ?_
                  exact kt
                obtain ⟨fs, hr, hrun, hended, hW, hsame⟩ := X39.leave (v := some (.ref u6)) (fun h => by rw [Bd.returns] at h; cases h)
                refine ⟨_, _, (pre0 _ (pre20 _ (pre23 _ (pre26 _ (pre29 _ (pre32 _ (pre35 _ (pre38 _ (pre40 _ ?_))))))))), hrun, hended, _, _, rfl, ?_, ⟨_, rfl⟩, hW, hsame.mono (by decide) (by decide)⟩
                · show Steps p.tables e below (T39.setTop (mkF m 69 #[.val (.int p1)] [(.ref u6)])) _
                  exact retOut X39 hx (t := (.object "com/example/corvid/corvid/symbol/PrimitiveType")) Bd.returns rfl (Or.inr (Or.inr (Or.inr (Or.inr ⟨rfl, rfl, rfl⟩)))) (hb hby d7_69) hr
                · show Qexp Z p1 u0 u1 u2 u3 u4 u5 u6 u7 u8 h0 n0 _ T39.heap _
                  rw [e39]
                  exact ⟨by rw [ev], N0, rfl⟩
              · skip
                have pre41 : ∀ t, Steps p.tables e below (s₁.setTop (mkF m 73 #[.val (.int p1)] [(.int (68 : Int32)), (.int p1)])) t → Steps p.tables e below (s₁.setTop (mkF m 63 #[.val (.int p1)] [(.int (70 : Int32)), (.int p1)])) t := by
                  intro t kt
                  show Steps p.tables e below (s₁.setTop (mkF m 63 #[.val (.int p1)] [(.int (70 : Int32)), (.int p1)])) _
                  refine XS.icmpYes X0.here hx rfl (pc0 := 63) (pc' := 70) rfl (hb hby d7_63) rfl (feq (c6 : ¬ (p1 = (70 : Int32)))).2 (by decide) (by decide) ?_
                  show Steps p.tables e below (s₁.setTop (mkF m 70 #[.val (.int p1)] [])) _
                  refine XS.iloadN X0.here hx rfl (hb hby d7_70) rfl ?_
                  show Steps p.tables e below (s₁.setTop (mkF m 71 #[.val (.int p1)] [(.int p1)])) _
                  refine XS.bipush X0.here hx rfl (hb hby d7_71) ?_
                  exact kt
                by_cases c7 : p1 = (68 : Int32)
                · skip
                  obtain ⟨T42, X42, e42, st42⟩ := getS2 X0 hx hZ hown (host := "") (Or.inl (hw _ (List.mem_of_getElem? (i := 55) rfl))) Via.refl e0 S7 (g := (mkF m 76 #[.val (.int p1)] [])) rfl (hb hby d7_76)
                  have ev : own_of p1 u0 u1 u2 u3 u4 u5 u6 u7 u8 = .ref u7 := by unfold own_of; rw [if_neg c0, if_neg c1, if_neg c2, if_neg c3, if_neg c4, if_neg c5, if_neg c6, if_pos c7]
                  have pre43 : ∀ t, Steps p.tables e below (T42.setTop (mkF m 79 #[.val (.int p1)] [(.ref u7)])) t → Steps p.tables e below (s₁.setTop (mkF m 73 #[.val (.int p1)] [(.int (68 : Int32)), (.int p1)])) t := by
                    intro t kt
                    show Steps p.tables e below (s₁.setTop (mkF m 73 #[.val (.int p1)] [(.int (68 : Int32)), (.int p1)])) _
                    refine XS.icmpNo X0.here hx rfl (hb hby d7_73) rfl (teq (c7 : p1 = (68 : Int32))).2 ?_
                    show Steps p.tables e below (s₁.setTop (mkF m 76 #[.val (.int p1)] [])) _
                    refine st42 _ ?_
                    exact kt
                  obtain ⟨fs, hr, hrun, hended, hW, hsame⟩ := X42.leave (v := some (.ref u7)) (fun h => by rw [Bd.returns] at h; cases h)
                  refine ⟨_, _, (pre0 _ (pre20 _ (pre23 _ (pre26 _ (pre29 _ (pre32 _ (pre35 _ (pre38 _ (pre41 _ (pre43 _ ?_)))))))))), hrun, hended, _, _, rfl, ?_, ⟨_, rfl⟩, hW, hsame.mono (by decide) (by decide)⟩
                  · show Steps p.tables e below (T42.setTop (mkF m 79 #[.val (.int p1)] [(.ref u7)])) _
                    exact retOut X42 hx (t := (.object "com/example/corvid/corvid/symbol/PrimitiveType")) Bd.returns rfl (Or.inr (Or.inr (Or.inr (Or.inr ⟨rfl, rfl, rfl⟩)))) (hb hby d7_79) hr
                  · show Qexp Z p1 u0 u1 u2 u3 u4 u5 u6 u7 u8 h0 n0 _ T42.heap _
                    rw [e42]
                    exact ⟨by rw [ev], N0, rfl⟩
                · skip
                  have pre44 : ∀ t, Steps p.tables e below (s₁.setTop (mkF m 83 #[.val (.int p1)] [(.int (86 : Int32)), (.int p1)])) t → Steps p.tables e below (s₁.setTop (mkF m 73 #[.val (.int p1)] [(.int (68 : Int32)), (.int p1)])) t := by
                    intro t kt
                    show Steps p.tables e below (s₁.setTop (mkF m 73 #[.val (.int p1)] [(.int (68 : Int32)), (.int p1)])) _
                    refine XS.icmpYes X0.here hx rfl (pc0 := 73) (pc' := 80) rfl (hb hby d7_73) rfl (feq (c7 : ¬ (p1 = (68 : Int32)))).2 (by decide) (by decide) ?_
                    show Steps p.tables e below (s₁.setTop (mkF m 80 #[.val (.int p1)] [])) _
                    refine XS.iloadN X0.here hx rfl (hb hby d7_80) rfl ?_
                    show Steps p.tables e below (s₁.setTop (mkF m 81 #[.val (.int p1)] [(.int p1)])) _
                    refine XS.bipush X0.here hx rfl (hb hby d7_81) ?_
                    exact kt
                  by_cases c8 : p1 = (86 : Int32)
                  · skip
                    obtain ⟨T45, X45, e45, st45⟩ := getS2 X0 hx hZ hown (host := "") (Or.inl (hw _ (List.mem_of_getElem? (i := 53) rfl))) Via.refl e0 S8 (g := (mkF m 86 #[.val (.int p1)] [])) rfl (hb hby d7_86)
                    have ev : own_of p1 u0 u1 u2 u3 u4 u5 u6 u7 u8 = .ref u8 := by unfold own_of; rw [if_neg c0, if_neg c1, if_neg c2, if_neg c3, if_neg c4, if_neg c5, if_neg c6, if_neg c7, if_pos c8]
                    have pre46 : ∀ t, Steps p.tables e below (T45.setTop (mkF m 89 #[.val (.int p1)] [(.ref u8)])) t → Steps p.tables e below (s₁.setTop (mkF m 83 #[.val (.int p1)] [(.int (86 : Int32)), (.int p1)])) t := by
                      intro t kt
                      show Steps p.tables e below (s₁.setTop (mkF m 83 #[.val (.int p1)] [(.int (86 : Int32)), (.int p1)])) _
                      refine XS.icmpNo X0.here hx rfl (hb hby d7_83) rfl (teq (c8 : p1 = (86 : Int32))).2 ?_
                      show Steps p.tables e below (s₁.setTop (mkF m 86 #[.val (.int p1)] [])) _
                      refine st45 _ ?_
                      exact kt
                    obtain ⟨fs, hr, hrun, hended, hW, hsame⟩ := X45.leave (v := some (.ref u8)) (fun h => by rw [Bd.returns] at h; cases h)
                    refine ⟨_, _, (pre0 _ (pre20 _ (pre23 _ (pre26 _ (pre29 _ (pre32 _ (pre35 _ (pre38 _ (pre41 _ (pre44 _ (pre46 _ ?_))))))))))), hrun, hended, _, _, rfl, ?_, ⟨_, rfl⟩, hW, hsame.mono (by decide) (by decide)⟩
                    · show Steps p.tables e below (T45.setTop (mkF m 89 #[.val (.int p1)] [(.ref u8)])) _
                      exact retOut X45 hx (t := (.object "com/example/corvid/corvid/symbol/PrimitiveType")) Bd.returns rfl (Or.inr (Or.inr (Or.inr (Or.inr ⟨rfl, rfl, rfl⟩)))) (hb hby d7_89) hr
                    · show Qexp Z p1 u0 u1 u2 u3 u4 u5 u6 u7 u8 h0 n0 _ T45.heap _
                      rw [e45]
                      exact ⟨by rw [ev], N0, rfl⟩
                  · skip
                    have ev : own_of p1 u0 u1 u2 u3 u4 u5 u6 u7 u8 = .null := by unfold own_of; rw [if_neg c0, if_neg c1, if_neg c2, if_neg c3, if_neg c4, if_neg c5, if_neg c6, if_neg c7, if_neg c8]
                    have pre47 : ∀ t, Steps p.tables e below (s₁.setTop (mkF m 91 #[.val (.int p1)] [.null])) t → Steps p.tables e below (s₁.setTop (mkF m 83 #[.val (.int p1)] [(.int (86 : Int32)), (.int p1)])) t := by
                      intro t kt
                      show Steps p.tables e below (s₁.setTop (mkF m 83 #[.val (.int p1)] [(.int (86 : Int32)), (.int p1)])) _
                      refine XS.icmpYes X0.here hx rfl (pc0 := 83) (pc' := 90) rfl (hb hby d7_83) rfl (feq (c8 : ¬ (p1 = (86 : Int32)))).2 (by decide) (by decide) ?_
                      show Steps p.tables e below (s₁.setTop (mkF m 90 #[.val (.int p1)] [])) _
                      refine XS.aconstNull X0.here hx rfl (hb hby d7_90) ?_
                      exact kt
                    obtain ⟨fs, hr, hrun, hended, hW, hsame⟩ := X0.leave (v := some .null) (fun h => by rw [Bd.returns] at h; cases h)
                    refine ⟨_, _, (pre0 _ (pre20 _ (pre23 _ (pre26 _ (pre29 _ (pre32 _ (pre35 _ (pre38 _ (pre41 _ (pre44 _ (pre47 _ ?_))))))))))), hrun, hended, _, _, rfl, ?_, ⟨_, rfl⟩, hW, hsame.mono (by decide) (by decide)⟩
                    · show Steps p.tables e below (s₁.setTop (mkF m 91 #[.val (.int p1)] [.null])) _
                      exact retOut X0 hx (t := (.object "com/example/corvid/corvid/symbol/PrimitiveType")) Bd.returns rfl (Or.inr (Or.inr (Or.inr (Or.inr ⟨rfl, rfl, rfl⟩)))) (hb hby d7_91) hr
                    · show Qexp Z p1 u0 u1 u2 u3 u4 u5 u6 u7 u8 h0 n0 _ s₁.heap _
                      rw [e0]
                      exact ⟨by rw [ev], N0, rfl⟩
theorem ef_ofd (m : MethodId) (x0 : Int32) : entryFrame m #[(.int x0)] 5 = mkF m 0 #[.val (.int x0), .unset, .unset, .unset, .unset] [] := by (first | (simp [entryFrame, mkF, argsToLocals, Value.category]; done) | rfl)
def Qofd (Z : State) (p1 : Int32) (u0 : Addr) (u1 : Addr) (u2 : Addr) (u3 : Addr) (u4 : Addr) (u5 : Addr) (u6 : Addr) (u7 : Addr) (u8 : Addr) (aA : Addr) (kA : ClassId) (h0 : Heap) (n0 : Nat) (v : Option Value) (h : Heap) (L : List Loc) : Prop := v = some (own_of p1 u0 u1 u2 u3 u4 u5 u6 u7 u8) ∧ Fr n0 L ∧ h = h0
theorem pn_com_example_corvid_corvid_symbol_PrimitiveType : plainName "com/example/corvid/corvid/symbol/PrimitiveType" = true := by first | (simp [plainName, overriddenIn]; done) | decide +kernel
theorem d6_0 : decode prog_33_method_2_code 0 = .ok (.getstatic 21, 3) := by decide +kernel
theorem d6_3 : decode prog_33_method_2_code 3 = .ok (.astore_n 1, 1) := by decide +kernel
theorem d6_4 : decode prog_33_method_2_code 4 = .ok (.aload_n 1, 1) := by decide +kernel
theorem d6_5 : decode prog_33_method_2_code 5 = .ok (.arraylength, 1) := by decide +kernel
theorem d6_6 : decode prog_33_method_2_code 6 = .ok (.istore_n 2, 1) := by decide +kernel
theorem d6_7 : decode prog_33_method_2_code 7 = .ok (.iconst 0, 1) := by decide +kernel
theorem d6_8 : decode prog_33_method_2_code 8 = .ok (.istore_n 3, 1) := by decide +kernel
theorem d6_9 : decode prog_33_method_2_code 9 = .ok (.iload_n 3, 1) := by decide +kernel
theorem d6_10 : decode prog_33_method_2_code 10 = .ok (.iload_n 2, 1) := by decide +kernel
theorem d6_11 : decode prog_33_method_2_code 11 = .ok (.if_icmp .ge 26, 3) := by decide +kernel
theorem d6_14 : decode prog_33_method_2_code 14 = .ok (.aload_n 1, 1) := by decide +kernel
theorem d6_15 : decode prog_33_method_2_code 15 = .ok (.iload_n 3, 1) := by decide +kernel
theorem d6_16 : decode prog_33_method_2_code 16 = .ok (.aaload, 1) := by decide +kernel
theorem d6_17 : decode prog_33_method_2_code 17 = .ok (.astore 4, 2) := by decide +kernel
theorem d6_19 : decode prog_33_method_2_code 19 = .ok (.aload 4, 2) := by decide +kernel
theorem d6_21 : decode prog_33_method_2_code 21 = .ok (.getfield 13, 3) := by decide +kernel
theorem d6_24 : decode prog_33_method_2_code 24 = .ok (.iload_n 0, 1) := by decide +kernel
theorem d6_25 : decode prog_33_method_2_code 25 = .ok (.if_icmp .ne 6, 3) := by decide +kernel
theorem d6_28 : decode prog_33_method_2_code 28 = .ok (.aload 4, 2) := by decide +kernel
theorem d6_30 : decode prog_33_method_2_code 30 = .ok (.areturn, 1) := by decide +kernel
theorem d6_31 : decode prog_33_method_2_code 31 = .ok (.iinc 3 1, 3) := by decide +kernel
theorem d6_34 : decode prog_33_method_2_code 34 = .ok (.goto (-25), 3) := by decide +kernel
theorem d6_37 : decode prog_33_method_2_code 37 = .ok (.aconst_null, 1) := by decide +kernel
theorem d6_38 : decode prog_33_method_2_code 38 = .ok (.areturn, 1) := by decide +kernel
set_option maxRecDepth 65536 in
set_option maxHeartbeats 40000000 in
theorem rmofd (l : Launch) (Z : State) (a0 : Array Value) (hw : ∀ d ∈ tables_1, d.before a0 Z = true) (ws : List Jvm.Cond) (p1 : Int32) (u0 : Addr) (u1 : Addr) (u2 : Addr) (u3 : Addr) (u4 : Addr) (u5 : Addr) (u6 : Addr) (u7 : Addr) (u8 : Addr) (aA : Addr) (kA : ClassId) (h0 : Heap) (n0 : Nat) (Z0 : n0 ≤ h0.size) (SA : Sta Z h0 "com/example/corvid/corvid/symbol/PrimitiveType" "ALL" "[Lcom/example/corvid/corvid/symbol/PrimitiveType;" (.ref aA)) (KA : Arv Z h0 aA kA (.object "com/example/corvid/corvid/symbol/PrimitiveType") (9 : Int32) [.ref u0, .ref u1, .ref u2, .ref u3, .ref u4, .ref u5, .ref u6, .ref u7, .ref u8] .null) (F0 : Fld Z h0 u0 "com/example/corvid/corvid/symbol/PrimitiveType" "descriptor" "C" (.int (90 : Int32))) (F1 : Fld Z h0 u1 "com/example/corvid/corvid/symbol/PrimitiveType" "descriptor" "C" (.int (66 : Int32))) (F2 : Fld Z h0 u2 "com/example/corvid/corvid/symbol/PrimitiveType" "descriptor" "C" (.int (83 : Int32))) (F3 : Fld Z h0 u3 "com/example/corvid/corvid/symbol/PrimitiveType" "descriptor" "C" (.int (67 : Int32))) (F4 : Fld Z h0 u4 "com/example/corvid/corvid/symbol/PrimitiveType" "descriptor" "C" (.int (73 : Int32))) (F5 : Fld Z h0 u5 "com/example/corvid/corvid/symbol/PrimitiveType" "descriptor" "C" (.int (74 : Int32))) (F6 : Fld Z h0 u6 "com/example/corvid/corvid/symbol/PrimitiveType" "descriptor" "C" (.int (70 : Int32))) (F7 : Fld Z h0 u7 "com/example/corvid/corvid/symbol/PrimitiveType" "descriptor" "C" (.int (68 : Int32))) (F8 : Fld Z h0 u8 "com/example/corvid/corvid/symbol/PrimitiveType" "descriptor" "C" (.int (86 : Int32))) :
    MetFree l (⟨"com/example/corvid/corvid/symbol/PrimitiveType", "ofDescriptor", "(C)Lcom/example/corvid/corvid/symbol/PrimitiveType;"⟩ : MethodName) (head1 (Jvm.Cond.code (⟨"com/example/corvid/corvid/symbol/PrimitiveType", "ofDescriptor", "(C)Lcom/example/corvid/corvid/symbol/PrimitiveType;"⟩ : MethodName) prog_33_method_2_code 5 (some (.object "com/example/corvid/corvid/symbol/PrimitiveType")) :: ws) ({ frames := 0, cells := 0, slots := 0, locals := 0 } : Room)) (fun a U => a = #[(.int p1)] ∧ Z.Warmed39 U.vm ∧ U.heap = h0) (fun _ _ _ _ _ => True) (fun _ U o U' => ∃ v L, o = .returned v ∧ Qofd Z p1 u0 u1 u2 u3 u4 u5 u6 u7 u8 aA kA h0 n0 v U'.heap L ∧ FrameEnd U o U' L ({ frames := 0, cells := 0, slots := 0, locals := 0 } : Room).cells ({ frames := 0, cells := 0, slots := 0, locals := 0 } : Room).slots) := by
  refine MetFree.of_bodySF (plainFor_of_name pn_com_example_corvid_corvid_symbol_PrimitiveType) hisR ?_
  intro p e s m args below meth c s₁ Bd hml0 hP hK
  obtain ⟨rfl, hZ, hh⟩ := hP
  have hx := Bd.exec
  have hby := Bd.bytes
  have hml : c.maxLocals = 5 := hml0
  have hown : s.vm.findClass "com/example/corvid/corvid/symbol/PrimitiveType" = some m.cls := findClass_of_methodNamed Bd.named
  have hnm := (name_of_methodNamed Bd.named Bd.method).1
  have X0 : Stand p l e ({ frames := 0, cells := 0, slots := 0, locals := 0 } : Room) s m #[(.int p1)] below meth c s₁ [] 0 0 := Stand.of_body Bd
  have e0 : s₁.heap = h0 := by rw [← hh, Bd.state]; rfl
  have N0 := Fr.nil n0
  have pre0 : ∀ t, Steps p.tables e below (s₁.setTop (mkF m 0 #[.val (.int p1), .unset, .unset, .unset, .unset] [])) t → Steps p.tables e below (s₁.setTop (entryFrame m #[(.int p1)] 5)) t := fun t k => castTop (ef_ofd m p1) k
  obtain ⟨T48, X48, e48, st48⟩ := getS2 X0 hx hZ hown (host := "") (Or.inl (hw _ (List.mem_of_getElem? (i := 37) rfl))) Via.refl e0 SA (g := (mkF m 0 #[.val (.int p1), .unset, .unset, .unset, .unset] [])) rfl (hb hby d6_0)
  obtain ⟨c49, Ar49, -, S49, M49, -, -⟩ := id KA
  obtain ⟨c50, Ar50, q50, S50, M50, H50, G50⟩ := id KA
  have hin50 : ¬ ((0 : Int32) < 0 ∨ c50.slots.size ≤ ((0 : Int32)).toNatClampNeg) := inb_of S50 ⟨by decide, by decide⟩
  have hat50 : c50.slots[((0 : Int32)).toNatClampNeg]? = some (.ref u0) := H50 _ (by rw [S50]; decide)
  obtain ⟨T51, X51, e51, st51⟩ := getF X48 hx hZ hown (host := "") (Or.inl (hw _ (List.mem_of_getElem? (i := 39) rfl))) Via.refl e48 F0 (g := (mkF m 21 #[.val (.int p1), .val (.ref aA), .val (.int (9 : Int32)), .val (.int (0 : Int32)), .val (.ref u0)] [(.ref u0)])) rfl rfl (hb hby d6_21)
  have pre52 : ∀ t, Steps p.tables e below (T51.setTop (mkF m 25 #[.val (.int p1), .val (.ref aA), .val (.int (9 : Int32)), .val (.int (0 : Int32)), .val (.ref u0)] [(.int p1), (.int (90 : Int32))])) t → Steps p.tables e below (s₁.setTop (mkF m 0 #[.val (.int p1), .unset, .unset, .unset, .unset] [])) t := by
    intro t kt
    show Steps p.tables e below (s₁.setTop (mkF m 0 #[.val (.int p1), .unset, .unset, .unset, .unset] [])) _
    refine st48 _ ?_
    show Steps p.tables e below (T48.setTop (mkF m 3 #[.val (.int p1), .unset, .unset, .unset, .unset] [(.ref aA)])) _
    refine XS.astoreN X48.here hx rfl (hb hby d6_3) rfl rfl (l' := #[.val (.int p1), .val (.ref aA), .unset, .unset, .unset]) rfl ?_
    show Steps p.tables e below (T48.setTop (mkF m 4 #[.val (.int p1), .val (.ref aA), .unset, .unset, .unset] [])) _
    refine XS.aloadN X48.here hx rfl (hb hby d6_4) rfl rfl ?_
    show Steps p.tables e below (T48.setTop (mkF m 5 #[.val (.int p1), .val (.ref aA), .unset, .unset, .unset] [(.ref aA)])) _
    refine X48.arraylength hx (by rw [e48]; exact Ar49.1) (State.isArrayOf_alike hZ.alike Ar49.2.1) (g := (mkF m 5 #[.val (.int p1), .val (.ref aA), .unset, .unset, .unset] [(.ref aA)])) rfl rfl (hb hby d6_5) _ ?_
    rw [len_of S49 M49]
    show Steps p.tables e below (T48.setTop (mkF m 6 #[.val (.int p1), .val (.ref aA), .unset, .unset, .unset] [(.int (9 : Int32))])) _
    refine XS.istoreN X48.here hx rfl (hb hby d6_6) rfl (l' := #[.val (.int p1), .val (.ref aA), .val (.int (9 : Int32)), .unset, .unset]) rfl ?_
    show Steps p.tables e below (T48.setTop (mkF m 7 #[.val (.int p1), .val (.ref aA), .val (.int (9 : Int32)), .unset, .unset] [])) _
    refine XS.iconst X48.here hx rfl (hb hby d6_7) ?_
    show Steps p.tables e below (T48.setTop (mkF m 8 #[.val (.int p1), .val (.ref aA), .val (.int (9 : Int32)), .unset, .unset] [(.int (0 : Int32))])) _
    refine XS.istoreN X48.here hx rfl (hb hby d6_8) rfl (l' := #[.val (.int p1), .val (.ref aA), .val (.int (9 : Int32)), .val (.int (0 : Int32)), .unset]) rfl ?_
    show Steps p.tables e below (T48.setTop (mkF m 9 #[.val (.int p1), .val (.ref aA), .val (.int (9 : Int32)), .val (.int (0 : Int32)), .unset] [])) _
    refine XS.iloadN X48.here hx rfl (hb hby d6_9) rfl ?_
    show Steps p.tables e below (T48.setTop (mkF m 10 #[.val (.int p1), .val (.ref aA), .val (.int (9 : Int32)), .val (.int (0 : Int32)), .unset] [(.int (0 : Int32))])) _
    refine XS.iloadN X48.here hx rfl (hb hby d6_10) rfl ?_
    show Steps p.tables e below (T48.setTop (mkF m 11 #[.val (.int p1), .val (.ref aA), .val (.int (9 : Int32)), .val (.int (0 : Int32)), .unset] [(.int (9 : Int32)), (.int (0 : Int32))])) _
    refine XS.icmpNo X48.here hx rfl (hb hby d6_11) rfl (tlt (by decide : (0 : Int32) < (9 : Int32))).2.1 ?_
    show Steps p.tables e below (T48.setTop (mkF m 14 #[.val (.int p1), .val (.ref aA), .val (.int (9 : Int32)), .val (.int (0 : Int32)), .unset] [])) _
    refine XS.aloadN X48.here hx rfl (hb hby d6_14) rfl rfl ?_
    show Steps p.tables e below (T48.setTop (mkF m 15 #[.val (.int p1), .val (.ref aA), .val (.int (9 : Int32)), .val (.int (0 : Int32)), .unset] [(.ref aA)])) _
    refine XS.iloadN X48.here hx rfl (hb hby d6_15) rfl ?_
    show Steps p.tables e below (T48.setTop (mkF m 16 #[.val (.int p1), .val (.ref aA), .val (.int (9 : Int32)), .val (.int (0 : Int32)), .unset] [(.int (0 : Int32)), (.ref aA)])) _
    refine X48.aaload hx (j := (0 : Int32)) (v := (.ref u0)) (by rw [e48]; exact Ar50.1) (State.isArrayOf_alike hZ.alike Ar50.2.1) rfl Ar50.2.2 hin50 hat50 (g := (mkF m 16 #[.val (.int p1), .val (.ref aA), .val (.int (9 : Int32)), .val (.int (0 : Int32)), .unset] [(.int (0 : Int32)), (.ref aA)])) rfl rfl (hb hby d6_16) _ ?_
    show Steps p.tables e below (T48.setTop (mkF m 17 #[.val (.int p1), .val (.ref aA), .val (.int (9 : Int32)), .val (.int (0 : Int32)), .unset] [(.ref u0)])) _
    refine XS.astore X48.here hx rfl (hb hby d6_17) rfl rfl (l' := #[.val (.int p1), .val (.ref aA), .val (.int (9 : Int32)), .val (.int (0 : Int32)), .val (.ref u0)]) rfl ?_
    show Steps p.tables e below (T48.setTop (mkF m 19 #[.val (.int p1), .val (.ref aA), .val (.int (9 : Int32)), .val (.int (0 : Int32)), .val (.ref u0)] [])) _
    refine XS.aload X48.here hx rfl (hb hby d6_19) rfl rfl ?_
    show Steps p.tables e below (T48.setTop (mkF m 21 #[.val (.int p1), .val (.ref aA), .val (.int (9 : Int32)), .val (.int (0 : Int32)), .val (.ref u0)] [(.ref u0)])) _
    refine st51 _ ?_
    show Steps p.tables e below (T51.setTop (mkF m 24 #[.val (.int p1), .val (.ref aA), .val (.int (9 : Int32)), .val (.int (0 : Int32)), .val (.ref u0)] [(.int (90 : Int32))])) _
    refine XS.iloadN X51.here hx rfl (hb hby d6_24) rfl ?_
    exact kt
  by_cases c0 : p1 = (90 : Int32)
  · skip
    have ev : own_of p1 u0 u1 u2 u3 u4 u5 u6 u7 u8 = .ref u0 := by unfold own_of; rw [if_pos c0]
    have pre53 : ∀ t, Steps p.tables e below (T51.setTop (mkF m 30 #[.val (.int p1), .val (.ref aA), .val (.int (9 : Int32)), .val (.int (0 : Int32)), .val (.ref u0)] [(.ref u0)])) t → Steps p.tables e below (T51.setTop (mkF m 25 #[.val (.int p1), .val (.ref aA), .val (.int (9 : Int32)), .val (.int (0 : Int32)), .val (.ref u0)] [(.int p1), (.int (90 : Int32))])) t := by
      intro t kt
      show Steps p.tables e below (T51.setTop (mkF m 25 #[.val (.int p1), .val (.ref aA), .val (.int (9 : Int32)), .val (.int (0 : Int32)), .val (.ref u0)] [(.int p1), (.int (90 : Int32))])) _
      refine XS.icmpNo X51.here hx rfl (hb hby d6_25) rfl (teq (c0.symm : (90 : Int32) = p1)).2 ?_
      show Steps p.tables e below (T51.setTop (mkF m 28 #[.val (.int p1), .val (.ref aA), .val (.int (9 : Int32)), .val (.int (0 : Int32)), .val (.ref u0)] [])) _
      refine XS.aload X51.here hx rfl (hb hby d6_28) rfl rfl ?_
      exact kt
    obtain ⟨fs, hr, hrun, hended, hW, hsame⟩ := X51.leave (v := some (.ref u0)) (fun h => by rw [Bd.returns] at h; cases h)
    refine ⟨_, _, (pre0 _ (pre52 _ (pre53 _ ?_))), hrun, hended, _, _, rfl, ?_, ⟨_, rfl⟩, hW, hsame.mono (by decide) (by decide)⟩
    · show Steps p.tables e below (T51.setTop (mkF m 30 #[.val (.int p1), .val (.ref aA), .val (.int (9 : Int32)), .val (.int (0 : Int32)), .val (.ref u0)] [(.ref u0)])) _
      exact retOut X51 hx (t := (.object "com/example/corvid/corvid/symbol/PrimitiveType")) Bd.returns rfl (Or.inr (Or.inr (Or.inr (Or.inr ⟨rfl, rfl, rfl⟩)))) (hb hby d6_30) hr
    · show Qofd Z p1 u0 u1 u2 u3 u4 u5 u6 u7 u8 aA kA h0 n0 _ T51.heap _
      rw [e51]
      exact ⟨by rw [ev], N0, rfl⟩
  · skip
    obtain ⟨c54, Ar54, q54, S54, M54, H54, G54⟩ := id KA
    have hin54 : ¬ ((1 : Int32) < 0 ∨ c54.slots.size ≤ ((1 : Int32)).toNatClampNeg) := inb_of S54 ⟨by decide, by decide⟩
    have hat54 : c54.slots[((1 : Int32)).toNatClampNeg]? = some (.ref u1) := H54 _ (by rw [S54]; decide)
    obtain ⟨T55, X55, e55, st55⟩ := getF X51 hx hZ hown (host := "") (Or.inl (hw _ (List.mem_of_getElem? (i := 39) rfl))) Via.refl e51 F1 (g := (mkF m 21 #[.val (.int p1), .val (.ref aA), .val (.int (9 : Int32)), .val (.int (1 : Int32)), .val (.ref u1)] [(.ref u1)])) rfl rfl (hb hby d6_21)
    have pre56 : ∀ t, Steps p.tables e below (T55.setTop (mkF m 25 #[.val (.int p1), .val (.ref aA), .val (.int (9 : Int32)), .val (.int (1 : Int32)), .val (.ref u1)] [(.int p1), (.int (66 : Int32))])) t → Steps p.tables e below (T51.setTop (mkF m 25 #[.val (.int p1), .val (.ref aA), .val (.int (9 : Int32)), .val (.int (0 : Int32)), .val (.ref u0)] [(.int p1), (.int (90 : Int32))])) t := by
      intro t kt
      show Steps p.tables e below (T51.setTop (mkF m 25 #[.val (.int p1), .val (.ref aA), .val (.int (9 : Int32)), .val (.int (0 : Int32)), .val (.ref u0)] [(.int p1), (.int (90 : Int32))])) _
      refine XS.icmpYes X51.here hx rfl (pc0 := 25) (pc' := 31) rfl (hb hby d6_25) rfl (feq (fun q => c0 q.symm : ¬ ((90 : Int32) = p1))).2 (by decide) (by decide) ?_
      show Steps p.tables e below (T51.setTop (mkF m 31 #[.val (.int p1), .val (.ref aA), .val (.int (9 : Int32)), .val (.int (0 : Int32)), .val (.ref u0)] [])) _
      refine XS.iinc X51.here hx rfl (hb hby d6_31) rfl (l' := #[.val (.int p1), .val (.ref aA), .val (.int (9 : Int32)), .val (.int ((0 : Int32) + (1 : Int32))), .val (.ref u0)]) rfl ?_
      show Steps p.tables e below (T51.setTop (mkF m 34 #[.val (.int p1), .val (.ref aA), .val (.int (9 : Int32)), .val (.int (1 : Int32)), .val (.ref u0)] [])) _
      refine XS.goto X51.here hx rfl (pc0 := 34) (pc' := 9) rfl (hb hby d6_34) (by decide) (by decide) ?_
      show Steps p.tables e below (T51.setTop (mkF m 9 #[.val (.int p1), .val (.ref aA), .val (.int (9 : Int32)), .val (.int (1 : Int32)), .val (.ref u0)] [])) _
      refine XS.iloadN X51.here hx rfl (hb hby d6_9) rfl ?_
      show Steps p.tables e below (T51.setTop (mkF m 10 #[.val (.int p1), .val (.ref aA), .val (.int (9 : Int32)), .val (.int (1 : Int32)), .val (.ref u0)] [(.int (1 : Int32))])) _
      refine XS.iloadN X51.here hx rfl (hb hby d6_10) rfl ?_
      show Steps p.tables e below (T51.setTop (mkF m 11 #[.val (.int p1), .val (.ref aA), .val (.int (9 : Int32)), .val (.int (1 : Int32)), .val (.ref u0)] [(.int (9 : Int32)), (.int (1 : Int32))])) _
      refine XS.icmpNo X51.here hx rfl (hb hby d6_11) rfl (tlt (by decide : (1 : Int32) < (9 : Int32))).2.1 ?_
      show Steps p.tables e below (T51.setTop (mkF m 14 #[.val (.int p1), .val (.ref aA), .val (.int (9 : Int32)), .val (.int (1 : Int32)), .val (.ref u0)] [])) _
      refine XS.aloadN X51.here hx rfl (hb hby d6_14) rfl rfl ?_
      show Steps p.tables e below (T51.setTop (mkF m 15 #[.val (.int p1), .val (.ref aA), .val (.int (9 : Int32)), .val (.int (1 : Int32)), .val (.ref u0)] [(.ref aA)])) _
      refine XS.iloadN X51.here hx rfl (hb hby d6_15) rfl ?_
      show Steps p.tables e below (T51.setTop (mkF m 16 #[.val (.int p1), .val (.ref aA), .val (.int (9 : Int32)), .val (.int (1 : Int32)), .val (.ref u0)] [(.int (1 : Int32)), (.ref aA)])) _
      refine X51.aaload hx (j := (1 : Int32)) (v := (.ref u1)) (by rw [e51]; exact Ar54.1) (State.isArrayOf_alike hZ.alike Ar54.2.1) rfl Ar54.2.2 hin54 hat54 (g := (mkF m 16 #[.val (.int p1), .val (.ref aA), .val (.int (9 : Int32)), .val (.int (1 : Int32)), .val (.ref u0)] [(.int (1 : Int32)), (.ref aA)])) rfl rfl (hb hby d6_16) _ ?_
      show Steps p.tables e below (T51.setTop (mkF m 17 #[.val (.int p1), .val (.ref aA), .val (.int (9 : Int32)), .val (.int (1 : Int32)), .val (.ref u0)] [(.ref u1)])) _
      refine XS.astore X51.here hx rfl (hb hby d6_17) rfl rfl (l' := #[.val (.int p1), .val (.ref aA), .val (.int (9 : Int32)), .val (.int (1 : Int32)), .val (.ref u1)]) rfl ?_
      show Steps p.tables e below (T51.setTop (mkF m 19 #[.val (.int p1), .val (.ref aA), .val (.int (9 : Int32)), .val (.int (1 : Int32)), .val (.ref u1)] [])) _
      refine XS.aload X51.here hx rfl (hb hby d6_19) rfl rfl ?_
      show Steps p.tables e below (T51.setTop (mkF m 21 #[.val (.int p1), .val (.ref aA), .val (.int (9 : Int32)), .val (.int (1 : Int32)), .val (.ref u1)] [(.ref u1)])) _
      refine st55 _ ?_
      show Steps p.tables e below (T55.setTop (mkF m 24 #[.val (.int p1), .val (.ref aA), .val (.int (9 : Int32)), .val (.int (1 : Int32)), .val (.ref u1)] [(.int (66 : Int32))])) _
      refine XS.iloadN X55.here hx rfl (hb hby d6_24) rfl ?_
      exact kt
    by_cases c1 : p1 = (66 : Int32)
    · skip
      have ev : own_of p1 u0 u1 u2 u3 u4 u5 u6 u7 u8 = .ref u1 := by unfold own_of; rw [if_neg c0, if_pos c1]
      have pre57 : ∀ t, Steps p.tables e below (T55.setTop (mkF m 30 #[.val (.int p1), .val (.ref aA), .val (.int (9 : Int32)), .val (.int (1 : Int32)), .val (.ref u1)] [(.ref u1)])) t → Steps p.tables e below (T55.setTop (mkF m 25 #[.val (.int p1), .val (.ref aA), .val (.int (9 : Int32)), .val (.int (1 : Int32)), .val (.ref u1)] [(.int p1), (.int (66 : Int32))])) t := by
        intro t kt
        show Steps p.tables e below (T55.setTop (mkF m 25 #[.val (.int p1), .val (.ref aA), .val (.int (9 : Int32)), .val (.int (1 : Int32)), .val (.ref u1)] [(.int p1), (.int (66 : Int32))])) _
        refine XS.icmpNo X55.here hx rfl (hb hby d6_25) rfl (teq (c1.symm : (66 : Int32) = p1)).2 ?_
        show Steps p.tables e below (T55.setTop (mkF m 28 #[.val (.int p1), .val (.ref aA), .val (.int (9 : Int32)), .val (.int (1 : Int32)), .val (.ref u1)] [])) _
        refine XS.aload X55.here hx rfl (hb hby d6_28) rfl rfl ?_
        exact kt
      obtain ⟨fs, hr, hrun, hended, hW, hsame⟩ := X55.leave (v := some (.ref u1)) (fun h => by rw [Bd.returns] at h; cases h)
      refine ⟨_, _, (pre0 _ (pre52 _ (pre56 _ (pre57 _ ?_)))), hrun, hended, _, _, rfl, ?_, ⟨_, rfl⟩, hW, hsame.mono (by decide) (by decide)⟩
      · show Steps p.tables e below (T55.setTop (mkF m 30 #[.val (.int p1), .val (.ref aA), .val (.int (9 : Int32)), .val (.int (1 : Int32)), .val (.ref u1)] [(.ref u1)])) _
        exact retOut X55 hx (t := (.object "com/example/corvid/corvid/symbol/PrimitiveType")) Bd.returns rfl (Or.inr (Or.inr (Or.inr (Or.inr ⟨rfl, rfl, rfl⟩)))) (hb hby d6_30) hr
      · show Qofd Z p1 u0 u1 u2 u3 u4 u5 u6 u7 u8 aA kA h0 n0 _ T55.heap _
        rw [e55]
        exact ⟨by rw [ev], N0, rfl⟩
    · skip
      obtain ⟨c58, Ar58, q58, S58, M58, H58, G58⟩ := id KA
      have hin58 : ¬ ((2 : Int32) < 0 ∨ c58.slots.size ≤ ((2 : Int32)).toNatClampNeg) := inb_of S58 ⟨by decide, by decide⟩
      have hat58 : c58.slots[((2 : Int32)).toNatClampNeg]? = some (.ref u2) := H58 _ (by rw [S58]; decide)
      obtain ⟨T59, X59, e59, st59⟩ := getF X55 hx hZ hown (host := "") (Or.inl (hw _ (List.mem_of_getElem? (i := 39) rfl))) Via.refl e55 F2 (g := (mkF m 21 #[.val (.int p1), .val (.ref aA), .val (.int (9 : Int32)), .val (.int (2 : Int32)), .val (.ref u2)] [(.ref u2)])) rfl rfl (hb hby d6_21)
      have pre60 : ∀ t, Steps p.tables e below (T59.setTop (mkF m 25 #[.val (.int p1), .val (.ref aA), .val (.int (9 : Int32)), .val (.int (2 : Int32)), .val (.ref u2)] [(.int p1), (.int (83 : Int32))])) t → Steps p.tables e below (T55.setTop (mkF m 25 #[.val (.int p1), .val (.ref aA), .val (.int (9 : Int32)), .val (.int (1 : Int32)), .val (.ref u1)] [(.int p1), (.int (66 : Int32))])) t := by
        intro t kt
        show Steps p.tables e below (T55.setTop (mkF m 25 #[.val (.int p1), .val (.ref aA), .val (.int (9 : Int32)), .val (.int (1 : Int32)), .val (.ref u1)] [(.int p1), (.int (66 : Int32))])) _
        refine XS.icmpYes X55.here hx rfl (pc0 := 25) (pc' := 31) rfl (hb hby d6_25) rfl (feq (fun q => c1 q.symm : ¬ ((66 : Int32) = p1))).2 (by decide) (by decide) ?_
        show Steps p.tables e below (T55.setTop (mkF m 31 #[.val (.int p1), .val (.ref aA), .val (.int (9 : Int32)), .val (.int (1 : Int32)), .val (.ref u1)] [])) _
        refine XS.iinc X55.here hx rfl (hb hby d6_31) rfl (l' := #[.val (.int p1), .val (.ref aA), .val (.int (9 : Int32)), .val (.int ((1 : Int32) + (1 : Int32))), .val (.ref u1)]) rfl ?_
        show Steps p.tables e below (T55.setTop (mkF m 34 #[.val (.int p1), .val (.ref aA), .val (.int (9 : Int32)), .val (.int (2 : Int32)), .val (.ref u1)] [])) _
        refine XS.goto X55.here hx rfl (pc0 := 34) (pc' := 9) rfl (hb hby d6_34) (by decide) (by decide) ?_
        show Steps p.tables e below (T55.setTop (mkF m 9 #[.val (.int p1), .val (.ref aA), .val (.int (9 : Int32)), .val (.int (2 : Int32)), .val (.ref u1)] [])) _
        refine XS.iloadN X55.here hx rfl (hb hby d6_9) rfl ?_
        show Steps p.tables e below (T55.setTop (mkF m 10 #[.val (.int p1), .val (.ref aA), .val (.int (9 : Int32)), .val (.int (2 : Int32)), .val (.ref u1)] [(.int (2 : Int32))])) _
        refine XS.iloadN X55.here hx rfl (hb hby d6_10) rfl ?_
        show Steps p.tables e below (T55.setTop (mkF m 11 #[.val (.int p1), .val (.ref aA), .val (.int (9 : Int32)), .val (.int (2 : Int32)), .val (.ref u1)] [(.int (9 : Int32)), (.int (2 : Int32))])) _
        refine XS.icmpNo X55.here hx rfl (hb hby d6_11) rfl (tlt (by decide : (2 : Int32) < (9 : Int32))).2.1 ?_
        show Steps p.tables e below (T55.setTop (mkF m 14 #[.val (.int p1), .val (.ref aA), .val (.int (9 : Int32)), .val (.int (2 : Int32)), .val (.ref u1)] [])) _
        refine XS.aloadN X55.here hx rfl (hb hby d6_14) rfl rfl ?_
        show Steps p.tables e below (T55.setTop (mkF m 15 #[.val (.int p1), .val (.ref aA), .val (.int (9 : Int32)), .val (.int (2 : Int32)), .val (.ref u1)] [(.ref aA)])) _
        refine XS.iloadN X55.here hx rfl (hb hby d6_15) rfl ?_
        show Steps p.tables e below (T55.setTop (mkF m 16 #[.val (.int p1), .val (.ref aA), .val (.int (9 : Int32)), .val (.int (2 : Int32)), .val (.ref u1)] [(.int (2 : Int32)), (.ref aA)])) _
        refine X55.aaload hx (j := (2 : Int32)) (v := (.ref u2)) (by rw [e55]; exact Ar58.1) (State.isArrayOf_alike hZ.alike Ar58.2.1) rfl Ar58.2.2 hin58 hat58 (g := (mkF m 16 #[.val (.int p1), .val (.ref aA), .val (.int (9 : Int32)), .val (.int (2 : Int32)), .val (.ref u1)] [(.int (2 : Int32)), (.ref aA)])) rfl rfl (hb hby d6_16) _ ?_
        show Steps p.tables e below (T55.setTop (mkF m 17 #[.val (.int p1), .val (.ref aA), .val (.int (9 : Int32)), .val (.int (2 : Int32)), .val (.ref u1)] [(.ref u2)])) _
        refine XS.astore X55.here hx rfl (hb hby d6_17) rfl rfl (l' := #[.val (.int p1), .val (.ref aA), .val (.int (9 : Int32)), .val (.int (2 : Int32)), .val (.ref u2)]) rfl ?_
        show Steps p.tables e below (T55.setTop (mkF m 19 #[.val (.int p1), .val (.ref aA), .val (.int (9 : Int32)), .val (.int (2 : Int32)), .val (.ref u2)] [])) _
        refine XS.aload X55.here hx rfl (hb hby d6_19) rfl rfl ?_
        show Steps p.tables e below (T55.setTop (mkF m 21 #[.val (.int p1), .val (.ref aA), .val (.int (9 : Int32)), .val (.int (2 : Int32)), .val (.ref u2)] [(.ref u2)])) _
        refine st59 _ ?_
        show Steps p.tables e below (T59.setTop (mkF m 24 #[.val (.int p1), .val (.ref aA), .val (.int (9 : Int32)), .val (.int (2 : Int32)), .val (.ref u2)] [(.int (83 : Int32))])) _
        refine XS.iloadN X59.here hx rfl (hb hby d6_24) rfl ?_
        exact kt
      by_cases c2 : p1 = (83 : Int32)
      · skip
        have ev : own_of p1 u0 u1 u2 u3 u4 u5 u6 u7 u8 = .ref u2 := by unfold own_of; rw [if_neg c0, if_neg c1, if_pos c2]
        have pre61 : ∀ t, Steps p.tables e below (T59.setTop (mkF m 30 #[.val (.int p1), .val (.ref aA), .val (.int (9 : Int32)), .val (.int (2 : Int32)), .val (.ref u2)] [(.ref u2)])) t → Steps p.tables e below (T59.setTop (mkF m 25 #[.val (.int p1), .val (.ref aA), .val (.int (9 : Int32)), .val (.int (2 : Int32)), .val (.ref u2)] [(.int p1), (.int (83 : Int32))])) t := by
          intro t kt
          show Steps p.tables e below (T59.setTop (mkF m 25 #[.val (.int p1), .val (.ref aA), .val (.int (9 : Int32)), .val (.int (2 : Int32)), .val (.ref u2)] [(.int p1), (.int (83 : Int32))])) _
          refine XS.icmpNo X59.here hx rfl (hb hby d6_25) rfl (teq (c2.symm : (83 : Int32) = p1)).2 ?_
          show Steps p.tables e below (T59.setTop (mkF m 28 #[.val (.int p1), .val (.ref aA), .val (.int (9 : Int32)), .val (.int (2 : Int32)), .val (.ref u2)] [])) _
          refine XS.aload X59.here hx rfl (hb hby d6_28) rfl rfl ?_
          exact kt
        obtain ⟨fs, hr, hrun, hended, hW, hsame⟩ := X59.leave (v := some (.ref u2)) (fun h => by rw [Bd.returns] at h; cases h)
        refine ⟨_, _, (pre0 _ (pre52 _ (pre56 _ (pre60 _ (pre61 _ ?_))))), hrun, hended, _, _, rfl, ?_, ⟨_, rfl⟩, hW, hsame.mono (by decide) (by decide)⟩
        · show Steps p.tables e below (T59.setTop (mkF m 30 #[.val (.int p1), .val (.ref aA), .val (.int (9 : Int32)), .val (.int (2 : Int32)), .val (.ref u2)] [(.ref u2)])) _
          exact retOut X59 hx (t := (.object "com/example/corvid/corvid/symbol/PrimitiveType")) Bd.returns rfl (Or.inr (Or.inr (Or.inr (Or.inr ⟨rfl, rfl, rfl⟩)))) (hb hby d6_30) hr
        · show Qofd Z p1 u0 u1 u2 u3 u4 u5 u6 u7 u8 aA kA h0 n0 _ T59.heap _
          rw [e59]
          exact ⟨by rw [ev], N0, rfl⟩
      · skip
        obtain ⟨c62, Ar62, q62, S62, M62, H62, G62⟩ := id KA
        have hin62 : ¬ ((3 : Int32) < 0 ∨ c62.slots.size ≤ ((3 : Int32)).toNatClampNeg) := inb_of S62 ⟨by decide, by decide⟩
        have hat62 : c62.slots[((3 : Int32)).toNatClampNeg]? = some (.ref u3) := H62 _ (by rw [S62]; decide)
        obtain ⟨T63, X63, e63, st63⟩ := getF X59 hx hZ hown (host := "") (Or.inl (hw _ (List.mem_of_getElem? (i := 39) rfl))) Via.refl e59 F3 (g := (mkF m 21 #[.val (.int p1), .val (.ref aA), .val (.int (9 : Int32)), .val (.int (3 : Int32)), .val (.ref u3)] [(.ref u3)])) rfl rfl (hb hby d6_21)
        have pre64 : ∀ t, Steps p.tables e below (T63.setTop (mkF m 25 #[.val (.int p1), .val (.ref aA), .val (.int (9 : Int32)), .val (.int (3 : Int32)), .val (.ref u3)] [(.int p1), (.int (67 : Int32))])) t → Steps p.tables e below (T59.setTop (mkF m 25 #[.val (.int p1), .val (.ref aA), .val (.int (9 : Int32)), .val (.int (2 : Int32)), .val (.ref u2)] [(.int p1), (.int (83 : Int32))])) t := by
          intro t kt
          show Steps p.tables e below (T59.setTop (mkF m 25 #[.val (.int p1), .val (.ref aA), .val (.int (9 : Int32)), .val (.int (2 : Int32)), .val (.ref u2)] [(.int p1), (.int (83 : Int32))])) _
          refine XS.icmpYes X59.here hx rfl (pc0 := 25) (pc' := 31) rfl (hb hby d6_25) rfl (feq (fun q => c2 q.symm : ¬ ((83 : Int32) = p1))).2 (by decide) (by decide) ?_
          show Steps p.tables e below (T59.setTop (mkF m 31 #[.val (.int p1), .val (.ref aA), .val (.int (9 : Int32)), .val (.int (2 : Int32)), .val (.ref u2)] [])) _
          refine XS.iinc X59.here hx rfl (hb hby d6_31) rfl (l' := #[.val (.int p1), .val (.ref aA), .val (.int (9 : Int32)), .val (.int ((2 : Int32) + (1 : Int32))), .val (.ref u2)]) rfl ?_
          show Steps p.tables e below (T59.setTop (mkF m 34 #[.val (.int p1), .val (.ref aA), .val (.int (9 : Int32)), .val (.int (3 : Int32)), .val (.ref u2)] [])) _
          refine XS.goto X59.here hx rfl (pc0 := 34) (pc' := 9) rfl (hb hby d6_34) (by decide) (by decide) ?_
          show Steps p.tables e below (T59.setTop (mkF m 9 #[.val (.int p1), .val (.ref aA), .val (.int (9 : Int32)), .val (.int (3 : Int32)), .val (.ref u2)] [])) _
          refine XS.iloadN X59.here hx rfl (hb hby d6_9) rfl ?_
          show Steps p.tables e below (T59.setTop (mkF m 10 #[.val (.int p1), .val (.ref aA), .val (.int (9 : Int32)), .val (.int (3 : Int32)), .val (.ref u2)] [(.int (3 : Int32))])) _
          refine XS.iloadN X59.here hx rfl (hb hby d6_10) rfl ?_
          show Steps p.tables e below (T59.setTop (mkF m 11 #[.val (.int p1), .val (.ref aA), .val (.int (9 : Int32)), .val (.int (3 : Int32)), .val (.ref u2)] [(.int (9 : Int32)), (.int (3 : Int32))])) _
          refine XS.icmpNo X59.here hx rfl (hb hby d6_11) rfl (tlt (by decide : (3 : Int32) < (9 : Int32))).2.1 ?_
          show Steps p.tables e below (T59.setTop (mkF m 14 #[.val (.int p1), .val (.ref aA), .val (.int (9 : Int32)), .val (.int (3 : Int32)), .val (.ref u2)] [])) _
          refine XS.aloadN X59.here hx rfl (hb hby d6_14) rfl rfl ?_
          show Steps p.tables e below (T59.setTop (mkF m 15 #[.val (.int p1), .val (.ref aA), .val (.int (9 : Int32)), .val (.int (3 : Int32)), .val (.ref u2)] [(.ref aA)])) _
          refine XS.iloadN X59.here hx rfl (hb hby d6_15) rfl ?_
          show Steps p.tables e below (T59.setTop (mkF m 16 #[.val (.int p1), .val (.ref aA), .val (.int (9 : Int32)), .val (.int (3 : Int32)), .val (.ref u2)] [(.int (3 : Int32)), (.ref aA)])) _
          refine X59.aaload hx (j := (3 : Int32)) (v := (.ref u3)) (by rw [e59]; exact Ar62.1) (State.isArrayOf_alike hZ.alike Ar62.2.1) rfl Ar62.2.2 hin62 hat62 (g := (mkF m 16 #[.val (.int p1), .val (.ref aA), .val (.int (9 : Int32)), .val (.int (3 : Int32)), .val (.ref u2)] [(.int (3 : Int32)), (.ref aA)])) rfl rfl (hb hby d6_16) _ ?_
          show Steps p.tables e below (T59.setTop (mkF m 17 #[.val (.int p1), .val (.ref aA), .val (.int (9 : Int32)), .val (.int (3 : Int32)), .val (.ref u2)] [(.ref u3)])) _
          refine XS.astore X59.here hx rfl (hb hby d6_17) rfl rfl (l' := #[.val (.int p1), .val (.ref aA), .val (.int (9 : Int32)), .val (.int (3 : Int32)), .val (.ref u3)]) rfl ?_
          show Steps p.tables e below (T59.setTop (mkF m 19 #[.val (.int p1), .val (.ref aA), .val (.int (9 : Int32)), .val (.int (3 : Int32)), .val (.ref u3)] [])) _
          refine XS.aload X59.here hx rfl (hb hby d6_19) rfl rfl ?_
          show Steps p.tables e below (T59.setTop (mkF m 21 #[.val (.int p1), .val (.ref aA), .val (.int (9 : Int32)), .val (.int (3 : Int32)), .val (.ref u3)] [(.ref u3)])) _
          refine st63 _ ?_
          show Steps p.tables e below (T63.setTop (mkF m 24 #[.val (.int p1), .val (.ref aA), .val (.int (9 : Int32)), .val (.int (3 : Int32)), .val (.ref u3)] [(.int (67 : Int32))])) _
          refine XS.iloadN X63.here hx rfl (hb hby d6_24) rfl ?_
          exact kt
        by_cases c3 : p1 = (67 : Int32)
        · skip
          have ev : own_of p1 u0 u1 u2 u3 u4 u5 u6 u7 u8 = .ref u3 := by unfold own_of; rw [if_neg c0, if_neg c1, if_neg c2, if_pos c3]
          have pre65 : ∀ t, Steps p.tables e below (T63.setTop (mkF m 30 #[.val (.int p1), .val (.ref aA), .val (.int (9 : Int32)), .val (.int (3 : Int32)), .val (.ref u3)] [(.ref u3)])) t → Steps p.tables e below (T63.setTop (mkF m 25 #[.val (.int p1), .val (.ref aA), .val (.int (9 : Int32)), .val (.int (3 : Int32)), .val (.ref u3)] [(.int p1), (.int (67 : Int32))])) t := by
            intro t kt
            show Steps p.tables e below (T63.setTop (mkF m 25 #[.val (.int p1), .val (.ref aA), .val (.int (9 : Int32)), .val (.int (3 : Int32)), .val (.ref u3)] [(.int p1), (.int (67 : Int32))])) _
            refine XS.icmpNo X63.here hx rfl (hb hby d6_25) rfl (teq (c3.symm : (67 : Int32) = p1)).2 ?_
            show Steps p.tables e below (T63.setTop (mkF m 28 #[.val (.int p1), .val (.ref aA), .val (.int (9 : Int32)), .val (.int (3 : Int32)), .val (.ref u3)] [])) _
            refine XS.aload X63.here hx rfl (hb hby d6_28) rfl rfl ?_
            exact kt
          obtain ⟨fs, hr, hrun, hended, hW, hsame⟩ := X63.leave (v := some (.ref u3)) (fun h => by rw [Bd.returns] at h; cases h)
          refine ⟨_, _, (pre0 _ (pre52 _ (pre56 _ (pre60 _ (pre64 _ (pre65 _ ?_)))))), hrun, hended, _, _, rfl, ?_, ⟨_, rfl⟩, hW, hsame.mono (by decide) (by decide)⟩
          · show Steps p.tables e below (T63.setTop (mkF m 30 #[.val (.int p1), .val (.ref aA), .val (.int (9 : Int32)), .val (.int (3 : Int32)), .val (.ref u3)] [(.ref u3)])) _
            exact retOut X63 hx (t := (.object "com/example/corvid/corvid/symbol/PrimitiveType")) Bd.returns rfl (Or.inr (Or.inr (Or.inr (Or.inr ⟨rfl, rfl, rfl⟩)))) (hb hby d6_30) hr
          · show Qofd Z p1 u0 u1 u2 u3 u4 u5 u6 u7 u8 aA kA h0 n0 _ T63.heap _
            rw [e63]
            exact ⟨by rw [ev], N0, rfl⟩
        · skip
          obtain ⟨c66, Ar66, q66, S66, M66, H66, G66⟩ := id KA
          have hin66 : ¬ ((4 : Int32) < 0 ∨ c66.slots.size ≤ ((4 : Int32)).toNatClampNeg) := inb_of S66 ⟨by decide, by decide⟩
          have hat66 : c66.slots[((4 : Int32)).toNatClampNeg]? = some (.ref u4) := H66 _ (by rw [S66]; decide)
          obtain ⟨T67, X67, e67, st67⟩ := getF X63 hx hZ hown (host := "") (Or.inl (hw _ (List.mem_of_getElem? (i := 39) rfl))) Via.refl e63 F4 (g := (mkF m 21 #[.val (.int p1), .val (.ref aA), .val (.int (9 : Int32)), .val (.int (4 : Int32)), .val (.ref u4)] [(.ref u4)])) rfl rfl (hb hby d6_21)
          have pre68 : ∀ t, Steps p.tables e below (T67.setTop (mkF m 25 #[.val (.int p1), .val (.ref aA), .val (.int (9 : Int32)), .val (.int (4 : Int32)), .val (.ref u4)] [(.int p1), (.int (73 : Int32))])) t → Steps p.tables e below (T63.setTop (mkF m 25 #[.val (.int p1), .val (.ref aA), .val (.int (9 : Int32)), .val (.int (3 : Int32)), .val (.ref u3)] [(.int p1), (.int (67 : Int32))])) t := by
            intro t kt
            show Steps p.tables e below (T63.setTop (mkF m 25 #[.val (.int p1), .val (.ref aA), .val (.int (9 : Int32)), .val (.int (3 : Int32)), .val (.ref u3)] [(.int p1), (.int (67 : Int32))])) _
            refine XS.icmpYes X63.here hx rfl (pc0 := 25) (pc' := 31) rfl (hb hby d6_25) rfl (feq (fun q => c3 q.symm : ¬ ((67 : Int32) = p1))).2 (by decide) (by decide) ?_
            show Steps p.tables e below (T63.setTop (mkF m 31 #[.val (.int p1), .val (.ref aA), .val (.int (9 : Int32)), .val (.int (3 : Int32)), .val (.ref u3)] [])) _
            refine XS.iinc X63.here hx rfl (hb hby d6_31) rfl (l' := #[.val (.int p1), .val (.ref aA), .val (.int (9 : Int32)), .val (.int ((3 : Int32) + (1 : Int32))), .val (.ref u3)]) rfl ?_
            show Steps p.tables e below (T63.setTop (mkF m 34 #[.val (.int p1), .val (.ref aA), .val (.int (9 : Int32)), .val (.int (4 : Int32)), .val (.ref u3)] [])) _
            refine XS.goto X63.here hx rfl (pc0 := 34) (pc' := 9) rfl (hb hby d6_34) (by decide) (by decide) ?_
            show Steps p.tables e below (T63.setTop (mkF m 9 #[.val (.int p1), .val (.ref aA), .val (.int (9 : Int32)), .val (.int (4 : Int32)), .val (.ref u3)] [])) _
            refine XS.iloadN X63.here hx rfl (hb hby d6_9) rfl ?_
            show Steps p.tables e below (T63.setTop (mkF m 10 #[.val (.int p1), .val (.ref aA), .val (.int (9 : Int32)), .val (.int (4 : Int32)), .val (.ref u3)] [(.int (4 : Int32))])) _
            refine XS.iloadN X63.here hx rfl (hb hby d6_10) rfl ?_
            show Steps p.tables e below (T63.setTop (mkF m 11 #[.val (.int p1), .val (.ref aA), .val (.int (9 : Int32)), .val (.int (4 : Int32)), .val (.ref u3)] [(.int (9 : Int32)), (.int (4 : Int32))])) _
            refine XS.icmpNo X63.here hx rfl (hb hby d6_11) rfl (tlt (by decide : (4 : Int32) < (9 : Int32))).2.1 ?_
            show Steps p.tables e below (T63.setTop (mkF m 14 #[.val (.int p1), .val (.ref aA), .val (.int (9 : Int32)), .val (.int (4 : Int32)), .val (.ref u3)] [])) _
            refine XS.aloadN X63.here hx rfl (hb hby d6_14) rfl rfl ?_
            show Steps p.tables e below (T63.setTop (mkF m 15 #[.val (.int p1), .val (.ref aA), .val (.int (9 : Int32)), .val (.int (4 : Int32)), .val (.ref u3)] [(.ref aA)])) _
            refine XS.iloadN X63.here hx rfl (hb hby d6_15) rfl ?_
            show Steps p.tables e below (T63.setTop (mkF m 16 #[.val (.int p1), .val (.ref aA), .val (.int (9 : Int32)), .val (.int (4 : Int32)), .val (.ref u3)] [(.int (4 : Int32)), (.ref aA)])) _
            refine X63.aaload hx (j := (4 : Int32)) (v := (.ref u4)) (by rw [e63]; exact Ar66.1) (State.isArrayOf_alike hZ.alike Ar66.2.1) rfl Ar66.2.2 hin66 hat66 (g := (mkF m 16 #[.val (.int p1), .val (.ref aA), .val (.int (9 : Int32)), .val (.int (4 : Int32)), .val (.ref u3)] [(.int (4 : Int32)), (.ref aA)])) rfl rfl (hb hby d6_16) _ ?_
            show Steps p.tables e below (T63.setTop (mkF m 17 #[.val (.int p1), .val (.ref aA), .val (.int (9 : Int32)), .val (.int (4 : Int32)), .val (.ref u3)] [(.ref u4)])) _
            refine XS.astore X63.here hx rfl (hb hby d6_17) rfl rfl (l' := #[.val (.int p1), .val (.ref aA), .val (.int (9 : Int32)), .val (.int (4 : Int32)), .val (.ref u4)]) rfl ?_
            show Steps p.tables e below (T63.setTop (mkF m 19 #[.val (.int p1), .val (.ref aA), .val (.int (9 : Int32)), .val (.int (4 : Int32)), .val (.ref u4)] [])) _
            refine XS.aload X63.here hx rfl (hb hby d6_19) rfl rfl ?_
            show Steps p.tables e below (T63.setTop (mkF m 21 #[.val (.int p1), .val (.ref aA), .val (.int (9 : Int32)), .val (.int (4 : Int32)), .val (.ref u4)] [(.ref u4)])) _
            refine st67 _ ?_
            show Steps p.tables e below (T67.setTop (mkF m 24 #[.val (.int p1), .val (.ref aA), .val (.int (9 : Int32)), .val (.int (4 : Int32)), .val (.ref u4)] [(.int (73 : Int32))])) _
            refine XS.iloadN X67.here hx rfl (hb hby d6_24) rfl ?_
            exact kt
          by_cases c4 : p1 = (73 : Int32)
          · skip
            have ev : own_of p1 u0 u1 u2 u3 u4 u5 u6 u7 u8 = .ref u4 := by unfold own_of; rw [if_neg c0, if_neg c1, if_neg c2, if_neg c3, if_pos c4]
            have pre69 : ∀ t, Steps p.tables e below (T67.setTop (mkF m 30 #[.val (.int p1), .val (.ref aA), .val (.int (9 : Int32)), .val (.int (4 : Int32)), .val (.ref u4)] [(.ref u4)])) t → Steps p.tables e below (T67.setTop (mkF m 25 #[.val (.int p1), .val (.ref aA), .val (.int (9 : Int32)), .val (.int (4 : Int32)), .val (.ref u4)] [(.int p1), (.int (73 : Int32))])) t := by
              intro t kt
              show Steps p.tables e below (T67.setTop (mkF m 25 #[.val (.int p1), .val (.ref aA), .val (.int (9 : Int32)), .val (.int (4 : Int32)), .val (.ref u4)] [(.int p1), (.int (73 : Int32))])) _
              refine XS.icmpNo X67.here hx rfl (hb hby d6_25) rfl (teq (c4.symm : (73 : Int32) = p1)).2 ?_
              show Steps p.tables e below (T67.setTop (mkF m 28 #[.val (.int p1), .val (.ref aA), .val (.int (9 : Int32)), .val (.int (4 : Int32)), .val (.ref u4)] [])) _
              refine XS.aload X67.here hx rfl (hb hby d6_28) rfl rfl ?_
              exact kt
            obtain ⟨fs, hr, hrun, hended, hW, hsame⟩ := X67.leave (v := some (.ref u4)) (fun h => by rw [Bd.returns] at h; cases h)
            refine ⟨_, _, (pre0 _ (pre52 _ (pre56 _ (pre60 _ (pre64 _ (pre68 _ (pre69 _ ?_))))))), hrun, hended, _, _, rfl, ?_, ⟨_, rfl⟩, hW, hsame.mono (by decide) (by decide)⟩
            · show Steps p.tables e below (T67.setTop (mkF m 30 #[.val (.int p1), .val (.ref aA), .val (.int (9 : Int32)), .val (.int (4 : Int32)), .val (.ref u4)] [(.ref u4)])) _
              exact retOut X67 hx (t := (.object "com/example/corvid/corvid/symbol/PrimitiveType")) Bd.returns rfl (Or.inr (Or.inr (Or.inr (Or.inr ⟨rfl, rfl, rfl⟩)))) (hb hby d6_30) hr
            · show Qofd Z p1 u0 u1 u2 u3 u4 u5 u6 u7 u8 aA kA h0 n0 _ T67.heap _
              rw [e67]
              exact ⟨by rw [ev], N0, rfl⟩
          · skip
            obtain ⟨c70, Ar70, q70, S70, M70, H70, G70⟩ := id KA
            have hin70 : ¬ ((5 : Int32) < 0 ∨ c70.slots.size ≤ ((5 : Int32)).toNatClampNeg) := inb_of S70 ⟨by decide, by decide⟩
            have hat70 : c70.slots[((5 : Int32)).toNatClampNeg]? = some (.ref u5) := H70 _ (by rw [S70]; decide)
            obtain ⟨T71, X71, e71, st71⟩ := getF X67 hx hZ hown (host := "") (Or.inl (hw _ (List.mem_of_getElem? (i := 39) rfl))) Via.refl e67 F5 (g := (mkF m 21 #[.val (.int p1), .val (.ref aA), .val (.int (9 : Int32)), .val (.int (5 : Int32)), .val (.ref u5)] [(.ref u5)])) rfl rfl (hb hby d6_21)
            have pre72 : ∀ t, Steps p.tables e below (T71.setTop (mkF m 25 #[.val (.int p1), .val (.ref aA), .val (.int (9 : Int32)), .val (.int (5 : Int32)), .val (.ref u5)] [(.int p1), (.int (74 : Int32))])) t → Steps p.tables e below (T67.setTop (mkF m 25 #[.val (.int p1), .val (.ref aA), .val (.int (9 : Int32)), .val (.int (4 : Int32)), .val (.ref u4)] [(.int p1), (.int (73 : Int32))])) t := by
              intro t kt
              show Steps p.tables e below (T67.setTop (mkF m 25 #[.val (.int p1), .val (.ref aA), .val (.int (9 : Int32)), .val (.int (4 : Int32)), .val (.ref u4)] [(.int p1), (.int (73 : Int32))])) _
              refine XS.icmpYes X67.here hx rfl (pc0 := 25) (pc' := 31) rfl (hb hby d6_25) rfl (feq (fun q => c4 q.symm : ¬ ((73 : Int32) = p1))).2 (by decide) (by decide) ?_
              show Steps p.tables e below (T67.setTop (mkF m 31 #[.val (.int p1), .val (.ref aA), .val (.int (9 : Int32)), .val (.int (4 : Int32)), .val (.ref u4)] [])) _
              refine XS.iinc X67.here hx rfl (hb hby d6_31) rfl (l' := #[.val (.int p1), .val (.ref aA), .val (.int (9 : Int32)), .val (.int ((4 : Int32) + (1 : Int32))), .val (.ref u4)]) rfl ?_
              show Steps p.tables e below (T67.setTop (mkF m 34 #[.val (.int p1), .val (.ref aA), .val (.int (9 : Int32)), .val (.int (5 : Int32)), .val (.ref u4)] [])) _
              refine XS.goto X67.here hx rfl (pc0 := 34) (pc' := 9) rfl (hb hby d6_34) (by decide) (by decide) ?_
              show Steps p.tables e below (T67.setTop (mkF m 9 #[.val (.int p1), .val (.ref aA), .val (.int (9 : Int32)), .val (.int (5 : Int32)), .val (.ref u4)] [])) _
              refine XS.iloadN X67.here hx rfl (hb hby d6_9) rfl ?_
              show Steps p.tables e below (T67.setTop (mkF m 10 #[.val (.int p1), .val (.ref aA), .val (.int (9 : Int32)), .val (.int (5 : Int32)), .val (.ref u4)] [(.int (5 : Int32))])) _
              refine XS.iloadN X67.here hx rfl (hb hby d6_10) rfl ?_
              show Steps p.tables e below (T67.setTop (mkF m 11 #[.val (.int p1), .val (.ref aA), .val (.int (9 : Int32)), .val (.int (5 : Int32)), .val (.ref u4)] [(.int (9 : Int32)), (.int (5 : Int32))])) _
              refine XS.icmpNo X67.here hx rfl (hb hby d6_11) rfl (tlt (by decide : (5 : Int32) < (9 : Int32))).2.1 ?_
              show Steps p.tables e below (T67.setTop (mkF m 14 #[.val (.int p1), .val (.ref aA), .val (.int (9 : Int32)), .val (.int (5 : Int32)), .val (.ref u4)] [])) _
              refine XS.aloadN X67.here hx rfl (hb hby d6_14) rfl rfl ?_
              show Steps p.tables e below (T67.setTop (mkF m 15 #[.val (.int p1), .val (.ref aA), .val (.int (9 : Int32)), .val (.int (5 : Int32)), .val (.ref u4)] [(.ref aA)])) _
              refine XS.iloadN X67.here hx rfl (hb hby d6_15) rfl ?_
              show Steps p.tables e below (T67.setTop (mkF m 16 #[.val (.int p1), .val (.ref aA), .val (.int (9 : Int32)), .val (.int (5 : Int32)), .val (.ref u4)] [(.int (5 : Int32)), (.ref aA)])) _
              refine X67.aaload hx (j := (5 : Int32)) (v := (.ref u5)) (by rw [e67]; exact Ar70.1) (State.isArrayOf_alike hZ.alike Ar70.2.1) rfl Ar70.2.2 hin70 hat70 (g := (mkF m 16 #[.val (.int p1), .val (.ref aA), .val (.int (9 : Int32)), .val (.int (5 : Int32)), .val (.ref u4)] [(.int (5 : Int32)), (.ref aA)])) rfl rfl (hb hby d6_16) _ ?_
              show Steps p.tables e below (T67.setTop (mkF m 17 #[.val (.int p1), .val (.ref aA), .val (.int (9 : Int32)), .val (.int (5 : Int32)), .val (.ref u4)] [(.ref u5)])) _
              refine XS.astore X67.here hx rfl (hb hby d6_17) rfl rfl (l' := #[.val (.int p1), .val (.ref aA), .val (.int (9 : Int32)), .val (.int (5 : Int32)), .val (.ref u5)]) rfl ?_
              show Steps p.tables e below (T67.setTop (mkF m 19 #[.val (.int p1), .val (.ref aA), .val (.int (9 : Int32)), .val (.int (5 : Int32)), .val (.ref u5)] [])) _
              refine XS.aload X67.here hx rfl (hb hby d6_19) rfl rfl ?_
              show Steps p.tables e below (T67.setTop (mkF m 21 #[.val (.int p1), .val (.ref aA), .val (.int (9 : Int32)), .val (.int (5 : Int32)), .val (.ref u5)] [(.ref u5)])) _
              refine st71 _ ?_
              show Steps p.tables e below (T71.setTop (mkF m 24 #[.val (.int p1), .val (.ref aA), .val (.int (9 : Int32)), .val (.int (5 : Int32)), .val (.ref u5)] [(.int (74 : Int32))])) _
              refine XS.iloadN X71.here hx rfl (hb hby d6_24) rfl ?_
              exact kt
            by_cases c5 : p1 = (74 : Int32)
            · skip
              have ev : own_of p1 u0 u1 u2 u3 u4 u5 u6 u7 u8 = .ref u5 := by unfold own_of; rw [if_neg c0, if_neg c1, if_neg c2, if_neg c3, if_neg c4, if_pos c5]
              have pre73 : ∀ t, Steps p.tables e below (T71.setTop (mkF m 30 #[.val (.int p1), .val (.ref aA), .val (.int (9 : Int32)), .val (.int (5 : Int32)), .val (.ref u5)] [(.ref u5)])) t → Steps p.tables e below (T71.setTop (mkF m 25 #[.val (.int p1), .val (.ref aA), .val (.int (9 : Int32)), .val (.int (5 : Int32)), .val (.ref u5)] [(.int p1), (.int (74 : Int32))])) t := by
                intro t kt
                show Steps p.tables e below (T71.setTop (mkF m 25 #[.val (.int p1), .val (.ref aA), .val (.int (9 : Int32)), .val (.int (5 : Int32)), .val (.ref u5)] [(.int p1), (.int (74 : Int32))])) _
                refine XS.icmpNo X71.here hx rfl (hb hby d6_25) rfl (teq (c5.symm : (74 : Int32) = p1)).2 ?_
                show Steps p.tables e below (T71.setTop (mkF m 28 #[.val (.int p1), .val (.ref aA), .val (.int (9 : Int32)), .val (.int (5 : Int32)), .val (.ref u5)] [])) _
                refine XS.aload X71.here hx rfl (hb hby d6_28) rfl rfl ?_
                exact kt
              obtain ⟨fs, hr, hrun, hended, hW, hsame⟩ := X71.leave (v := some (.ref u5)) (fun h => by rw [Bd.returns] at h; cases h)
              refine ⟨_, _, (pre0 _ (pre52 _ (pre56 _ (pre60 _ (pre64 _ (pre68 _ (pre72 _ (pre73 _ ?_)))))))), hrun, hended, _, _, rfl, ?_, ⟨_, rfl⟩, hW, hsame.mono (by decide) (by decide)⟩
              · show Steps p.tables e below (T71.setTop (mkF m 30 #[.val (.int p1), .val (.ref aA), .val (.int (9 : Int32)), .val (.int (5 : Int32)), .val (.ref u5)] [(.ref u5)])) _
                exact retOut X71 hx (t := (.object "com/example/corvid/corvid/symbol/PrimitiveType")) Bd.returns rfl (Or.inr (Or.inr (Or.inr (Or.inr ⟨rfl, rfl, rfl⟩)))) (hb hby d6_30) hr
              · show Qofd Z p1 u0 u1 u2 u3 u4 u5 u6 u7 u8 aA kA h0 n0 _ T71.heap _
                rw [e71]
                exact ⟨by rw [ev], N0, rfl⟩
            · skip
              obtain ⟨c74, Ar74, q74, S74, M74, H74, G74⟩ := id KA
              have hin74 : ¬ ((6 : Int32) < 0 ∨ c74.slots.size ≤ ((6 : Int32)).toNatClampNeg) := inb_of S74 ⟨by decide, by decide⟩
              have hat74 : c74.slots[((6 : Int32)).toNatClampNeg]? = some (.ref u6) := H74 _ (by rw [S74]; decide)
              obtain ⟨T75, X75, e75, st75⟩ := getF X71 hx hZ hown (host := "") (Or.inl (hw _ (List.mem_of_getElem? (i := 39) rfl))) Via.refl e71 F6 (g := (mkF m 21 #[.val (.int p1), .val (.ref aA), .val (.int (9 : Int32)), .val (.int (6 : Int32)), .val (.ref u6)] [(.ref u6)])) rfl rfl (hb hby d6_21)
              have pre76 : ∀ t, Steps p.tables e below (T75.setTop (mkF m 25 #[.val (.int p1), .val (.ref aA), .val (.int (9 : Int32)), .val (.int (6 : Int32)), .val (.ref u6)] [(.int p1), (.int (70 : Int32))])) t → Steps p.tables e below (T71.setTop (mkF m 25 #[.val (.int p1), .val (.ref aA), .val (.int (9 : Int32)), .val (.int (5 : Int32)), .val (.ref u5)] [(.int p1), (.int (74 : Int32))])) t := by
                intro t kt
                show Steps p.tables e below (T71.setTop (mkF m 25 #[.val (.int p1), .val (.ref aA), .val (.int (9 : Int32)), .val (.int (5 : Int32)), .val (.ref u5)] [(.int p1), (.int (74 : Int32))])) _
                refine XS.icmpYes X71.here hx rfl (pc0 := 25) (pc' := 31) rfl (hb hby d6_25) rfl (feq (fun q => c5 q.symm : ¬ ((74 : Int32) = p1))).2 (by decide) (by decide) ?_
                show Steps p.tables e below (T71.setTop (mkF m 31 #[.val (.int p1), .val (.ref aA), .val (.int (9 : Int32)), .val (.int (5 : Int32)), .val (.ref u5)] [])) _
                refine XS.iinc X71.here hx rfl (hb hby d6_31) rfl (l' := #[.val (.int p1), .val (.ref aA), .val (.int (9 : Int32)), .val (.int ((5 : Int32) + (1 : Int32))), .val (.ref u5)]) rfl ?_
                show Steps p.tables e below (T71.setTop (mkF m 34 #[.val (.int p1), .val (.ref aA), .val (.int (9 : Int32)), .val (.int (6 : Int32)), .val (.ref u5)] [])) _
                refine XS.goto X71.here hx rfl (pc0 := 34) (pc' := 9) rfl (hb hby d6_34) (by decide) (by decide) ?_
                show Steps p.tables e below (T71.setTop (mkF m 9 #[.val (.int p1), .val (.ref aA), .val (.int (9 : Int32)), .val (.int (6 : Int32)), .val (.ref u5)] [])) _
                refine XS.iloadN X71.here hx rfl (hb hby d6_9) rfl ?_
                show Steps p.tables e below (T71.setTop (mkF m 10 #[.val (.int p1), .val (.ref aA), .val (.int (9 : Int32)), .val (.int (6 : Int32)), .val (.ref u5)] [(.int (6 : Int32))])) _
                refine XS.iloadN X71.here hx rfl (hb hby d6_10) rfl ?_
                show Steps p.tables e below (T71.setTop (mkF m 11 #[.val (.int p1), .val (.ref aA), .val (.int (9 : Int32)), .val (.int (6 : Int32)), .val (.ref u5)] [(.int (9 : Int32)), (.int (6 : Int32))])) _
                refine XS.icmpNo X71.here hx rfl (hb hby d6_11) rfl (tlt (by decide : (6 : Int32) < (9 : Int32))).2.1 ?_
                show Steps p.tables e below (T71.setTop (mkF m 14 #[.val (.int p1), .val (.ref aA), .val (.int (9 : Int32)), .val (.int (6 : Int32)), .val (.ref u5)] [])) _
                refine XS.aloadN X71.here hx rfl (hb hby d6_14) rfl rfl ?_
                show Steps p.tables e below (T71.setTop (mkF m 15 #[.val (.int p1), .val (.ref aA), .val (.int (9 : Int32)), .val (.int (6 : Int32)), .val (.ref u5)] [(.ref aA)])) _
                refine XS.iloadN X71.here hx rfl (hb hby d6_15) rfl ?_
                show Steps p.tables e below (T71.setTop (mkF m 16 #[.val (.int p1), .val (.ref aA), .val (.int (9 : Int32)), .val (.int (6 : Int32)), .val (.ref u5)] [(.int (6 : Int32)), (.ref aA)])) _
                refine X71.aaload hx (j := (6 : Int32)) (v := (.ref u6)) (by rw [e71]; exact Ar74.1) (State.isArrayOf_alike hZ.alike Ar74.2.1) rfl Ar74.2.2 hin74 hat74 (g := (mkF m 16 #[.val (.int p1), .val (.ref aA), .val (.int (9 : Int32)), .val (.int (6 : Int32)), .val (.ref u5)] [(.int (6 : Int32)), (.ref aA)])) rfl rfl (hb hby d6_16) _ ?_
                show Steps p.tables e below (T71.setTop (mkF m 17 #[.val (.int p1), .val (.ref aA), .val (.int (9 : Int32)), .val (.int (6 : Int32)), .val (.ref u5)] [(.ref u6)])) _
                refine XS.astore X71.here hx rfl (hb hby d6_17) rfl rfl (l' := #[.val (.int p1), .val (.ref aA), .val (.int (9 : Int32)), .val (.int (6 : Int32)), .val (.ref u6)]) rfl ?_
                show Steps p.tables e below (T71.setTop (mkF m 19 #[.val (.int p1), .val (.ref aA), .val (.int (9 : Int32)), .val (.int (6 : Int32)), .val (.ref u6)] [])) _
                refine XS.aload X71.here hx rfl (hb hby d6_19) rfl rfl ?_
                show Steps p.tables e below (T71.setTop (mkF m 21 #[.val (.int p1), .val (.ref aA), .val (.int (9 : Int32)), .val (.int (6 : Int32)), .val (.ref u6)] [(.ref u6)])) _
                refine st75 _ ?_
                show Steps p.tables e below (T75.setTop (mkF m 24 #[.val (.int p1), .val (.ref aA), .val (.int (9 : Int32)), .val (.int (6 : Int32)), .val (.ref u6)] [(.int (70 : Int32))])) _
                refine XS.iloadN X75.here hx rfl (hb hby d6_24) rfl ?_
                exact kt
              by_cases c6 : p1 = (70 : Int32)
              · skip
                have ev : own_of p1 u0 u1 u2 u3 u4 u5 u6 u7 u8 = .ref u6 := by unfold own_of; rw [if_neg c0, if_neg c1, if_neg c2, if_neg c3, if_neg c4, if_neg c5, if_pos c6]
                have pre77 : ∀ t, Steps p.tables e below (T75.setTop (mkF m 30 #[.val (.int p1), .val (.ref aA), .val (.int (9 : Int32)), .val (.int (6 : Int32)), .val (.ref u6)] [(.ref u6)])) t → Steps p.tables e below (T75.setTop (mkF m 25 #[.val (.int p1), .val (.ref aA), .val (.int (9 : Int32)), .val (.int (6 : Int32)), .val (.ref u6)] [(.int p1), (.int (70 : Int32))])) t := by
                  intro t kt
                  show Steps p.tables e below (T75.setTop (mkF m 25 #[.val (.int p1), .val (.ref aA), .val (.int (9 : Int32)), .val (.int (6 : Int32)), .val (.ref u6)] [(.int p1), (.int (70 : Int32))])) _
                  refine XS.icmpNo X75.here hx rfl (hb hby d6_25) rfl (teq (c6.symm : (70 : Int32) = p1)).2 ?_
                  show Steps p.tables e below (T75.setTop (mkF m 28 #[.val (.int p1), .val (.ref aA), .val (.int (9 : Int32)), .val (.int (6 : Int32)), .val (.ref u6)] [])) _
                  refine XS.aload X75.here hx rfl (hb hby d6_28) rfl rfl ?_
                  exact kt
                obtain ⟨fs, hr, hrun, hended, hW, hsame⟩ := X75.leave (v := some (.ref u6)) (fun h => by rw [Bd.returns] at h; cases h)
                refine ⟨_, _, (pre0 _ (pre52 _ (pre56 _ (pre60 _ (pre64 _ (pre68 _ (pre72 _ (pre76 _ (pre77 _ ?_))))))))), hrun, hended, _, _, rfl, ?_, ⟨_, rfl⟩, hW, hsame.mono (by decide) (by decide)⟩
                · show Steps p.tables e below (T75.setTop (mkF m 30 #[.val (.int p1), .val (.ref aA), .val (.int (9 : Int32)), .val (.int (6 : Int32)), .val (.ref u6)] [(.ref u6)])) _
                  exact retOut X75 hx (t := (.object "com/example/corvid/corvid/symbol/PrimitiveType")) Bd.returns rfl (Or.inr (Or.inr (Or.inr (Or.inr ⟨rfl, rfl, rfl⟩)))) (hb hby d6_30) hr
                · show Qofd Z p1 u0 u1 u2 u3 u4 u5 u6 u7 u8 aA kA h0 n0 _ T75.heap _
                  rw [e75]
                  exact ⟨by rw [ev], N0, rfl⟩
              · skip
                obtain ⟨c78, Ar78, q78, S78, M78, H78, G78⟩ := id KA
                have hin78 : ¬ ((7 : Int32) < 0 ∨ c78.slots.size ≤ ((7 : Int32)).toNatClampNeg) := inb_of S78 ⟨by decide, by decide⟩
                have hat78 : c78.slots[((7 : Int32)).toNatClampNeg]? = some (.ref u7) := H78 _ (by rw [S78]; decide)
                obtain ⟨T79, X79, e79, st79⟩ := getF X75 hx hZ hown (host := "") (Or.inl (hw _ (List.mem_of_getElem? (i := 39) rfl))) Via.refl e75 F7 (g := (mkF m 21 #[.val (.int p1), .val (.ref aA), .val (.int (9 : Int32)), .val (.int (7 : Int32)), .val (.ref u7)] [(.ref u7)])) rfl rfl (hb hby d6_21)
                have pre80 : ∀ t, Steps p.tables e below (T79.setTop (mkF m 25 #[.val (.int p1), .val (.ref aA), .val (.int (9 : Int32)), .val (.int (7 : Int32)), .val (.ref u7)] [(.int p1), (.int (68 : Int32))])) t → Steps p.tables e below (T75.setTop (mkF m 25 #[.val (.int p1), .val (.ref aA), .val (.int (9 : Int32)), .val (.int (6 : Int32)), .val (.ref u6)] [(.int p1), (.int (70 : Int32))])) t := by
                  intro t kt
                  show Steps p.tables e below (T75.setTop (mkF m 25 #[.val (.int p1), .val (.ref aA), .val (.int (9 : Int32)), .val (.int (6 : Int32)), .val (.ref u6)] [(.int p1), (.int (70 : Int32))])) _
                  refine XS.icmpYes X75.here hx rfl (pc0 := 25) (pc' := 31) rfl (hb hby d6_25) rfl (feq (fun q => c6 q.symm : ¬ ((70 : Int32) = p1))).2 (by decide) (by decide) ?_
                  show Steps p.tables e below (T75.setTop (mkF m 31 #[.val (.int p1), .val (.ref aA), .val (.int (9 : Int32)), .val (.int (6 : Int32)), .val (.ref u6)] [])) _
                  refine XS.iinc X75.here hx rfl (hb hby d6_31) rfl (l' := #[.val (.int p1), .val (.ref aA), .val (.int (9 : Int32)), .val (.int ((6 : Int32) + (1 : Int32))), .val (.ref u6)]) rfl ?_
                  show Steps p.tables e below (T75.setTop (mkF m 34 #[.val (.int p1), .val (.ref aA), .val (.int (9 : Int32)), .val (.int (7 : Int32)), .val (.ref u6)] [])) _
                  refine XS.goto X75.here hx rfl (pc0 := 34) (pc' := 9) rfl (hb hby d6_34) (by decide) (by decide) ?_
                  show Steps p.tables e below (T75.setTop (mkF m 9 #[.val (.int p1), .val (.ref aA), .val (.int (9 : Int32)), .val (.int (7 : Int32)), .val (.ref u6)] [])) _
                  refine XS.iloadN X75.here hx rfl (hb hby d6_9) rfl ?_
                  show Steps p.tables e below (T75.setTop (mkF m 10 #[.val (.int p1), .val (.ref aA), .val (.int (9 : Int32)), .val (.int (7 : Int32)), .val (.ref u6)] [(.int (7 : Int32))])) _
                  refine XS.iloadN X75.here hx rfl (hb hby d6_10) rfl ?_
                  show Steps p.tables e below (T75.setTop (mkF m 11 #[.val (.int p1), .val (.ref aA), .val (.int (9 : Int32)), .val (.int (7 : Int32)), .val (.ref u6)] [(.int (9 : Int32)), (.int (7 : Int32))])) _
                  refine XS.icmpNo X75.here hx rfl (hb hby d6_11) rfl (tlt (by decide : (7 : Int32) < (9 : Int32))).2.1 ?_
                  show Steps p.tables e below (T75.setTop (mkF m 14 #[.val (.int p1), .val (.ref aA), .val (.int (9 : Int32)), .val (.int (7 : Int32)), .val (.ref u6)] [])) _
                  refine XS.aloadN X75.here hx rfl (hb hby d6_14) rfl rfl ?_
                  show Steps p.tables e below (T75.setTop (mkF m 15 #[.val (.int p1), .val (.ref aA), .val (.int (9 : Int32)), .val (.int (7 : Int32)), .val (.ref u6)] [(.ref aA)])) _
                  refine XS.iloadN X75.here hx rfl (hb hby d6_15) rfl ?_
                  show Steps p.tables e below (T75.setTop (mkF m 16 #[.val (.int p1), .val (.ref aA), .val (.int (9 : Int32)), .val (.int (7 : Int32)), .val (.ref u6)] [(.int (7 : Int32)), (.ref aA)])) _
                  refine X75.aaload hx (j := (7 : Int32)) (v := (.ref u7)) (by rw [e75]; exact Ar78.1) (State.isArrayOf_alike hZ.alike Ar78.2.1) rfl Ar78.2.2 hin78 hat78 (g := (mkF m 16 #[.val (.int p1), .val (.ref aA), .val (.int (9 : Int32)), .val (.int (7 : Int32)), .val (.ref u6)] [(.int (7 : Int32)), (.ref aA)])) rfl rfl (hb hby d6_16) _ ?_
                  show Steps p.tables e below (T75.setTop (mkF m 17 #[.val (.int p1), .val (.ref aA), .val (.int (9 : Int32)), .val (.int (7 : Int32)), .val (.ref u6)] [(.ref u7)])) _
                  refine XS.astore X75.here hx rfl (hb hby d6_17) rfl rfl (l' := #[.val (.int p1), .val (.ref aA), .val (.int (9 : Int32)), .val (.int (7 : Int32)), .val (.ref u7)]) rfl ?_
                  show Steps p.tables e below (T75.setTop (mkF m 19 #[.val (.int p1), .val (.ref aA), .val (.int (9 : Int32)), .val (.int (7 : Int32)), .val (.ref u7)] [])) _
                  refine XS.aload X75.here hx rfl (hb hby d6_19) rfl rfl ?_
                  show Steps p.tables e below (T75.setTop (mkF m 21 #[.val (.int p1), .val (.ref aA), .val (.int (9 : Int32)), .val (.int (7 : Int32)), .val (.ref u7)] [(.ref u7)])) _
                  refine st79 _ ?_
                  show Steps p.tables e below (T79.setTop (mkF m 24 #[.val (.int p1), .val (.ref aA), .val (.int (9 : Int32)), .val (.int (7 : Int32)), .val (.ref u7)] [(.int (68 : Int32))])) _
                  refine XS.iloadN X79.here hx rfl (hb hby d6_24) rfl ?_
                  exact kt
                by_cases c7 : p1 = (68 : Int32)
                · skip
                  have ev : own_of p1 u0 u1 u2 u3 u4 u5 u6 u7 u8 = .ref u7 := by unfold own_of; rw [if_neg c0, if_neg c1, if_neg c2, if_neg c3, if_neg c4, if_neg c5, if_neg c6, if_pos c7]
                  have pre81 : ∀ t, Steps p.tables e below (T79.setTop (mkF m 30 #[.val (.int p1), .val (.ref aA), .val (.int (9 : Int32)), .val (.int (7 : Int32)), .val (.ref u7)] [(.ref u7)])) t → Steps p.tables e below (T79.setTop (mkF m 25 #[.val (.int p1), .val (.ref aA), .val (.int (9 : Int32)), .val (.int (7 : Int32)), .val (.ref u7)] [(.int p1), (.int (68 : Int32))])) t := by
                    intro t kt
                    show Steps p.tables e below (T79.setTop (mkF m 25 #[.val (.int p1), .val (.ref aA), .val (.int (9 : Int32)), .val (.int (7 : Int32)), .val (.ref u7)] [(.int p1), (.int (68 : Int32))])) _
                    refine XS.icmpNo X79.here hx rfl (hb hby d6_25) rfl (teq (c7.symm : (68 : Int32) = p1)).2 ?_
                    show Steps p.tables e below (T79.setTop (mkF m 28 #[.val (.int p1), .val (.ref aA), .val (.int (9 : Int32)), .val (.int (7 : Int32)), .val (.ref u7)] [])) _
                    refine XS.aload X79.here hx rfl (hb hby d6_28) rfl rfl ?_
                    exact kt
                  obtain ⟨fs, hr, hrun, hended, hW, hsame⟩ := X79.leave (v := some (.ref u7)) (fun h => by rw [Bd.returns] at h; cases h)
                  refine ⟨_, _, (pre0 _ (pre52 _ (pre56 _ (pre60 _ (pre64 _ (pre68 _ (pre72 _ (pre76 _ (pre80 _ (pre81 _ ?_)))))))))), hrun, hended, _, _, rfl, ?_, ⟨_, rfl⟩, hW, hsame.mono (by decide) (by decide)⟩
                  · show Steps p.tables e below (T79.setTop (mkF m 30 #[.val (.int p1), .val (.ref aA), .val (.int (9 : Int32)), .val (.int (7 : Int32)), .val (.ref u7)] [(.ref u7)])) _
                    exact retOut X79 hx (t := (.object "com/example/corvid/corvid/symbol/PrimitiveType")) Bd.returns rfl (Or.inr (Or.inr (Or.inr (Or.inr ⟨rfl, rfl, rfl⟩)))) (hb hby d6_30) hr
                  · show Qofd Z p1 u0 u1 u2 u3 u4 u5 u6 u7 u8 aA kA h0 n0 _ T79.heap _
                    rw [e79]
                    exact ⟨by rw [ev], N0, rfl⟩
                · skip
                  obtain ⟨c82, Ar82, q82, S82, M82, H82, G82⟩ := id KA
                  have hin82 : ¬ ((8 : Int32) < 0 ∨ c82.slots.size ≤ ((8 : Int32)).toNatClampNeg) := inb_of S82 ⟨by decide, by decide⟩
                  have hat82 : c82.slots[((8 : Int32)).toNatClampNeg]? = some (.ref u8) := H82 _ (by rw [S82]; decide)
                  obtain ⟨T83, X83, e83, st83⟩ := getF X79 hx hZ hown (host := "") (Or.inl (hw _ (List.mem_of_getElem? (i := 39) rfl))) Via.refl e79 F8 (g := (mkF m 21 #[.val (.int p1), .val (.ref aA), .val (.int (9 : Int32)), .val (.int (8 : Int32)), .val (.ref u8)] [(.ref u8)])) rfl rfl (hb hby d6_21)
                  have pre84 : ∀ t, Steps p.tables e below (T83.setTop (mkF m 25 #[.val (.int p1), .val (.ref aA), .val (.int (9 : Int32)), .val (.int (8 : Int32)), .val (.ref u8)] [(.int p1), (.int (86 : Int32))])) t → Steps p.tables e below (T79.setTop (mkF m 25 #[.val (.int p1), .val (.ref aA), .val (.int (9 : Int32)), .val (.int (7 : Int32)), .val (.ref u7)] [(.int p1), (.int (68 : Int32))])) t := by
                    intro t kt
                    show Steps p.tables e below (T79.setTop (mkF m 25 #[.val (.int p1), .val (.ref aA), .val (.int (9 : Int32)), .val (.int (7 : Int32)), .val (.ref u7)] [(.int p1), (.int (68 : Int32))])) _
                    refine XS.icmpYes X79.here hx rfl (pc0 := 25) (pc' := 31) rfl (hb hby d6_25) rfl (feq (fun q => c7 q.symm : ¬ ((68 : Int32) = p1))).2 (by decide) (by decide) ?_
                    show Steps p.tables e below (T79.setTop (mkF m 31 #[.val (.int p1), .val (.ref aA), .val (.int (9 : Int32)), .val (.int (7 : Int32)), .val (.ref u7)] [])) _
                    refine XS.iinc X79.here hx rfl (hb hby d6_31) rfl (l' := #[.val (.int p1), .val (.ref aA), .val (.int (9 : Int32)), .val (.int ((7 : Int32) + (1 : Int32))), .val (.ref u7)]) rfl ?_
                    show Steps p.tables e below (T79.setTop (mkF m 34 #[.val (.int p1), .val (.ref aA), .val (.int (9 : Int32)), .val (.int (8 : Int32)), .val (.ref u7)] [])) _
                    refine XS.goto X79.here hx rfl (pc0 := 34) (pc' := 9) rfl (hb hby d6_34) (by decide) (by decide) ?_
                    show Steps p.tables e below (T79.setTop (mkF m 9 #[.val (.int p1), .val (.ref aA), .val (.int (9 : Int32)), .val (.int (8 : Int32)), .val (.ref u7)] [])) _
                    refine XS.iloadN X79.here hx rfl (hb hby d6_9) rfl ?_
                    show Steps p.tables e below (T79.setTop (mkF m 10 #[.val (.int p1), .val (.ref aA), .val (.int (9 : Int32)), .val (.int (8 : Int32)), .val (.ref u7)] [(.int (8 : Int32))])) _
                    refine XS.iloadN X79.here hx rfl (hb hby d6_10) rfl ?_
                    show Steps p.tables e below (T79.setTop (mkF m 11 #[.val (.int p1), .val (.ref aA), .val (.int (9 : Int32)), .val (.int (8 : Int32)), .val (.ref u7)] [(.int (9 : Int32)), (.int (8 : Int32))])) _
                    refine XS.icmpNo X79.here hx rfl (hb hby d6_11) rfl (tlt (by decide : (8 : Int32) < (9 : Int32))).2.1 ?_
                    show Steps p.tables e below (T79.setTop (mkF m 14 #[.val (.int p1), .val (.ref aA), .val (.int (9 : Int32)), .val (.int (8 : Int32)), .val (.ref u7)] [])) _
                    refine XS.aloadN X79.here hx rfl (hb hby d6_14) rfl rfl ?_
                    show Steps p.tables e below (T79.setTop (mkF m 15 #[.val (.int p1), .val (.ref aA), .val (.int (9 : Int32)), .val (.int (8 : Int32)), .val (.ref u7)] [(.ref aA)])) _
                    refine XS.iloadN X79.here hx rfl (hb hby d6_15) rfl ?_
                    show Steps p.tables e below (T79.setTop (mkF m 16 #[.val (.int p1), .val (.ref aA), .val (.int (9 : Int32)), .val (.int (8 : Int32)), .val (.ref u7)] [(.int (8 : Int32)), (.ref aA)])) _
                    refine X79.aaload hx (j := (8 : Int32)) (v := (.ref u8)) (by rw [e79]; exact Ar82.1) (State.isArrayOf_alike hZ.alike Ar82.2.1) rfl Ar82.2.2 hin82 hat82 (g := (mkF m 16 #[.val (.int p1), .val (.ref aA), .val (.int (9 : Int32)), .val (.int (8 : Int32)), .val (.ref u7)] [(.int (8 : Int32)), (.ref aA)])) rfl rfl (hb hby d6_16) _ ?_
                    show Steps p.tables e below (T79.setTop (mkF m 17 #[.val (.int p1), .val (.ref aA), .val (.int (9 : Int32)), .val (.int (8 : Int32)), .val (.ref u7)] [(.ref u8)])) _
                    refine XS.astore X79.here hx rfl (hb hby d6_17) rfl rfl (l' := #[.val (.int p1), .val (.ref aA), .val (.int (9 : Int32)), .val (.int (8 : Int32)), .val (.ref u8)]) rfl ?_
                    show Steps p.tables e below (T79.setTop (mkF m 19 #[.val (.int p1), .val (.ref aA), .val (.int (9 : Int32)), .val (.int (8 : Int32)), .val (.ref u8)] [])) _
                    refine XS.aload X79.here hx rfl (hb hby d6_19) rfl rfl ?_
                    show Steps p.tables e below (T79.setTop (mkF m 21 #[.val (.int p1), .val (.ref aA), .val (.int (9 : Int32)), .val (.int (8 : Int32)), .val (.ref u8)] [(.ref u8)])) _
                    refine st83 _ ?_
                    show Steps p.tables e below (T83.setTop (mkF m 24 #[.val (.int p1), .val (.ref aA), .val (.int (9 : Int32)), .val (.int (8 : Int32)), .val (.ref u8)] [(.int (86 : Int32))])) _
                    refine XS.iloadN X83.here hx rfl (hb hby d6_24) rfl ?_
                    exact kt
                  by_cases c8 : p1 = (86 : Int32)
                  · skip
                    have ev : own_of p1 u0 u1 u2 u3 u4 u5 u6 u7 u8 = .ref u8 := by unfold own_of; rw [if_neg c0, if_neg c1, if_neg c2, if_neg c3, if_neg c4, if_neg c5, if_neg c6, if_neg c7, if_pos c8]
                    have pre85 : ∀ t, Steps p.tables e below (T83.setTop (mkF m 30 #[.val (.int p1), .val (.ref aA), .val (.int (9 : Int32)), .val (.int (8 : Int32)), .val (.ref u8)] [(.ref u8)])) t → Steps p.tables e below (T83.setTop (mkF m 25 #[.val (.int p1), .val (.ref aA), .val (.int (9 : Int32)), .val (.int (8 : Int32)), .val (.ref u8)] [(.int p1), (.int (86 : Int32))])) t := by
                      intro t kt
                      show Steps p.tables e below (T83.setTop (mkF m 25 #[.val (.int p1), .val (.ref aA), .val (.int (9 : Int32)), .val (.int (8 : Int32)), .val (.ref u8)] [(.int p1), (.int (86 : Int32))])) _
                      refine XS.icmpNo X83.here hx rfl (hb hby d6_25) rfl (teq (c8.symm : (86 : Int32) = p1)).2 ?_
                      show Steps p.tables e below (T83.setTop (mkF m 28 #[.val (.int p1), .val (.ref aA), .val (.int (9 : Int32)), .val (.int (8 : Int32)), .val (.ref u8)] [])) _
                      refine XS.aload X83.here hx rfl (hb hby d6_28) rfl rfl ?_
                      exact kt
                    obtain ⟨fs, hr, hrun, hended, hW, hsame⟩ := X83.leave (v := some (.ref u8)) (fun h => by rw [Bd.returns] at h; cases h)
                    refine ⟨_, _, (pre0 _ (pre52 _ (pre56 _ (pre60 _ (pre64 _ (pre68 _ (pre72 _ (pre76 _ (pre80 _ (pre84 _ (pre85 _ ?_))))))))))), hrun, hended, _, _, rfl, ?_, ⟨_, rfl⟩, hW, hsame.mono (by decide) (by decide)⟩
                    · show Steps p.tables e below (T83.setTop (mkF m 30 #[.val (.int p1), .val (.ref aA), .val (.int (9 : Int32)), .val (.int (8 : Int32)), .val (.ref u8)] [(.ref u8)])) _
                      exact retOut X83 hx (t := (.object "com/example/corvid/corvid/symbol/PrimitiveType")) Bd.returns rfl (Or.inr (Or.inr (Or.inr (Or.inr ⟨rfl, rfl, rfl⟩)))) (hb hby d6_30) hr
                    · show Qofd Z p1 u0 u1 u2 u3 u4 u5 u6 u7 u8 aA kA h0 n0 _ T83.heap _
                      rw [e83]
                      exact ⟨by rw [ev], N0, rfl⟩
                  · skip
                    have ev : own_of p1 u0 u1 u2 u3 u4 u5 u6 u7 u8 = .null := by unfold own_of; rw [if_neg c0, if_neg c1, if_neg c2, if_neg c3, if_neg c4, if_neg c5, if_neg c6, if_neg c7, if_neg c8]
                    have pre86 : ∀ t, Steps p.tables e below (T83.setTop (mkF m 38 #[.val (.int p1), .val (.ref aA), .val (.int (9 : Int32)), .val (.int (9 : Int32)), .val (.ref u8)] [.null])) t → Steps p.tables e below (T83.setTop (mkF m 25 #[.val (.int p1), .val (.ref aA), .val (.int (9 : Int32)), .val (.int (8 : Int32)), .val (.ref u8)] [(.int p1), (.int (86 : Int32))])) t := by
                      intro t kt
                      show Steps p.tables e below (T83.setTop (mkF m 25 #[.val (.int p1), .val (.ref aA), .val (.int (9 : Int32)), .val (.int (8 : Int32)), .val (.ref u8)] [(.int p1), (.int (86 : Int32))])) _
                      refine XS.icmpYes X83.here hx rfl (pc0 := 25) (pc' := 31) rfl (hb hby d6_25) rfl (feq (fun q => c8 q.symm : ¬ ((86 : Int32) = p1))).2 (by decide) (by decide) ?_
                      show Steps p.tables e below (T83.setTop (mkF m 31 #[.val (.int p1), .val (.ref aA), .val (.int (9 : Int32)), .val (.int (8 : Int32)), .val (.ref u8)] [])) _
                      refine XS.iinc X83.here hx rfl (hb hby d6_31) rfl (l' := #[.val (.int p1), .val (.ref aA), .val (.int (9 : Int32)), .val (.int ((8 : Int32) + (1 : Int32))), .val (.ref u8)]) rfl ?_
                      show Steps p.tables e below (T83.setTop (mkF m 34 #[.val (.int p1), .val (.ref aA), .val (.int (9 : Int32)), .val (.int (9 : Int32)), .val (.ref u8)] [])) _
                      refine XS.goto X83.here hx rfl (pc0 := 34) (pc' := 9) rfl (hb hby d6_34) (by decide) (by decide) ?_
                      show Steps p.tables e below (T83.setTop (mkF m 9 #[.val (.int p1), .val (.ref aA), .val (.int (9 : Int32)), .val (.int (9 : Int32)), .val (.ref u8)] [])) _
                      refine XS.iloadN X83.here hx rfl (hb hby d6_9) rfl ?_
                      show Steps p.tables e below (T83.setTop (mkF m 10 #[.val (.int p1), .val (.ref aA), .val (.int (9 : Int32)), .val (.int (9 : Int32)), .val (.ref u8)] [(.int (9 : Int32))])) _
                      refine XS.iloadN X83.here hx rfl (hb hby d6_10) rfl ?_
                      show Steps p.tables e below (T83.setTop (mkF m 11 #[.val (.int p1), .val (.ref aA), .val (.int (9 : Int32)), .val (.int (9 : Int32)), .val (.ref u8)] [(.int (9 : Int32)), (.int (9 : Int32))])) _
                      refine XS.icmpYes X83.here hx rfl (pc0 := 11) (pc' := 37) rfl (hb hby d6_11) rfl (flt (by decide : ¬ ((9 : Int32) < (9 : Int32)))).2.1 (by decide) (by decide) ?_
                      show Steps p.tables e below (T83.setTop (mkF m 37 #[.val (.int p1), .val (.ref aA), .val (.int (9 : Int32)), .val (.int (9 : Int32)), .val (.ref u8)] [])) _
                      refine XS.aconstNull X83.here hx rfl (hb hby d6_37) ?_
                      exact kt
                    obtain ⟨fs, hr, hrun, hended, hW, hsame⟩ := X83.leave (v := some .null) (fun h => by rw [Bd.returns] at h; cases h)
                    refine ⟨_, _, (pre0 _ (pre52 _ (pre56 _ (pre60 _ (pre64 _ (pre68 _ (pre72 _ (pre76 _ (pre80 _ (pre84 _ (pre86 _ ?_))))))))))), hrun, hended, _, _, rfl, ?_, ⟨_, rfl⟩, hW, hsame.mono (by decide) (by decide)⟩
                    · show Steps p.tables e below (T83.setTop (mkF m 38 #[.val (.int p1), .val (.ref aA), .val (.int (9 : Int32)), .val (.int (9 : Int32)), .val (.ref u8)] [.null])) _
                      exact retOut X83 hx (t := (.object "com/example/corvid/corvid/symbol/PrimitiveType")) Bd.returns rfl (Or.inr (Or.inr (Or.inr (Or.inr ⟨rfl, rfl, rfl⟩)))) (hb hby d6_38) hr
                    · show Qofd Z p1 u0 u1 u2 u3 u4 u5 u6 u7 u8 aA kA h0 n0 _ T83.heap _
                      rw [e83]
                      exact ⟨by rw [ev], N0, rfl⟩
theorem own_k (p : Int32) : 0 ≤ (((p.toUInt32 >>> ((1 : Int32) &&& 31).toUInt32).toInt32) % (9 : Int32)).toInt ∧ (((p.toUInt32 >>> ((1 : Int32) &&& 31).toUInt32).toInt32) % (9 : Int32)).toInt < 9 := by
  have h1 := c_iushr p 1 1 (by decide) (by decide)
  have r := rng32 p
  have h2 := (c_irem ((p.toUInt32 >>> ((1 : Int32) &&& 31).toUInt32).toInt32) 9 9 (by decide)).1 (by rw [h1]; omega)
  omega
theorem own_in {k : Int32} (h : 0 ≤ k.toInt ∧ k.toInt < 9) : ¬ k < 0 ∧ k < 9 ∧ k.toNatClampNeg < 9 := by
  refine ⟨?_, ?_, ?_⟩
  · rw [Int32.lt_iff_toInt_lt]; show ¬ k.toInt < 0; omega
  · rw [Int32.lt_iff_toInt_lt]; show k.toInt < 9; omega
  · simp only [Int32.toNatClampNeg]; omega
theorem own_bt {i : Nat} (h : i < 9) : ∃ bt, ([(.int (90 : Int32)), (.int (66 : Int32)), (.int (83 : Int32)), (.int (67 : Int32)), (.int (73 : Int32)), (.int (74 : Int32)), (.int (70 : Int32)), (.int (68 : Int32)), (.int (86 : Int32))] : List Value).getD i (.int (0 : Int32)) = .int bt := by
  have h' : i = 0 ∨ i = 1 ∨ i = 2 ∨ i = 3 ∨ i = 4 ∨ i = 5 ∨ i = 6 ∨ i = 7 ∨ i = 8 := by omega
  rcases h' with rfl | rfl | rfl | rfl | rfl | rfl | rfl | rfl | rfl <;> exact ⟨_, rfl⟩
theorem ef_0 (m : MethodId) (x0 : Int32) (x1 : Int32) : entryFrame m #[(.int x0), (.int x1)] maxLocals = mkF m 0 #[.val (.int x0), .val (.int x1), .unset, .unset] [] := by (first | (simp [entryFrame, mkF, argsToLocals, Value.category, maxLocals]; done) | rfl)
def Q0 (Z : State) (p1 : Int32) (p2 : Int32) (u0 : Addr) (u1 : Addr) (u2 : Addr) (u3 : Addr) (u4 : Addr) (u5 : Addr) (u6 : Addr) (u7 : Addr) (u8 : Addr) (aA : Addr) (kA : ClassId) (zc : Int32) (fm : Value) (h0 : Heap) (n0 : Nat) (v : Option Value) (h : Heap) (L : List Loc) : Prop := v = some (.int (1 : Int32)) ∧ Fr n0 L
theorem pd__C_Lcom_example_corvid_corvid_symbol_PrimitiveType_ : parseMethodDescriptor "(C)Lcom/example/corvid/corvid/symbol/PrimitiveType;" = some ⟨[.char], some (.object "com/example/corvid/corvid/symbol/PrimitiveType")⟩ := by decide +kernel
theorem pd__I_C : parseMethodDescriptor "(I)C" = some ⟨[.int], some .char⟩ := by decide +kernel
set_option maxRecDepth 65536 in
set_option maxHeartbeats 40000000 in
theorem rm0 (l : Launch) (Z : State) (a0 : Array Value) (hw : ∀ d ∈ tables_1, d.before a0 Z = true) (ws : List Jvm.Cond) (p1 : Int32) (p2 : Int32) (u0 : Addr) (u1 : Addr) (u2 : Addr) (u3 : Addr) (u4 : Addr) (u5 : Addr) (u6 : Addr) (u7 : Addr) (u8 : Addr) (aA : Addr) (kA : ClassId) (zc : Int32) (fm : Value) (h0 : Heap) (n0 : Nat) (Z0 : n0 ≤ h0.size) (S0 : Sta Z h0 "com/example/corvid/corvid/symbol/PrimitiveType" "BOOLEAN" "Lcom/example/corvid/corvid/symbol/PrimitiveType;" (.ref u0)) (S1 : Sta Z h0 "com/example/corvid/corvid/symbol/PrimitiveType" "BYTE" "Lcom/example/corvid/corvid/symbol/PrimitiveType;" (.ref u1)) (S2 : Sta Z h0 "com/example/corvid/corvid/symbol/PrimitiveType" "SHORT" "Lcom/example/corvid/corvid/symbol/PrimitiveType;" (.ref u2)) (S3 : Sta Z h0 "com/example/corvid/corvid/symbol/PrimitiveType" "CHAR" "Lcom/example/corvid/corvid/symbol/PrimitiveType;" (.ref u3)) (S4 : Sta Z h0 "com/example/corvid/corvid/symbol/PrimitiveType" "INT" "Lcom/example/corvid/corvid/symbol/PrimitiveType;" (.ref u4)) (S5 : Sta Z h0 "com/example/corvid/corvid/symbol/PrimitiveType" "LONG" "Lcom/example/corvid/corvid/symbol/PrimitiveType;" (.ref u5)) (S6 : Sta Z h0 "com/example/corvid/corvid/symbol/PrimitiveType" "FLOAT" "Lcom/example/corvid/corvid/symbol/PrimitiveType;" (.ref u6)) (S7 : Sta Z h0 "com/example/corvid/corvid/symbol/PrimitiveType" "DOUBLE" "Lcom/example/corvid/corvid/symbol/PrimitiveType;" (.ref u7)) (S8 : Sta Z h0 "com/example/corvid/corvid/symbol/PrimitiveType" "VOID" "Lcom/example/corvid/corvid/symbol/PrimitiveType;" (.ref u8)) (SA : Sta Z h0 "com/example/corvid/corvid/symbol/PrimitiveType" "ALL" "[Lcom/example/corvid/corvid/symbol/PrimitiveType;" (.ref aA)) (KA : Arv Z h0 aA kA (.object "com/example/corvid/corvid/symbol/PrimitiveType") (9 : Int32) [.ref u0, .ref u1, .ref u2, .ref u3, .ref u4, .ref u5, .ref u6, .ref u7, .ref u8] .null) (F0 : Fld Z h0 u0 "com/example/corvid/corvid/symbol/PrimitiveType" "descriptor" "C" (.int (90 : Int32))) (F1 : Fld Z h0 u1 "com/example/corvid/corvid/symbol/PrimitiveType" "descriptor" "C" (.int (66 : Int32))) (F2 : Fld Z h0 u2 "com/example/corvid/corvid/symbol/PrimitiveType" "descriptor" "C" (.int (83 : Int32))) (F3 : Fld Z h0 u3 "com/example/corvid/corvid/symbol/PrimitiveType" "descriptor" "C" (.int (67 : Int32))) (F4 : Fld Z h0 u4 "com/example/corvid/corvid/symbol/PrimitiveType" "descriptor" "C" (.int (73 : Int32))) (F5 : Fld Z h0 u5 "com/example/corvid/corvid/symbol/PrimitiveType" "descriptor" "C" (.int (74 : Int32))) (F6 : Fld Z h0 u6 "com/example/corvid/corvid/symbol/PrimitiveType" "descriptor" "C" (.int (70 : Int32))) (F7 : Fld Z h0 u7 "com/example/corvid/corvid/symbol/PrimitiveType" "descriptor" "C" (.int (68 : Int32))) (F8 : Fld Z h0 u8 "com/example/corvid/corvid/symbol/PrimitiveType" "descriptor" "C" (.int (86 : Int32))) (SC : Sta Z h0 "java/lang/String" "COMPACT_STRINGS" "Z" (.int zc)) (hzc : ¬ zc = (0 : Int32)) (SFm : Sta Z h0 "jdk/internal/util/Preconditions" "SIOOBE_FORMATTER" "Ljava/util/function/BiFunction;" fm) (rf : fm.isRef = true) (hkz : ∀ (b : Addr) (cl : Cell), Z.heap[b]? = some cl → h0[b]? = some cl) (hcw : Jvm.Lit.compactW.before a0 Z = true) (hh37 : Jvm.Lit.constHeld Z "com/example/corvid/corvid/symbol/PrimitiveTypeOfDescriptorPinLaw" 37) :
    MetFree l x (head1 (Jvm.Cond.code x code maxLocals ret :: ws) room_1) (fun a U => a = #[(.int p1), (.int p2)] ∧ Z.Warmed39 U.vm ∧ U.heap = h0 ∧ IB Z U.vm []) (fun _ _ _ _ _ => True) (fun _ U o U' => ∃ v L, o = .returned v ∧ Q0 Z p1 p2 u0 u1 u2 u3 u4 u5 u6 u7 u8 aA kA zc fm h0 n0 v U'.heap L ∧ ReturnedEndW U o U' L room_1.cells room_1.slots) := by
  refine MetFree.of_bodySF (plainFor_of_name pn_com_example_corvid_corvid_symbol_PrimitiveTypeOfDescriptorPinLaw) hisR ?_
  intro p e s m args below meth c s₁ Bd hml0 hP hK
  obtain ⟨rfl, hZ, hh, hI⟩ := hP
  have hx := Bd.exec
  have hby := Bd.bytes
  have hml : c.maxLocals = 4 := hml0
  have hown : s.vm.findClass "com/example/corvid/corvid/symbol/PrimitiveTypeOfDescriptorPinLaw" = some m.cls := findClass_of_methodNamed Bd.named
  have hnm := (name_of_methodNamed Bd.named Bd.method).1
  have X0 : Stand p l e room_1 s m #[(.int p1), (.int p2)] below meth c s₁ [] 0 0 := Stand.of_body Bd
  have e0 : s₁.heap = h0 := by rw [← hh, Bd.state]; rfl
  have N0 := Fr.nil n0
  have pre0 : ∀ t, Steps p.tables e below (s₁.setTop (mkF m 0 #[.val (.int p1), .val (.int p2), .unset, .unset] [])) t → Steps p.tables e below (s₁.setTop (entryFrame m #[(.int p1), (.int p2)] maxLocals)) t := fun t k => castTop (ef_0 m p1 p2) k
  have pre87 : ∀ t, Steps p.tables e below (s₁.setTop (mkF m 3 #[.val (.int p1), .val (.int p2), .unset, .unset] [(.int (p2 &&& (1 : Int32)))])) t → Steps p.tables e below (s₁.setTop (mkF m 0 #[.val (.int p1), .val (.int p2), .unset, .unset] [])) t := by
    intro t kt
    show Steps p.tables e below (s₁.setTop (mkF m 0 #[.val (.int p1), .val (.int p2), .unset, .unset] [])) _
    refine XS.iloadN X0.here hx rfl (hb hby at_0) rfl ?_
    show Steps p.tables e below (s₁.setTop (mkF m 1 #[.val (.int p1), .val (.int p2), .unset, .unset] [(.int p2)])) _
    refine XS.iconst X0.here hx rfl (hb hby at_1) ?_
    show Steps p.tables e below (s₁.setTop (mkF m 2 #[.val (.int p1), .val (.int p2), .unset, .unset] [(.int (1 : Int32)), (.int p2)])) _
    refine XS.iand X0.here hx rfl (hb hby at_2) rfl ?_
    exact kt
  by_cases c3 : (p2 &&& (1 : Int32)) = (0 : Int32)
  · skip
    obtain ⟨_, _, ⟨T88, L88, k88, n88⟩, -, X88, ⟨Lc88, hQ88, l88, y88, z88⟩, st88⟩ := Jvm.LawKit.callS X0 hx (y := (⟨"com/example/corvid/corvid/symbol/PrimitiveType", "ofDescriptor", "(C)Lcom/example/corvid/corvid/symbol/PrimitiveType;"⟩ : MethodName)) hown (mvT hZ (hw _ (List.mem_of_getElem? (i := 33) rfl))) (mvT hZ (hw _ (List.mem_of_getElem? (i := 34) rfl))) (mvT hZ (hw _ (List.mem_of_getElem? (i := 35) rfl))) (mvT hZ (hw _ (List.mem_of_getElem? (i := 36) rfl))) (by decide) (backOf (W := 0) (rmofd l Z a0 hw [] (p1.toUInt32.toUInt16.toUInt32.toInt32) u0 u1 u2 u3 u4 u5 u6 u7 u8 aA kA h0 n0 Z0 SA KA F0 F1 F2 F3 F4 F5 F6 F7 F8) hZ (hw _ (List.mem_of_getElem? (i := 36) rfl)) (hw _ (List.mem_of_getElem? (i := 35) rfl)) (by decide) (by decide)) (g := (mkF m 27 #[.val (.int p1), .val (.int p2), .val (.int (p1.toUInt32.toUInt16.toUInt32.toInt32)), .unset] [(.int (p1.toUInt32.toUInt16.toUInt32.toInt32))])) rfl (by rw [hml]; rfl) (argsL := [(.int (p1.toUInt32.toUInt16.toUInt32.toInt32))]) (rest := []) (lenOf pd__C_Lcom_example_corvid_corvid_symbol_PrimitiveType_ rfl) rfl (by show 2 * 0 + _ ≤ _; exact Nat.le_of_eq rfl) (hb hby at_27) (fun _ _ => ⟨rfl, e0, (by decide : 0 + 0 ≤ _), (by decide : 0 + 0 ≤ _)⟩)
    dsimp only [Pt.U, Pt.locs, Pt.cells, Pt.slots] at X88 l88 y88 z88 st88 hQ88
    subst l88 y88 z88
    obtain ⟨rfl, N88q, EQ88⟩ := hQ88
    have N88 := Fr.app N0 N88q
    have Z88 : n0 ≤ T88.heap.size := by rw [EQ88]; exact Z0
    have K88 := own_keq EQ88 (Keep.refl h0 [])
    have f89 := (EQ88 ▸ S0)
    have f90 := (EQ88 ▸ S1)
    have f91 := (EQ88 ▸ S2)
    have f92 := (EQ88 ▸ S3)
    have f93 := (EQ88 ▸ S4)
    have f94 := (EQ88 ▸ S5)
    have f95 := (EQ88 ▸ S6)
    have f96 := (EQ88 ▸ S7)
    have f97 := (EQ88 ▸ S8)
    obtain ⟨_, _, ⟨T98, L98, k98, n98⟩, -, X98, ⟨Lc98, hQ98, l98, y98, z98⟩, st98⟩ := Jvm.LawKit.callS X88 hx (y := (⟨"com/example/corvid/corvid/symbol/PrimitiveTypeOfDescriptorPinLaw", "expected", "(C)Lcom/example/corvid/corvid/symbol/PrimitiveType;"⟩ : MethodName)) hown (mvT hZ (hw _ (List.mem_of_getElem? (i := 41) rfl))) (mvT hZ (hw _ (List.mem_of_getElem? (i := 42) rfl))) (mvT hZ (hw _ (List.mem_of_getElem? (i := 43) rfl))) (mvT hZ (hw _ (List.mem_of_getElem? (i := 44) rfl))) (by decide) (backOf (W := 1) (rmexp l Z a0 hw [] (p1.toUInt32.toUInt16.toUInt32.toInt32) u0 u1 u2 u3 u4 u5 u6 u7 u8 T88.heap n0 Z88 f89 f90 f91 f92 f93 f94 f95 f96 f97) hZ (hw _ (List.mem_of_getElem? (i := 44) rfl)) (hw _ (List.mem_of_getElem? (i := 43) rfl)) (by decide) (by decide)) (g := (mkF m 33 #[.val (.int p1), .val (.int p2), .val (.int (p1.toUInt32.toUInt16.toUInt32.toInt32)), .val (own_of (p1.toUInt32.toUInt16.toUInt32.toInt32) u0 u1 u2 u3 u4 u5 u6 u7 u8)] [(.int (p1.toUInt32.toUInt16.toUInt32.toInt32)), (own_of (p1.toUInt32.toUInt16.toUInt32.toInt32) u0 u1 u2 u3 u4 u5 u6 u7 u8)])) rfl (by rw [hml]; rfl) (argsL := [(.int (p1.toUInt32.toUInt16.toUInt32.toInt32))]) (rest := [(own_of (p1.toUInt32.toUInt16.toUInt32.toInt32) u0 u1 u2 u3 u4 u5 u6 u7 u8)]) (lenOf pd__C_Lcom_example_corvid_corvid_symbol_PrimitiveType_ rfl) rfl (by show 2 * 0 + _ ≤ _; simp [XT.cat1 (own_ref _ u0 u1 u2 u3 u4 u5 u6 u7 u8)]) (hb hby at_33) (fun _ _ => ⟨rfl, rfl, (by decide : 0 + 0 ≤ _), (by decide : 0 + 0 ≤ _)⟩)
    dsimp only [Pt.U, Pt.locs, Pt.cells, Pt.slots] at X98 l98 y98 z98 st98 hQ98
    subst l98 y98 z98
    obtain ⟨rfl, N98q, EQ98⟩ := hQ98
    have N98 := Fr.app N88 N98q
    have Z98 : n0 ≤ T98.heap.size := by rw [EQ98]; exact Z88
    have K98 := own_keq EQ98 K88
    have pre99 : ∀ t, Steps p.tables e below (T98.setTop (mkF m 44 #[.val (.int p1), .val (.int p2), .val (.int (p1.toUInt32.toUInt16.toUInt32.toInt32)), .val (own_of (p1.toUInt32.toUInt16.toUInt32.toInt32) u0 u1 u2 u3 u4 u5 u6 u7 u8)] [(.int (1 : Int32))])) t → Steps p.tables e below (s₁.setTop (mkF m 3 #[.val (.int p1), .val (.int p2), .unset, .unset] [(.int (p2 &&& (1 : Int32)))])) t := by
      intro t kt
      show Steps p.tables e below (s₁.setTop (mkF m 3 #[.val (.int p1), .val (.int p2), .unset, .unset] [(.int (p2 &&& (1 : Int32)))])) _
      refine XS.ifYes X0.here hx rfl (pc0 := 3) (pc' := 23) rfl (hb hby at_3) rfl ((if0 _ _).trans (teq (c3 : (p2 &&& (1 : Int32)) = (0 : Int32))).1) (by decide) (by decide) ?_
      show Steps p.tables e below (s₁.setTop (mkF m 23 #[.val (.int p1), .val (.int p2), .unset, .unset] [])) _
      refine XS.iloadN X0.here hx rfl (hb hby at_23) rfl ?_
      show Steps p.tables e below (s₁.setTop (mkF m 24 #[.val (.int p1), .val (.int p2), .unset, .unset] [(.int p1)])) _
      refine XS.i2c X0.here hx rfl (hb hby at_24) rfl ?_
      show Steps p.tables e below (s₁.setTop (mkF m 25 #[.val (.int p1), .val (.int p2), .unset, .unset] [(.int (p1.toUInt32.toUInt16.toUInt32.toInt32))])) _
      refine XS.istoreN X0.here hx rfl (hb hby at_25) rfl (l' := #[.val (.int p1), .val (.int p2), .val (.int (p1.toUInt32.toUInt16.toUInt32.toInt32)), .unset]) rfl ?_
      show Steps p.tables e below (s₁.setTop (mkF m 26 #[.val (.int p1), .val (.int p2), .val (.int (p1.toUInt32.toUInt16.toUInt32.toInt32)), .unset] [])) _
      refine XS.iloadN X0.here hx rfl (hb hby at_26) rfl ?_
      show Steps p.tables e below (s₁.setTop (mkF m 27 #[.val (.int p1), .val (.int p2), .val (.int (p1.toUInt32.toUInt16.toUInt32.toInt32)), .unset] [(.int (p1.toUInt32.toUInt16.toUInt32.toInt32))])) _
      refine st88 _ ?_
      show Steps p.tables e below (T88.setTop (mkF m 30 #[.val (.int p1), .val (.int p2), .val (.int (p1.toUInt32.toUInt16.toUInt32.toInt32)), .unset] [(own_of (p1.toUInt32.toUInt16.toUInt32.toInt32) u0 u1 u2 u3 u4 u5 u6 u7 u8)])) _
      refine XS.astoreN X88.here hx rfl (hb hby at_30) rfl (own_ref _ u0 u1 u2 u3 u4 u5 u6 u7 u8) (l' := #[.val (.int p1), .val (.int p2), .val (.int (p1.toUInt32.toUInt16.toUInt32.toInt32)), .val (own_of (p1.toUInt32.toUInt16.toUInt32.toInt32) u0 u1 u2 u3 u4 u5 u6 u7 u8)]) (XS.store1 rfl (Or.inl rfl) (XT.cat1 (own_ref _ u0 u1 u2 u3 u4 u5 u6 u7 u8))) ?_
      show Steps p.tables e below (T88.setTop (mkF m 31 #[.val (.int p1), .val (.int p2), .val (.int (p1.toUInt32.toUInt16.toUInt32.toInt32)), .val (own_of (p1.toUInt32.toUInt16.toUInt32.toInt32) u0 u1 u2 u3 u4 u5 u6 u7 u8)] [])) _
      refine XS.aloadN X88.here hx rfl (hb hby at_31) rfl (own_ref _ u0 u1 u2 u3 u4 u5 u6 u7 u8) ?_
      show Steps p.tables e below (T88.setTop (mkF m 32 #[.val (.int p1), .val (.int p2), .val (.int (p1.toUInt32.toUInt16.toUInt32.toInt32)), .val (own_of (p1.toUInt32.toUInt16.toUInt32.toInt32) u0 u1 u2 u3 u4 u5 u6 u7 u8)] [(own_of (p1.toUInt32.toUInt16.toUInt32.toInt32) u0 u1 u2 u3 u4 u5 u6 u7 u8)])) _
      refine XS.iloadN X88.here hx rfl (hb hby at_32) rfl ?_
      show Steps p.tables e below (T88.setTop (mkF m 33 #[.val (.int p1), .val (.int p2), .val (.int (p1.toUInt32.toUInt16.toUInt32.toInt32)), .val (own_of (p1.toUInt32.toUInt16.toUInt32.toInt32) u0 u1 u2 u3 u4 u5 u6 u7 u8)] [(.int (p1.toUInt32.toUInt16.toUInt32.toInt32)), (own_of (p1.toUInt32.toUInt16.toUInt32.toInt32) u0 u1 u2 u3 u4 u5 u6 u7 u8)])) _
      refine st98 _ ?_
      show Steps p.tables e below (T98.setTop (mkF m 36 #[.val (.int p1), .val (.int p2), .val (.int (p1.toUInt32.toUInt16.toUInt32.toInt32)), .val (own_of (p1.toUInt32.toUInt16.toUInt32.toInt32) u0 u1 u2 u3 u4 u5 u6 u7 u8)] [(own_of (p1.toUInt32.toUInt16.toUInt32.toInt32) u0 u1 u2 u3 u4 u5 u6 u7 u8), (own_of (p1.toUInt32.toUInt16.toUInt32.toInt32) u0 u1 u2 u3 u4 u5 u6 u7 u8)])) _
      refine Jvm.RoadKit.acmp (g := (mkF m 36 #[.val (.int p1), .val (.int p2), .val (.int (p1.toUInt32.toUInt16.toUInt32.toInt32)), .val (own_of (p1.toUInt32.toUInt16.toUInt32.toInt32) u0 u1 u2 u3 u4 u5 u6 u7 u8)] [(own_of (p1.toUInt32.toUInt16.toUInt32.toInt32) u0 u1 u2 u3 u4 u5 u6 u7 u8), (own_of (p1.toUInt32.toUInt16.toUInt32.toInt32) u0 u1 u2 u3 u4 u5 u6 u7 u8)])) X98 hx rfl (own_ref _ u0 u1 u2 u3 u4 u5 u6 u7 u8) (own_ref _ u0 u1 u2 u3 u4 u5 u6 u7 u8) (pc0 := 36) (pc' := 39) (same := true) rfl (hb hby at_36) rfl (decide_eq_true rfl) (by decide) (by decide) ?_
      show Steps p.tables e below (T98.setTop (mkF m 39 #[.val (.int p1), .val (.int p2), .val (.int (p1.toUInt32.toUInt16.toUInt32.toInt32)), .val (own_of (p1.toUInt32.toUInt16.toUInt32.toInt32) u0 u1 u2 u3 u4 u5 u6 u7 u8)] [])) _
      refine XS.iconst X98.here hx rfl (hb hby at_39) ?_
      show Steps p.tables e below (T98.setTop (mkF m 40 #[.val (.int p1), .val (.int p2), .val (.int (p1.toUInt32.toUInt16.toUInt32.toInt32)), .val (own_of (p1.toUInt32.toUInt16.toUInt32.toInt32) u0 u1 u2 u3 u4 u5 u6 u7 u8)] [(.int (1 : Int32))])) _
      refine XS.goto X98.here hx rfl (pc0 := 40) (pc' := 44) rfl (hb hby at_40) (by decide) (by decide) ?_
      exact kt
    obtain ⟨fs, hr, hrun, hended, hW, hsame⟩ := X98.leave (v := some (.int (1 : Int32))) (fun h => by rw [Bd.returns] at h; cases h)
    refine ⟨_, _, (pre0 _ (pre87 _ (pre99 _ ?_))), hrun, hended, _, _, rfl, ?_, wide ⟨⟨_, rfl⟩, hW, hsame.mono (by decide) (by decide)⟩⟩
    · show Steps p.tables e below (T98.setTop (mkF m 44 #[.val (.int p1), .val (.int p2), .val (.int (p1.toUInt32.toUInt16.toUInt32.toInt32)), .val (own_of (p1.toUInt32.toUInt16.toUInt32.toInt32) u0 u1 u2 u3 u4 u5 u6 u7 u8)] [(.int (1 : Int32))])) _
      exact retN X98 hx (t := .boolean) Bd.returns (by simp) (hb hby at_44) hr
    · show Q0 Z p1 p2 u0 u1 u2 u3 u4 u5 u6 u7 u8 aA kA zc fm h0 n0 _ T98.heap _
      exact ⟨rfl, N98⟩
  · skip
    have hkz' : ∀ (b : Addr) (cl : Cell), Z.heap[b]? = some cl → s.heap[b]? = some cl := by rw [hh]; exact hkz
    have wS100 : ∀ a ∈ Bundle.stringAtoms, a.before a0 Z = true := fun d hd => hw d ((by decide +kernel : ∀ d ∈ Bundle.stringAtoms, d ∈ tables_1) d hd)
    obtain ⟨b100, T100, h100, k100, d100, kb100, X100, e100, E100, hS100, hk100, hZ, hown, A100, FC100, FV100, V100, -, -, IB100, Lt100, hwh100, st100⟩ := ldcSVd (s := s) (vm0 := s.vm) (by rw [State.setVm_self]; exact X0) hx hZ hown (hw _ (List.mem_of_getElem? (i := 0) rfl)) wS100 e0 ((State.WarmedH.refl s).since 0) (Nat.zero_le _) (Fr.nil _) hkz' hI (by simp) hh37 hcw (vs := [(.int (90 : Int32)), (.int (66 : Int32)), (.int (83 : Int32)), (.int (67 : Int32)), (.int (73 : Int32)), (.int (74 : Int32)), (.int (70 : Int32)), (.int (68 : Int32)), (.int (86 : Int32))]) (z := (9 : Int32)) ⟨by decide, rfl⟩ (by decide) (by decide) (g := (mkF m 6 #[.val (.int p1), .val (.int p2), .unset, .unset] [])) rfl (hb hby at_6) (n := 36) (by decide) (by decide) (by decide) (by decide)
    have Z100 := Nat.le_trans Z0 E100.1
    have K100 := (Keep.refl h0 []).ext E100
    obtain ⟨k, hk⟩ : ∃ z, (((p2.toUInt32 >>> ((1 : Int32) &&& 31).toUInt32).toInt32) % (9 : Int32)) = z := ⟨_, rfl⟩
    have hkr : 0 ≤ k.toInt ∧ k.toInt < 9 := hk ▸ own_k p2
    obtain ⟨hk0, hk1, hk2⟩ := own_in hkr
    obtain ⟨bt, hbt⟩ := own_bt hk2
    have f101 := (SC.ext E100)
    have f102 := (SFm.ext E100)
    obtain ⟨cq103, kq103, q103a, q103b, q103c⟩ := isOf hZ e100 A100
    obtain ⟨_, _, ⟨T103, L103, k103, n103⟩, -, X103, ⟨Lc103, hQ103, l103, y103, z103⟩, st103⟩ := X100.virtualBack hx (y := (⟨"java/lang/String", "charAt", "(I)C"⟩ : MethodName)) (z := (⟨"java/lang/String", "charAt", "(I)C"⟩ : MethodName)) hown (mvT hZ (hw _ (List.mem_of_getElem? (i := 8) rfl))) (mvT hZ (hw _ (List.mem_of_getElem? (i := 9) rfl))) (notFace_of_selects (args := #[]) (mvT hZ (hw _ (List.mem_of_getElem? (i := 11) rfl)))) (mvT hZ (hw _ (List.mem_of_getElem? (i := 11) rfl))) (mvT hZ (hw _ (List.mem_of_getElem? (i := 10) rfl))) (by decide) (backOf (W := 0) (rmChA l Z a0 hw [] b100 d100 kb100 (9 : Int32) [(.int (90 : Int32)), (.int (66 : Int32)), (.int (83 : Int32)), (.int (67 : Int32)), (.int (73 : Int32)), (.int (74 : Int32)), (.int (70 : Int32)), (.int (68 : Int32)), (.int (86 : Int32))] k bt zc fm h100 n0 Z100 f101 hzc f102 rf FC100 FV100 A100 V100 hk0 hk1 hbt) hZ (hw _ (List.mem_of_getElem? (i := 12) rfl)) (hw _ (List.mem_of_getElem? (i := 1) rfl)) (by decide) (by decide)) q103a q103c (g := (mkF m 16 #[.val (.int p1), .val (.int p2), .unset, .val (.ref b100)] [(.int k), (.ref b100)])) rfl (by rw [hml]; rfl) (Steps.refl _) (argsL := [(.int k)]) (rest := []) (lenOf pd__I_C rfl) rfl (by show 2 * 0 + _ ≤ _; exact Nat.le_of_eq rfl) (hb hby at_16) (fun _ _ => ⟨rfl, e100, (by decide : 2 + 0 ≤ _), (by decide : 40 + 0 ≤ _)⟩)
    dsimp only [Pt.U, Pt.locs, Pt.cells, Pt.slots] at X103 l103 y103 z103 st103 hQ103
    subst l103 y103 z103
    obtain ⟨rfl, N103q, EQ103⟩ := hQ103
    have N103 := Fr.app N0 N103q
    have Z103 : n0 ≤ T103.heap.size := by rw [EQ103]; exact Z100
    have K103 := own_keq EQ103 K100
    have f104 := (EQ103 ▸ (F0.ext E100))
    have f105 := (EQ103 ▸ (F1.ext E100))
    have f106 := (EQ103 ▸ (F2.ext E100))
    have f107 := (EQ103 ▸ (F3.ext E100))
    have f108 := (EQ103 ▸ (F4.ext E100))
    have f109 := (EQ103 ▸ (F5.ext E100))
    have f110 := (EQ103 ▸ (F6.ext E100))
    have f111 := (EQ103 ▸ (F7.ext E100))
    have f112 := (EQ103 ▸ (F8.ext E100))
    have f113 := (EQ103 ▸ (SA.ext E100))
    have f114 := (EQ103 ▸ (KA.ext E100))
    obtain ⟨_, _, ⟨T115, L115, k115, n115⟩, -, X115, ⟨Lc115, hQ115, l115, y115, z115⟩, st115⟩ := Jvm.LawKit.callS X103 hx (y := (⟨"com/example/corvid/corvid/symbol/PrimitiveType", "ofDescriptor", "(C)Lcom/example/corvid/corvid/symbol/PrimitiveType;"⟩ : MethodName)) hown (mvT hZ (hw _ (List.mem_of_getElem? (i := 33) rfl))) (mvT hZ (hw _ (List.mem_of_getElem? (i := 34) rfl))) (mvT hZ (hw _ (List.mem_of_getElem? (i := 35) rfl))) (mvT hZ (hw _ (List.mem_of_getElem? (i := 36) rfl))) (by decide) (backOf (W := 0) (rmofd l Z a0 hw [] (nar .char (nar .char ((bt &&& (255 : Int32)).toUInt32.toUInt16.toUInt32.toInt32))) u0 u1 u2 u3 u4 u5 u6 u7 u8 aA kA T103.heap n0 Z103 f113 f114 f104 f105 f106 f107 f108 f109 f110 f111 f112) hZ (hw _ (List.mem_of_getElem? (i := 36) rfl)) (hw _ (List.mem_of_getElem? (i := 35) rfl)) (by decide) (by decide)) (g := (mkF m 27 #[.val (.int p1), .val (.int p2), .val (.int (nar .char (nar .char ((bt &&& (255 : Int32)).toUInt32.toUInt16.toUInt32.toInt32)))), .val (.ref b100)] [(.int (nar .char (nar .char ((bt &&& (255 : Int32)).toUInt32.toUInt16.toUInt32.toInt32))))])) rfl (by rw [hml]; rfl) (argsL := [(.int (nar .char (nar .char ((bt &&& (255 : Int32)).toUInt32.toUInt16.toUInt32.toInt32))))]) (rest := []) (lenOf pd__C_Lcom_example_corvid_corvid_symbol_PrimitiveType_ rfl) rfl (by show 2 * 0 + _ ≤ _; exact Nat.le_of_eq rfl) (hb hby at_27) (fun _ _ => ⟨rfl, rfl, (by decide : 2 + 0 ≤ _), (by decide : 40 + 0 ≤ _)⟩)
    dsimp only [Pt.U, Pt.locs, Pt.cells, Pt.slots] at X115 l115 y115 z115 st115 hQ115
    subst l115 y115 z115
    obtain ⟨rfl, N115q, EQ115⟩ := hQ115
    have N115 := Fr.app N103 N115q
    have Z115 : n0 ≤ T115.heap.size := by rw [EQ115]; exact Z103
    have K115 := own_keq EQ115 K103
    have f116 := (EQ115 ▸ (EQ103 ▸ (S0.ext E100)))
    have f117 := (EQ115 ▸ (EQ103 ▸ (S1.ext E100)))
    have f118 := (EQ115 ▸ (EQ103 ▸ (S2.ext E100)))
    have f119 := (EQ115 ▸ (EQ103 ▸ (S3.ext E100)))
    have f120 := (EQ115 ▸ (EQ103 ▸ (S4.ext E100)))
    have f121 := (EQ115 ▸ (EQ103 ▸ (S5.ext E100)))
    have f122 := (EQ115 ▸ (EQ103 ▸ (S6.ext E100)))
    have f123 := (EQ115 ▸ (EQ103 ▸ (S7.ext E100)))
    have f124 := (EQ115 ▸ (EQ103 ▸ (S8.ext E100)))
    obtain ⟨_, _, ⟨T125, L125, k125, n125⟩, -, X125, ⟨Lc125, hQ125, l125, y125, z125⟩, st125⟩ := Jvm.LawKit.callS X115 hx (y := (⟨"com/example/corvid/corvid/symbol/PrimitiveTypeOfDescriptorPinLaw", "expected", "(C)Lcom/example/corvid/corvid/symbol/PrimitiveType;"⟩ : MethodName)) hown (mvT hZ (hw _ (List.mem_of_getElem? (i := 41) rfl))) (mvT hZ (hw _ (List.mem_of_getElem? (i := 42) rfl))) (mvT hZ (hw _ (List.mem_of_getElem? (i := 43) rfl))) (mvT hZ (hw _ (List.mem_of_getElem? (i := 44) rfl))) (by decide) (backOf (W := 1) (rmexp l Z a0 hw [] (nar .char (nar .char ((bt &&& (255 : Int32)).toUInt32.toUInt16.toUInt32.toInt32))) u0 u1 u2 u3 u4 u5 u6 u7 u8 T115.heap n0 Z115 f116 f117 f118 f119 f120 f121 f122 f123 f124) hZ (hw _ (List.mem_of_getElem? (i := 44) rfl)) (hw _ (List.mem_of_getElem? (i := 43) rfl)) (by decide) (by decide)) (g := (mkF m 33 #[.val (.int p1), .val (.int p2), .val (.int (nar .char (nar .char ((bt &&& (255 : Int32)).toUInt32.toUInt16.toUInt32.toInt32)))), .val (own_of (nar .char (nar .char ((bt &&& (255 : Int32)).toUInt32.toUInt16.toUInt32.toInt32))) u0 u1 u2 u3 u4 u5 u6 u7 u8)] [(.int (nar .char (nar .char ((bt &&& (255 : Int32)).toUInt32.toUInt16.toUInt32.toInt32)))), (own_of (nar .char (nar .char ((bt &&& (255 : Int32)).toUInt32.toUInt16.toUInt32.toInt32))) u0 u1 u2 u3 u4 u5 u6 u7 u8)])) rfl (by rw [hml]; rfl) (argsL := [(.int (nar .char (nar .char ((bt &&& (255 : Int32)).toUInt32.toUInt16.toUInt32.toInt32))))]) (rest := [(own_of (nar .char (nar .char ((bt &&& (255 : Int32)).toUInt32.toUInt16.toUInt32.toInt32))) u0 u1 u2 u3 u4 u5 u6 u7 u8)]) (lenOf pd__C_Lcom_example_corvid_corvid_symbol_PrimitiveType_ rfl) rfl (by show 2 * 0 + _ ≤ _; simp [XT.cat1 (own_ref _ u0 u1 u2 u3 u4 u5 u6 u7 u8)]) (hb hby at_33) (fun _ _ => ⟨rfl, rfl, (by decide : 2 + 0 ≤ _), (by decide : 40 + 0 ≤ _)⟩)
    dsimp only [Pt.U, Pt.locs, Pt.cells, Pt.slots] at X125 l125 y125 z125 st125 hQ125
    subst l125 y125 z125
    obtain ⟨rfl, N125q, EQ125⟩ := hQ125
    have N125 := Fr.app N115 N125q
    have Z125 : n0 ≤ T125.heap.size := by rw [EQ125]; exact Z115
    have K125 := own_keq EQ125 K115
    have pre126 : ∀ t, Steps p.tables e below (T125.setTop (mkF m 44 #[.val (.int p1), .val (.int p2), .val (.int (nar .char (nar .char ((bt &&& (255 : Int32)).toUInt32.toUInt16.toUInt32.toInt32)))), .val (own_of (nar .char (nar .char ((bt &&& (255 : Int32)).toUInt32.toUInt16.toUInt32.toInt32))) u0 u1 u2 u3 u4 u5 u6 u7 u8)] [(.int (1 : Int32))])) t → Steps p.tables e below (s₁.setTop (mkF m 3 #[.val (.int p1), .val (.int p2), .unset, .unset] [(.int (p2 &&& (1 : Int32)))])) t := by
      intro t kt
      show Steps p.tables e below (s₁.setTop (mkF m 3 #[.val (.int p1), .val (.int p2), .unset, .unset] [(.int (p2 &&& (1 : Int32)))])) _
      refine XS.ifNo X0.here hx rfl (hb hby at_3) rfl ((if0 _ _).trans (feq (c3 : ¬ ((p2 &&& (1 : Int32)) = (0 : Int32)))).1) ?_
      show Steps p.tables e below (s₁.setTop (mkF m 6 #[.val (.int p1), .val (.int p2), .unset, .unset] [])) _
      refine st100 _ ?_
      show Steps p.tables e below (T100.setTop (mkF m 8 #[.val (.int p1), .val (.int p2), .unset, .unset] [(.ref b100)])) _
      refine XS.astoreN X100.here hx rfl (hb hby at_8) rfl rfl (l' := #[.val (.int p1), .val (.int p2), .unset, .val (.ref b100)]) rfl ?_
      show Steps p.tables e below (T100.setTop (mkF m 9 #[.val (.int p1), .val (.int p2), .unset, .val (.ref b100)] [])) _
      refine XS.aloadN X100.here hx rfl (hb hby at_9) rfl rfl ?_
      show Steps p.tables e below (T100.setTop (mkF m 10 #[.val (.int p1), .val (.int p2), .unset, .val (.ref b100)] [(.ref b100)])) _
      refine XS.iloadN X100.here hx rfl (hb hby at_10) rfl ?_
      show Steps p.tables e below (T100.setTop (mkF m 11 #[.val (.int p1), .val (.int p2), .unset, .val (.ref b100)] [(.int p2), (.ref b100)])) _
      refine XS.iconst X100.here hx rfl (hb hby at_11) ?_
      show Steps p.tables e below (T100.setTop (mkF m 12 #[.val (.int p1), .val (.int p2), .unset, .val (.ref b100)] [(.int (1 : Int32)), (.int p2), (.ref b100)])) _
      refine XS.iushr X100.here hx rfl (hb hby at_12) rfl ?_
      show Steps p.tables e below (T100.setTop (mkF m 13 #[.val (.int p1), .val (.int p2), .unset, .val (.ref b100)] [(.int ((p2.toUInt32 >>> ((1 : Int32) &&& 31).toUInt32).toInt32)), (.ref b100)])) _
      refine XS.bipush X100.here hx rfl (hb hby at_13) ?_
      show Steps p.tables e below (T100.setTop (mkF m 15 #[.val (.int p1), .val (.int p2), .unset, .val (.ref b100)] [(.int (9 : Int32)), (.int ((p2.toUInt32 >>> ((1 : Int32) &&& 31).toUInt32).toInt32)), (.ref b100)])) _
      refine iremM X100 hx rfl (hb hby at_15) rfl (by decide) ?_
      show Steps p.tables e below (T100.setTop (mkF m 16 #[.val (.int p1), .val (.int p2), .unset, .val (.ref b100)] [(.int (((p2.toUInt32 >>> ((1 : Int32) &&& 31).toUInt32).toInt32) % (9 : Int32))), (.ref b100)])) _
      rw [hk]
      show Steps p.tables e below (T100.setTop (mkF m 16 #[.val (.int p1), .val (.int p2), .unset, .val (.ref b100)] [(.int k), (.ref b100)])) _
      refine st103.trans ?_
      show Steps p.tables e below (T103.setTop (mkF m 19 #[.val (.int p1), .val (.int p2), .unset, .val (.ref b100)] [(.int (nar .char (nar .char ((bt &&& (255 : Int32)).toUInt32.toUInt16.toUInt32.toInt32))))])) _
      refine XS.istoreN X103.here hx rfl (hb hby at_19) rfl (l' := #[.val (.int p1), .val (.int p2), .val (.int (nar .char (nar .char ((bt &&& (255 : Int32)).toUInt32.toUInt16.toUInt32.toInt32)))), .val (.ref b100)]) rfl ?_
      show Steps p.tables e below (T103.setTop (mkF m 20 #[.val (.int p1), .val (.int p2), .val (.int (nar .char (nar .char ((bt &&& (255 : Int32)).toUInt32.toUInt16.toUInt32.toInt32)))), .val (.ref b100)] [])) _
      refine XS.goto X103.here hx rfl (pc0 := 20) (pc' := 26) rfl (hb hby at_20) (by decide) (by decide) ?_
      show Steps p.tables e below (T103.setTop (mkF m 26 #[.val (.int p1), .val (.int p2), .val (.int (nar .char (nar .char ((bt &&& (255 : Int32)).toUInt32.toUInt16.toUInt32.toInt32)))), .val (.ref b100)] [])) _
      refine XS.iloadN X103.here hx rfl (hb hby at_26) rfl ?_
      show Steps p.tables e below (T103.setTop (mkF m 27 #[.val (.int p1), .val (.int p2), .val (.int (nar .char (nar .char ((bt &&& (255 : Int32)).toUInt32.toUInt16.toUInt32.toInt32)))), .val (.ref b100)] [(.int (nar .char (nar .char ((bt &&& (255 : Int32)).toUInt32.toUInt16.toUInt32.toInt32))))])) _
      refine st115 _ ?_
      show Steps p.tables e below (T115.setTop (mkF m 30 #[.val (.int p1), .val (.int p2), .val (.int (nar .char (nar .char ((bt &&& (255 : Int32)).toUInt32.toUInt16.toUInt32.toInt32)))), .val (.ref b100)] [(own_of (nar .char (nar .char ((bt &&& (255 : Int32)).toUInt32.toUInt16.toUInt32.toInt32))) u0 u1 u2 u3 u4 u5 u6 u7 u8)])) _
      refine XS.astoreN X115.here hx rfl (hb hby at_30) rfl (own_ref _ u0 u1 u2 u3 u4 u5 u6 u7 u8) (l' := #[.val (.int p1), .val (.int p2), .val (.int (nar .char (nar .char ((bt &&& (255 : Int32)).toUInt32.toUInt16.toUInt32.toInt32)))), .val (own_of (nar .char (nar .char ((bt &&& (255 : Int32)).toUInt32.toUInt16.toUInt32.toInt32))) u0 u1 u2 u3 u4 u5 u6 u7 u8)]) (XS.store1 rfl (Or.inr ⟨_, rfl, rfl⟩) (XT.cat1 (own_ref _ u0 u1 u2 u3 u4 u5 u6 u7 u8))) ?_
      show Steps p.tables e below (T115.setTop (mkF m 31 #[.val (.int p1), .val (.int p2), .val (.int (nar .char (nar .char ((bt &&& (255 : Int32)).toUInt32.toUInt16.toUInt32.toInt32)))), .val (own_of (nar .char (nar .char ((bt &&& (255 : Int32)).toUInt32.toUInt16.toUInt32.toInt32))) u0 u1 u2 u3 u4 u5 u6 u7 u8)] [])) _
      refine XS.aloadN X115.here hx rfl (hb hby at_31) rfl (own_ref _ u0 u1 u2 u3 u4 u5 u6 u7 u8) ?_
      show Steps p.tables e below (T115.setTop (mkF m 32 #[.val (.int p1), .val (.int p2), .val (.int (nar .char (nar .char ((bt &&& (255 : Int32)).toUInt32.toUInt16.toUInt32.toInt32)))), .val (own_of (nar .char (nar .char ((bt &&& (255 : Int32)).toUInt32.toUInt16.toUInt32.toInt32))) u0 u1 u2 u3 u4 u5 u6 u7 u8)] [(own_of (nar .char (nar .char ((bt &&& (255 : Int32)).toUInt32.toUInt16.toUInt32.toInt32))) u0 u1 u2 u3 u4 u5 u6 u7 u8)])) _
      refine XS.iloadN X115.here hx rfl (hb hby at_32) rfl ?_
      show Steps p.tables e below (T115.setTop (mkF m 33 #[.val (.int p1), .val (.int p2), .val (.int (nar .char (nar .char ((bt &&& (255 : Int32)).toUInt32.toUInt16.toUInt32.toInt32)))), .val (own_of (nar .char (nar .char ((bt &&& (255 : Int32)).toUInt32.toUInt16.toUInt32.toInt32))) u0 u1 u2 u3 u4 u5 u6 u7 u8)] [(.int (nar .char (nar .char ((bt &&& (255 : Int32)).toUInt32.toUInt16.toUInt32.toInt32)))), (own_of (nar .char (nar .char ((bt &&& (255 : Int32)).toUInt32.toUInt16.toUInt32.toInt32))) u0 u1 u2 u3 u4 u5 u6 u7 u8)])) _
      refine st125 _ ?_
      show Steps p.tables e below (T125.setTop (mkF m 36 #[.val (.int p1), .val (.int p2), .val (.int (nar .char (nar .char ((bt &&& (255 : Int32)).toUInt32.toUInt16.toUInt32.toInt32)))), .val (own_of (nar .char (nar .char ((bt &&& (255 : Int32)).toUInt32.toUInt16.toUInt32.toInt32))) u0 u1 u2 u3 u4 u5 u6 u7 u8)] [(own_of (nar .char (nar .char ((bt &&& (255 : Int32)).toUInt32.toUInt16.toUInt32.toInt32))) u0 u1 u2 u3 u4 u5 u6 u7 u8), (own_of (nar .char (nar .char ((bt &&& (255 : Int32)).toUInt32.toUInt16.toUInt32.toInt32))) u0 u1 u2 u3 u4 u5 u6 u7 u8)])) _
      refine Jvm.RoadKit.acmp (g := (mkF m 36 #[.val (.int p1), .val (.int p2), .val (.int (nar .char (nar .char ((bt &&& (255 : Int32)).toUInt32.toUInt16.toUInt32.toInt32)))), .val (own_of (nar .char (nar .char ((bt &&& (255 : Int32)).toUInt32.toUInt16.toUInt32.toInt32))) u0 u1 u2 u3 u4 u5 u6 u7 u8)] [(own_of (nar .char (nar .char ((bt &&& (255 : Int32)).toUInt32.toUInt16.toUInt32.toInt32))) u0 u1 u2 u3 u4 u5 u6 u7 u8), (own_of (nar .char (nar .char ((bt &&& (255 : Int32)).toUInt32.toUInt16.toUInt32.toInt32))) u0 u1 u2 u3 u4 u5 u6 u7 u8)])) X125 hx rfl (own_ref _ u0 u1 u2 u3 u4 u5 u6 u7 u8) (own_ref _ u0 u1 u2 u3 u4 u5 u6 u7 u8) (pc0 := 36) (pc' := 39) (same := true) rfl (hb hby at_36) rfl (decide_eq_true rfl) (by decide) (by decide) ?_
      show Steps p.tables e below (T125.setTop (mkF m 39 #[.val (.int p1), .val (.int p2), .val (.int (nar .char (nar .char ((bt &&& (255 : Int32)).toUInt32.toUInt16.toUInt32.toInt32)))), .val (own_of (nar .char (nar .char ((bt &&& (255 : Int32)).toUInt32.toUInt16.toUInt32.toInt32))) u0 u1 u2 u3 u4 u5 u6 u7 u8)] [])) _
      refine XS.iconst X125.here hx rfl (hb hby at_39) ?_
      show Steps p.tables e below (T125.setTop (mkF m 40 #[.val (.int p1), .val (.int p2), .val (.int (nar .char (nar .char ((bt &&& (255 : Int32)).toUInt32.toUInt16.toUInt32.toInt32)))), .val (own_of (nar .char (nar .char ((bt &&& (255 : Int32)).toUInt32.toUInt16.toUInt32.toInt32))) u0 u1 u2 u3 u4 u5 u6 u7 u8)] [(.int (1 : Int32))])) _
      refine XS.goto X125.here hx rfl (pc0 := 40) (pc' := 44) rfl (hb hby at_40) (by decide) (by decide) ?_
      exact kt
    obtain ⟨fs, hr, hrun, hended, e1, e2, e3, e4⟩ := X125.leaveW hS100 (by rw [EQ125, EQ115, EQ103]; exact hk100) (v := some (.int (1 : Int32))) (fun h => by rw [Bd.returns] at h; cases h)
    refine ⟨_, _, (pre0 _ (pre87 _ (pre126 _ ?_))), hrun, hended, _, _, rfl, ?_, ⟨e1, e2, e3, e4.mono (by decide) (by decide)⟩⟩
    · show Steps p.tables e below (T125.setTop (mkF m 44 #[.val (.int p1), .val (.int p2), .val (.int (nar .char (nar .char ((bt &&& (255 : Int32)).toUInt32.toUInt16.toUInt32.toInt32)))), .val (own_of (nar .char (nar .char ((bt &&& (255 : Int32)).toUInt32.toUInt16.toUInt32.toInt32))) u0 u1 u2 u3 u4 u5 u6 u7 u8)] [(.int (1 : Int32))])) _
      exact retN X125 hx (t := .boolean) Bd.returns (by simp) (hb hby at_44) hr
    · show Q0 Z p1 p2 u0 u1 u2 u3 u4 u5 u6 u7 u8 aA kA zc fm h0 n0 _ T125.heap _
      exact ⟨rfl, N125⟩
set_option maxRecDepth 65536 in
set_option maxHeartbeats 40000000 in
theorem comes_1 {Post : Tables → Env → Array Value → State → Outcome → State → Prop} (hpost : ∀ tb e args s v u, (limb_1_1.after args s (.returned v) u = true ∧ limb_1_2.after args s (.returned v) u = true ∧ True) → ReturnedEndW s (.returned v) u (Jvm.fieldLocs frame_1_writes args s ++ Jvm.arrayLocs frame_1_arrays args s ++ Jvm.staticLocs frame_1_statics s) 8 1088 → Post tb e args s (.returned v) u) :
    ArmFor flags0 classFile x code maxLocals ret World_1 tables_1 room_1 Calls_1 rest_1 Pre_1 Post := by
  intro l hfl _ _ p e ha hc hk s m args below hf hA hF happ hP
  obtain ⟨hcalls, hrest, hpre⟩ := hP
  obtain ⟨-, -, -, hnamed, -, -, -, hat⟩ := (Spec.applies_iff hf).mp happ
  obtain ⟨hg, hn⟩ := and_e (Cond.before_iff.mp (show (Jvm.Cond.and given_1 narrow_1).before args s = true from hpre))
  obtain ⟨gc, g0⟩ := and_e hg
  obtain ⟨ga0, g1⟩ := and_e g0
  obtain ⟨w0, w1, rfl⟩ : ∃ w0 w1 : Value, args = #[w0, w1] := by
    have hs : args.size = 2 := by simpa [Cond.value, given_1] using gc
    obtain ⟨L⟩ := args
    match L, hs with
    | [w0, w1], _ => exact ⟨w0, w1, rfl⟩
  have hw := fun d (hd : d ∈ tables_1) => atoms_spec (ws := Jvm.Cond.code x code maxLocals ret :: tables_1) hat d (List.mem_cons_of_mem _ hd)
  have hfit : Fit s := fun {y c} hc i hi => by
    obtain ⟨ha, rfl⟩ := Array.getElem?_eq_some_iff.mp hc
    have q := List.all_eq_true.mp ((Array.all_eq_true_iff_forall_mem.mp hF) _ (Array.getElem_mem ha)) i (List.mem_range.mpr hi)
    simpa [Array.getElem?_eq_getElem hi] using q
  obtain ⟨i0, ei0⟩ := is_v ga0
  obtain rfl : w0 = (.int i0) := Option.some.inj ei0
  obtain ⟨i1, ei1⟩ := is_v g1
  obtain rfl : w1 = (.int i1) := Option.some.inj ei1
  obtain ⟨n1, m1⟩ := and_e hn
  obtain ⟨n2, m2⟩ := and_e m1
  obtain ⟨n3, m3⟩ := and_e m2
  obtain ⟨n4, m4⟩ := and_e m3
  obtain ⟨n5, m5⟩ := and_e m4
  obtain ⟨n6, m6⟩ := and_e m5
  obtain ⟨n7, m7⟩ := and_e m6
  obtain ⟨n8, m8⟩ := and_e m7
  obtain ⟨n9, m9⟩ := and_e m8
  obtain ⟨n10, m10⟩ := and_e m9
  obtain ⟨n11, m11⟩ := and_e m10
  obtain ⟨n12, m12⟩ := and_e m11
  obtain ⟨n13, m13⟩ := and_e m12
  obtain ⟨n14, m14⟩ := and_e m13
  obtain ⟨n15, m15⟩ := and_e m14
  obtain ⟨n16, m16⟩ := and_e m15
  obtain ⟨n17, m17⟩ := and_e m16
  obtain ⟨n18, m18⟩ := and_e m17
  obtain ⟨n19, m19⟩ := and_e m18
  obtain ⟨n20, m20⟩ := and_e m19
  obtain ⟨n21, m21⟩ := and_e m20
  obtain ⟨n22, m22⟩ := and_e m21
  obtain ⟨n23, m23⟩ := and_e m22
  obtain ⟨n24, m24⟩ := and_e m23
  obtain ⟨n25, m25⟩ := and_e m24
  obtain ⟨n26, m26⟩ := and_e m25
  obtain ⟨n27, m27⟩ := and_e m26
  obtain ⟨n28, m28⟩ := and_e m27
  obtain ⟨aA, vA⟩ := arr_v n1
  obtain ⟨cA, AcA⟩ := Arr.start vA n1
  obtain ⟨ln1, ln2⟩ := own_len n2 vA AcA
  obtain ⟨u0, v0⟩ := exa_v n3
  have L0 := own_at v0 vA AcA
  have F0 := own_fld n4 v0
  obtain ⟨u1, v1⟩ := exa_v n5
  have L1 := own_at v1 vA AcA
  have F1 := own_fld n6 v1
  obtain ⟨u2, v2⟩ := exa_v n9
  have L2 := own_at v2 vA AcA
  have F2 := own_fld n10 v2
  obtain ⟨u3, v3⟩ := exa_v n12
  have L3 := own_at v3 vA AcA
  have F3 := own_fld n13 v3
  obtain ⟨u4, v4⟩ := exa_v n14
  have L4 := own_at v4 vA AcA
  have F4 := own_fld n15 v4
  obtain ⟨u5, v5⟩ := exa_v n16
  have L5 := own_at v5 vA AcA
  have F5 := own_fld n17 v5
  obtain ⟨u6, v6⟩ := exa_v n18
  have L6 := own_at v6 vA AcA
  have F6 := own_fld n19 v6
  obtain ⟨u7, v7⟩ := exa_v n20
  have L7 := own_at v7 vA AcA
  have F7 := own_fld n21 v7
  obtain ⟨u8, v8⟩ := exa_v n22
  have L8 := own_at v8 vA AcA
  have F8 := own_fld n23 v8
  have S1 := Sta.start (own_eqv n7 v1 (Or.inr ⟨_, rfl⟩)) (Or.inr ⟨(hw _ (List.mem_of_getElem? (i := 35) rfl)), (hw _ (List.mem_of_getElem? (i := 46) rfl))⟩)
  have S0 := Sta.start (own_eqv n8 v0 (Or.inr ⟨_, rfl⟩)) (Or.inr ⟨(hw _ (List.mem_of_getElem? (i := 35) rfl)), (hw _ (List.mem_of_getElem? (i := 48) rfl))⟩)
  have S2 := Sta.start (own_eqv n11 v2 (Or.inr ⟨_, rfl⟩)) (Or.inr ⟨(hw _ (List.mem_of_getElem? (i := 35) rfl)), (hw _ (List.mem_of_getElem? (i := 50) rfl))⟩)
  have S6 := Sta.start (own_eqv n24 v6 (Or.inr ⟨_, rfl⟩)) (Or.inr ⟨(hw _ (List.mem_of_getElem? (i := 35) rfl)), (hw _ (List.mem_of_getElem? (i := 52) rfl))⟩)
  have S8 := Sta.start (own_eqv n25 v8 (Or.inr ⟨_, rfl⟩)) (Or.inr ⟨(hw _ (List.mem_of_getElem? (i := 35) rfl)), (hw _ (List.mem_of_getElem? (i := 54) rfl))⟩)
  have S7 := Sta.start (own_eqv n26 v7 (Or.inr ⟨_, rfl⟩)) (Or.inr ⟨(hw _ (List.mem_of_getElem? (i := 35) rfl)), (hw _ (List.mem_of_getElem? (i := 56) rfl))⟩)
  have S5 := Sta.start (own_eqv n27 v5 (Or.inr ⟨_, rfl⟩)) (Or.inr ⟨(hw _ (List.mem_of_getElem? (i := 35) rfl)), (hw _ (List.mem_of_getElem? (i := 58) rfl))⟩)
  have S3 := Sta.start (own_eqv n28 v3 (Or.inr ⟨_, rfl⟩)) (Or.inr ⟨(hw _ (List.mem_of_getElem? (i := 35) rfl)), (hw _ (List.mem_of_getElem? (i := 60) rfl))⟩)
  have S4 := Sta.start (own_eqv m28 v4 (Or.inr ⟨_, rfl⟩)) (Or.inr ⟨(hw _ (List.mem_of_getElem? (i := 35) rfl)), (hw _ (List.mem_of_getElem? (i := 62) rfl))⟩)
  have SA := Sta.start vA (Or.inr ⟨(hw _ (List.mem_of_getElem? (i := 35) rfl)), (hw _ (List.mem_of_getElem? (i := 38) rfl))⟩)
  have KA : Arv s s.heap aA cA.cls (.object "com/example/corvid/corvid/symbol/PrimitiveType") (9 : Int32) [.ref u0, .ref u1, .ref u2, .ref u3, .ref u4, .ref u5, .ref u6, .ref u7, .ref u8] .null := Arv.start hfit AcA ln1 ln2 (by decide) rfl ⟨L0, L1, L2, L3, L4, L5, L6, L7, L8, trivial⟩
  obtain ⟨hsets, -⟩ := atoms_of _ (rest_1_c_eq ▸ (show rest_1_c.before _ s = true from hrest))
  obtain ⟨zc, vzc⟩ := is_v (Cond.before_iff.mp (hsets _ (List.mem_of_getElem? (i := 1) rfl)))
  have SC := Sta.start vzc (Or.inl (hsets _ (List.mem_of_getElem? (i := 0) rfl)))
  have hzc : ¬ zc = (0 : Int32) := fun q => by
      have h2 := not_v (Cond.before_iff.mp (hsets _ (List.mem_of_getElem? (i := 2) rfl)))
      have h3 := (eq_i vzc (Term.int_eval 0) (by rw [q])).symm.trans h2
      simp at h3
  obtain ⟨fm, vfm, rf⟩ := isR_v (Cond.before_iff.mp (hsets _ (List.mem_of_getElem? (i := 8) rfl)))
  have SFm := Sta.start vfm (Or.inl (hsets _ (List.mem_of_getElem? (i := 7) rfl)))
  have hh37 : Jvm.Lit.constHeld s "com/example/corvid/corvid/symbol/PrimitiveTypeOfDescriptorPinLaw" 37 := hcalls.1 ("com/example/corvid/corvid/symbol/PrimitiveTypeOfDescriptorPinLaw", 37) (by simp [consts_1])
  have hcw : Jvm.Lit.compactW.before #[.int i0, .int i1] s = true := hsets _ (List.mem_of_getElem? (i := 2) rfl)
  obtain ⟨n, o, h1, h2, h3, _, L, rfl, ⟨rfl, N⟩, hq⟩ := rm0 l s _ hw tables_1 i0 i1 u0 u1 u2 u3 u4 u5 u6 u7 u8 aA cA.cls zc fm s.heap s.heap.size (Nat.le_refl _) S0 S1 S2 S3 S4 S5 S6 S7 S8 SA KA F0 F1 F2 F3 F4 F5 F6 F7 F8 SC hzc SFm rf (fun _ _ q => q) hcw hh37 p e ha hc hk s m _ below hf ((Spec.applies_iff_loose hf).mp happ).1 ⟨rfl, State.Warmed39.refl s, rfl, IB.start⟩ trivial
  refine ⟨n, _, h1, h2, h3, hpost _ _ _ _ _ _ ⟨Cond.after_iff.mpr rfl, Cond.after_iff.mpr (eq_i res_at (Term.int_eval (1)) rfl), trivial⟩ ⟨hq.1, hq.2.1, hq.2.2.1, (hq.2.2.2.sift fun y hy => Or.inr (N y hy)).mono (by decide) (by decide)⟩⟩
theorem main_1_1 : Claimed_1_1 := comes_1 fun _ _ _ _ _ _ h hF => ⟨h.1, hF⟩
theorem main_1_2 : Claimed_1_2 := comes_1 fun _ _ _ _ _ _ h hF => ⟨h.2.1, hF⟩
end Jvm.Pilot.@@N@@
namespace Jvm.Pilot.@@N@@
open Jvm Jvm.ClassFile Sem Op Lib Jvm.Free Jvm.Stand Jvm.Pilot.@@N@@.Jvm.D
/-! MADE BY PROGRAM (witnessworld.py) out of the Statement's table words and the real class files: 19 classes; the members and pool entries that the words name. The judged class is class 1, her method 2. -/
namespace start1
open Jvm.ClassFile
def u (s : String) : CpInfo := .utf8 (stringToUtf16 s)
/-- a pool by its gaps: so many unusable entries, then the entry; so many at the end -/
def gap : Nat → List CpInfo → List CpInfo
  | 0, r => r
  | n + 1, r => .unusable :: gap n r
def poolList (es : List (Nat × CpInfo)) (last : Nat) : List CpInfo := es.foldr (fun e r => gap e.1 (e.2 :: r)) (gap last [])
def pool (es : List (Nat × CpInfo)) (last : Nat) : Array CpInfo := ⟨poolList es last⟩
def fileOf (pool : Array CpInfo) (this : Nat) (attrs : Array Attribute := #[]) (ms : Array MethodInfo := #[]) (fl : Nat := 33) (sup : Nat := 0) (ifs : Array Nat := #[]) (fds : Array FieldInfo := #[]) : ClassFile where
  minorVersion := 0
  majorVersion := 65
  constantPool := pool
  accessFlags := fl
  thisClass := this
  superClass := sup
  interfaces := ifs
  fields := fds
  methods := ms
  attributes := attrs
def plain (name : String) (sup : Option ClassId) : Class where
  name := name
  kind := .ordinary
  loader := none
  accessFlags := 33
  super := sup
  interfaces := #[]
  cf := none
  fields := #[]
  methods := #[]
  instanceTypes := #[]
  staticTypes := #[]
  resolved := #[]
  callSites := []
  init := .initialized
  statics := none
  mirror := none

def pool0 : Array CpInfo := pool [(5, u "<init>"), (0, u "()V"), (1, .class_ 10), (1, u "java/lang/Object")] 113

def k0m0 : Method := { name := "<init>", desc := "()V", sig := { parameters := [], returnType := none }, accessFlags := 1, code := none }
/-- java/lang/Object -/
def k0 : Class := { plain "java/lang/Object" none with
  accessFlags := 33
  interfaces := #[]
  cf := some (fileOf pool0 8 #[] #[{ accessFlags := 1, nameIndex := 5, descriptorIndex := 6, attributes := #[] }] 33 0 #[] #[])
  fields := #[]
  methods := #[k0m0]
  instanceTypes := #[]
  staticTypes := #[]
  resolved := Array.replicate 124 none
  statics := none }

def pool1 : Array CpInfo := pool [(2, .class_ 4), (1, u "java/lang/Object"), (0, u "<init>"), (0, u "()V"), (0, .fieldref 8 9), (0, .class_ 10), (0, .nameAndType 11 12), (0, u "com/example/corvid/corvid/symbol/PrimitiveType"), (0, u "BOOLEAN"), (0, u "Lcom/example/corvid/corvid/symbol/PrimitiveType;"), (0, .fieldref 8 14), (0, .nameAndType 15 12), (0, u "BYTE"), (0, .fieldref 8 17), (0, .nameAndType 18 12), (0, u "SHORT"), (0, .fieldref 8 20), (0, .nameAndType 21 12), (0, u "CHAR"), (0, .fieldref 8 23), (0, .nameAndType 24 12), (0, u "INT"), (0, .fieldref 8 26), (0, .nameAndType 27 12), (0, u "LONG"), (0, .fieldref 8 29), (0, .nameAndType 30 12), (0, u "FLOAT"), (0, .fieldref 8 32), (0, .nameAndType 33 12), (0, u "DOUBLE"), (0, .fieldref 8 35), (0, .nameAndType 36 12), (0, u "VOID"), (0, .string 38), (0, u "ZBSCIJFDV"), (0, .methodref 40 41), (0, .class_ 42), (0, .nameAndType 43 44), (0, u "java/lang/String"), (0, u "charAt"), (0, u "(I)C"), (0, .methodref 8 46), (0, .nameAndType 47 48), (0, u "ofDescriptor"), (0, u "(C)Lcom/example/corvid/corvid/symbol/PrimitiveType;"), (0, .methodref 50 51), (0, .class_ 52), (0, .nameAndType 53 48), (0, u "com/example/corvid/corvid/symbol/PrimitiveTypeOfDescriptorPinLaw"), (0, u "expected"), (3, u "law"), (0, u "(II)Z")] 2

def k1m0 : Method := { name := "<init>", desc := "()V", sig := { parameters := [], returnType := none }, accessFlags := 2, code := none }
def k1c1 : Code := { maxStack := 2, maxLocals := 1, code := method_2_code, exceptionTable := #[], attributes := #[] }
def k1m1 : Method := { name := "expected", desc := "(C)Lcom/example/corvid/corvid/symbol/PrimitiveType;", sig := { parameters := [.char], returnType := some (.object "com/example/corvid/corvid/symbol/PrimitiveType") }, accessFlags := 10, code := some k1c1 }
def k1c2 : Code := { maxStack := 3, maxLocals := 4, code := code, exceptionTable := #[], attributes := #[] }
def k1m2 : Method := { name := "law", desc := "(II)Z", sig := { parameters := [.int, .int], returnType := some .boolean }, accessFlags := 9, code := some k1c2 }
/-- com/example/corvid/corvid/symbol/PrimitiveTypeOfDescriptorPinLaw -/
def k1 : Class := { plain "com/example/corvid/corvid/symbol/PrimitiveTypeOfDescriptorPinLaw" (some 0) with
  accessFlags := 49
  interfaces := #[]
  cf := some (fileOf pool1 50 #[] #[{ accessFlags := 2, nameIndex := 5, descriptorIndex := 6, attributes := #[] }, { accessFlags := 10, nameIndex := 53, descriptorIndex := 48, attributes := #[] }, { accessFlags := 9, nameIndex := 57, descriptorIndex := 58, attributes := #[] }] 49 2 #[] #[])
  fields := #[]
  methods := #[k1m0, k1m1, k1m2]
  instanceTypes := #[]
  staticTypes := #[]
  resolved := Array.replicate 61 none
  statics := none }

def pool2 : Array CpInfo := pool [(1, .class_ 2), (0, u "java/io/Serializable"), (0, .class_ 4), (0, u "java/lang/Object")] 2

/-- java/io/Serializable -/
def k2 : Class := { plain "java/io/Serializable" (some 0) with
  accessFlags := 1537
  interfaces := #[]
  cf := some (fileOf pool2 1 #[] #[] 1537 3 #[] #[])
  fields := #[]
  methods := #[]
  instanceTypes := #[]
  staticTypes := #[]
  resolved := Array.replicate 7 none
  statics := none }

def pool3 : Array CpInfo := pool [(1, .class_ 2), (0, u "java/lang/Comparable"), (0, .class_ 4), (0, u "java/lang/Object")] 7

/-- java/lang/Comparable -/
def k3 : Class := { plain "java/lang/Comparable" (some 0) with
  accessFlags := 1537
  interfaces := #[]
  cf := some (fileOf pool3 1 #[] #[] 1537 3 #[] #[])
  fields := #[]
  methods := #[]
  instanceTypes := #[]
  staticTypes := #[]
  resolved := Array.replicate 12 none
  statics := none }

def pool4 : Array CpInfo := pool [(2, .class_ 4), (1, u "java/lang/CharSequence"), (42, .class_ 48), (0, u "java/lang/CharSequence$1CodePointIterator"), (10, .class_ 60), (0, u "java/lang/CharSequence$1CharIterator"), (5, .class_ 67), (0, u "java/lang/Object")] 63

/-- java/lang/CharSequence -/
def k4 : Class := { plain "java/lang/CharSequence" (some 0) with
  accessFlags := 1537
  interfaces := #[]
  cf := some (fileOf pool4 2 #[.nestMembers #[47, 59]] #[] 1537 66 #[] #[])
  fields := #[]
  methods := #[]
  instanceTypes := #[]
  staticTypes := #[]
  resolved := Array.replicate 131 none
  statics := none }

def pool5 : Array CpInfo := pool [(1, .class_ 2), (0, u "java/lang/constant/Constable"), (0, .class_ 4), (0, u "java/lang/Object")] 6

/-- java/lang/constant/Constable -/
def k5 : Class := { plain "java/lang/constant/Constable" (some 0) with
  accessFlags := 1537
  interfaces := #[]
  cf := some (fileOf pool5 1 #[] #[] 1537 3 #[] #[])
  fields := #[]
  methods := #[]
  instanceTypes := #[]
  staticTypes := #[]
  resolved := Array.replicate 11 none
  statics := none }

def pool6 : Array CpInfo := pool [(1, .class_ 2), (0, u "java/lang/constant/ConstantDesc"), (0, .class_ 4), (0, u "java/lang/Object")] 32

/-- java/lang/constant/ConstantDesc -/
def k6 : Class := { plain "java/lang/constant/ConstantDesc" (some 0) with
  accessFlags := 1537
  interfaces := #[]
  cf := some (fileOf pool6 1 #[] #[] 1537 3 #[] #[])
  fields := #[]
  methods := #[]
  instanceTypes := #[]
  staticTypes := #[]
  resolved := Array.replicate 37 none
  statics := none }

def pool7 : Array CpInfo := pool [(2, .class_ 4), (1, u "java/lang/Object"), (0, u "<init>"), (0, u "()V"), (2, .fieldref 10 11), (0, .class_ 12), (0, .nameAndType 13 14), (0, u "java/lang/String"), (0, u "value"), (0, u "[B"), (0, .fieldref 10 16), (0, .nameAndType 17 18), (0, u "coder"), (0, u "B"), (2, u "hash"), (0, u "I"), (2, u "hashIsZero"), (0, u "Z"), (11, .fieldref 10 39), (0, .nameAndType 40 26), (0, u "COMPACT_STRINGS"), (66, .class_ 109), (1, u "java/lang/StringLatin1"), (32, u "()Z"), (220, u "([BI)C"), (27, u "(II)V"), (35, u "(I)C"), (64, .methodref 10 493), (0, .nameAndType 494 142), (0, u "isLatin1"), (0, .methodref 107 496), (0, .nameAndType 497 363), (0, u "charAt"), (3, u "checkIndex"), (73, .class_ 576), (0, u "java/lang/CharSequence"), (22, u "CASE_INSENSITIVE_ORDER"), (0, u "Ljava/util/Comparator;"), (452, .fieldref 1054 1055), (0, .class_ 1056), (0, .nameAndType 1057 1058), (0, u "jdk/internal/util/Preconditions"), (0, u "SIOOBE_FORMATTER"), (0, u "Ljava/util/function/BiFunction;"), (0, .methodref 1054 1060), (0, .nameAndType 501 1061), (0, u "(IILjava/util/function/BiFunction;)I"), (39, u "serialPersistentFields"), (0, u "[Ljava/io/ObjectStreamField;"), (0, .class_ 1104), (0, u "java/lang/String$CaseInsensitiveComparator"), (1, .class_ 1107), (0, u "java/io/Serializable"), (0, .class_ 1109), (0, u "java/lang/Comparable"), (0, .class_ 1111), (0, u "java/lang/constant/Constable"), (0, .class_ 1113), (0, u "java/lang/constant/ConstantDesc"), (2, u "serialVersionUID"), (0, u "J"), (3, u "REPL"), (0, u "C"), (2, u "LATIN1"), (1, u "UTF16")] 323

def k7m0 : Method := { name := "<init>", desc := "()V", sig := { parameters := [], returnType := none }, accessFlags := 1, code := none }
def k7c1 : Code := { maxStack := 2, maxLocals := 2, code := jdk_42_method_56_code, exceptionTable := #[], attributes := #[] }
def k7m1 : Method := { name := "charAt", desc := "(I)C", sig := { parameters := [.int], returnType := some .char }, accessFlags := 1, code := some k7c1 }
def k7c2 : Code := { maxStack := 1, maxLocals := 1, code := jdk_42_method_154_code, exceptionTable := #[], attributes := #[] }
def k7m2 : Method := { name := "isLatin1", desc := "()Z", sig := { parameters := [], returnType := some .boolean }, accessFlags := 0, code := some k7c2 }
def k7c3 : Code := { maxStack := 3, maxLocals := 2, code := jdk_42_method_155_code, exceptionTable := #[], attributes := #[] }
def k7m3 : Method := { name := "checkIndex", desc := "(II)V", sig := { parameters := [.int, .int], returnType := none }, accessFlags := 8, code := some k7c3 }
/-- java/lang/String -/
def k7 : Class := { plain "java/lang/String" (some 0) with
  accessFlags := 49
  interfaces := #[2, 3, 4, 5, 6]
  cf := some (fileOf pool7 10 #[.nestMembers #[1103]] #[{ accessFlags := 1, nameIndex := 5, descriptorIndex := 6, attributes := #[] }, { accessFlags := 1, nameIndex := 497, descriptorIndex := 427, attributes := #[] }, { accessFlags := 0, nameIndex := 494, descriptorIndex := 142, attributes := #[] }, { accessFlags := 8, nameIndex := 501, descriptorIndex := 391, attributes := #[] }] 49 2 #[1106, 1108, 575, 1110, 1112] #[{ accessFlags := 18, nameIndex := 13, descriptorIndex := 14, attributes := #[] }, { accessFlags := 18, nameIndex := 17, descriptorIndex := 18, attributes := #[] }, { accessFlags := 2, nameIndex := 21, descriptorIndex := 22, attributes := #[] }, { accessFlags := 2, nameIndex := 25, descriptorIndex := 26, attributes := #[] }, { accessFlags := 26, nameIndex := 1116, descriptorIndex := 1117, attributes := #[] }, { accessFlags := 24, nameIndex := 40, descriptorIndex := 26, attributes := #[] }, { accessFlags := 26, nameIndex := 1101, descriptorIndex := 1102, attributes := #[] }, { accessFlags := 26, nameIndex := 1121, descriptorIndex := 1122, attributes := #[] }, { accessFlags := 25, nameIndex := 599, descriptorIndex := 600, attributes := #[] }, { accessFlags := 24, nameIndex := 1125, descriptorIndex := 18, attributes := #[] }, { accessFlags := 24, nameIndex := 1127, descriptorIndex := 18, attributes := #[] }])
  fields := #[{ name := "value", type := (.array .byte), accessFlags := 18, slot := 0, constantValue := 0 }, { name := "coder", type := .byte, accessFlags := 18, slot := 1, constantValue := 0 }, { name := "hash", type := .int, accessFlags := 2, slot := 2, constantValue := 0 }, { name := "hashIsZero", type := .boolean, accessFlags := 2, slot := 3, constantValue := 0 }, { name := "serialVersionUID", type := .long, accessFlags := 26, slot := 0, constantValue := 0 }, { name := "COMPACT_STRINGS", type := .boolean, accessFlags := 24, slot := 1, constantValue := 0 }, { name := "serialPersistentFields", type := (.array (.object "java/io/ObjectStreamField")), accessFlags := 26, slot := 2, constantValue := 0 }, { name := "REPL", type := .char, accessFlags := 26, slot := 3, constantValue := 0 }, { name := "CASE_INSENSITIVE_ORDER", type := (.object "java/util/Comparator"), accessFlags := 25, slot := 4, constantValue := 0 }, { name := "LATIN1", type := .byte, accessFlags := 24, slot := 5, constantValue := 0 }, { name := "UTF16", type := .byte, accessFlags := 24, slot := 6, constantValue := 0 }]
  methods := #[k7m0, k7m1, k7m2, k7m3]
  instanceTypes := #[(.array .byte), .byte, .int, .boolean]
  staticTypes := #[.long, .boolean, (.array (.object "java/io/ObjectStreamField")), .char, (.object "java/util/Comparator"), .byte, .byte]
  resolved := Array.replicate 1451 none
  statics := some 0 }

def pool8 : Array CpInfo := pool [(1, .class_ 2), (0, u "java/lang/String"), (1, .class_ 6), (1, u "java/lang/Object"), (0, u "<init>"), (0, u "()V"), (0, .methodref 1 10), (0, .nameAndType 11 12), (0, u "checkIndex"), (0, u "(II)V"), (1, .class_ 16), (1, u "java/lang/StringLatin1"), (36, u "([BI)C"), (67, u "$assertionsDisabled"), (0, u "Z"), (98, .class_ 223), (1, u "java/lang/StringLatin1$LinesSpliterator"), (28, u "charAt"), (137, .class_ 391), (0, u "java/lang/StringLatin1$CharsSpliterator")] 3

def k8m0 : Method := { name := "<init>", desc := "()V", sig := { parameters := [], returnType := none }, accessFlags := 0, code := none }
def k8c1 : Code := { maxStack := 2, maxLocals := 2, code := jdk_43_method_2_code, exceptionTable := #[], attributes := #[] }
def k8m1 : Method := { name := "charAt", desc := "([BI)C", sig := { parameters := [(.array .byte), .int], returnType := some .char }, accessFlags := 9, code := some k8c1 }
/-- java/lang/StringLatin1 -/
def k8 : Class := { plain "java/lang/StringLatin1" (some 0) with
  accessFlags := 48
  interfaces := #[]
  cf := some (fileOf pool8 14 #[.nestMembers #[390, 221]] #[{ accessFlags := 0, nameIndex := 7, descriptorIndex := 8, attributes := #[] }, { accessFlags := 9, nameIndex := 252, descriptorIndex := 53, attributes := #[] }] 48 4 #[] #[{ accessFlags := 4120, nameIndex := 121, descriptorIndex := 122, attributes := #[] }])
  fields := #[{ name := "$assertionsDisabled", type := .boolean, accessFlags := 4120, slot := 0, constantValue := 0 }]
  methods := #[k8m0, k8m1]
  instanceTypes := #[]
  staticTypes := #[.boolean]
  resolved := Array.replicate 395 none
  statics := none }

def pool9 : Array CpInfo := pool [(2, .class_ 4), (1, u "java/lang/Object"), (0, u "<init>"), (0, u "()V"), (17, .class_ 26), (1, u "jdk/internal/util/Preconditions"), (6, u "checkIndex"), (21, .class_ 56), (0, u "jdk/internal/util/Preconditions$4"), (57, .class_ 115), (0, u "jdk/internal/util/Preconditions$1"), (7, u "SIOOBE_FORMATTER"), (0, u "Ljava/util/function/BiFunction;"), (0, .class_ 126), (0, u "jdk/internal/util/Preconditions$2"), (3, u "AIOOBE_FORMATTER"), (0, .class_ 132), (0, u "jdk/internal/util/Preconditions$3"), (3, u "IOOBE_FORMATTER"), (41, u "(IILjava/util/function/BiFunction;)I")] 15

def k9m0 : Method := { name := "<init>", desc := "()V", sig := { parameters := [], returnType := none }, accessFlags := 1, code := none }
def k9c1 : Code := { maxStack := 3, maxLocals := 3, code := jdk_41_method_11_code, exceptionTable := #[], attributes := #[] }
def k9m1 : Method := { name := "checkIndex", desc := "(IILjava/util/function/BiFunction;)I", sig := { parameters := [.int, .int, (.object "java/util/function/BiFunction")], returnType := some .int }, accessFlags := 9, code := some k9c1 }
/-- jdk/internal/util/Preconditions -/
def k9 : Class := { plain "jdk/internal/util/Preconditions" (some 0) with
  accessFlags := 33
  interfaces := #[]
  cf := some (fileOf pool9 24 #[.nestMembers #[55, 131, 125, 114]] #[{ accessFlags := 1, nameIndex := 5, descriptorIndex := 6, attributes := #[] }, { accessFlags := 9, nameIndex := 33, descriptorIndex := 178, attributes := #[] }] 33 2 #[] #[{ accessFlags := 25, nameIndex := 123, descriptorIndex := 124, attributes := #[] }, { accessFlags := 25, nameIndex := 130, descriptorIndex := 124, attributes := #[] }, { accessFlags := 25, nameIndex := 136, descriptorIndex := 124, attributes := #[] }])
  fields := #[{ name := "SIOOBE_FORMATTER", type := (.object "java/util/function/BiFunction"), accessFlags := 25, slot := 0, constantValue := 0 }, { name := "AIOOBE_FORMATTER", type := (.object "java/util/function/BiFunction"), accessFlags := 25, slot := 1, constantValue := 0 }, { name := "IOOBE_FORMATTER", type := (.object "java/util/function/BiFunction"), accessFlags := 25, slot := 2, constantValue := 0 }]
  methods := #[k9m0, k9m1]
  instanceTypes := #[]
  staticTypes := #[(.object "java/util/function/BiFunction"), (.object "java/util/function/BiFunction"), (.object "java/util/function/BiFunction")]
  resolved := Array.replicate 194 none
  statics := some 1 }

def pool10 : Array CpInfo := pool [(2, .class_ 4), (1, u "java/lang/Object"), (0, u "<init>"), (0, u "()V"), (1, .class_ 10), (1, u "com/example/corvid/corvid/symbol/Type"), (0, u "ERROR"), (0, u "Lcom/example/corvid/corvid/symbol/Type;"), (35, .class_ 49), (0, u "com/example/corvid/corvid/symbol/Type$1"), (1, .class_ 52), (0, u "com/example/corvid/corvid/symbol/Type$2"), (3, u "NULL")] 22

def k10m0 : Method := { name := "<init>", desc := "()V", sig := { parameters := [], returnType := none }, accessFlags := 0, code := none }
/-- com/example/corvid/corvid/symbol/Type -/
def k10 : Class := { plain "com/example/corvid/corvid/symbol/Type" (some 0) with
  accessFlags := 1057
  interfaces := #[]
  cf := some (fileOf pool10 8 #[.nestMembers #[51, 48]] #[{ accessFlags := 0, nameIndex := 5, descriptorIndex := 6, attributes := #[] }] 1057 2 #[] #[{ accessFlags := 25, nameIndex := 11, descriptorIndex := 12, attributes := #[] }, { accessFlags := 25, nameIndex := 56, descriptorIndex := 12, attributes := #[] }])
  fields := #[{ name := "ERROR", type := (.object "com/example/corvid/corvid/symbol/Type"), accessFlags := 25, slot := 0, constantValue := 0 }, { name := "NULL", type := (.object "com/example/corvid/corvid/symbol/Type"), accessFlags := 25, slot := 1, constantValue := 0 }]
  methods := #[k10m0]
  instanceTypes := #[]
  staticTypes := #[(.object "com/example/corvid/corvid/symbol/Type"), (.object "com/example/corvid/corvid/symbol/Type")]
  resolved := Array.replicate 79 none
  statics := none }

def pool11 : Array CpInfo := pool [(2, .class_ 4), (1, u "com/example/corvid/corvid/symbol/Type"), (3, .class_ 10), (1, u "com/example/corvid/corvid/symbol/PrimitiveType"), (0, u "keyword"), (0, u "Ljava/lang/String;"), (0, .fieldref 8 14), (0, .nameAndType 15 16), (0, u "descriptor"), (0, u "C"), (2, u "slots"), (0, u "I"), (0, .fieldref 8 22), (0, .nameAndType 23 24), (0, u "ALL"), (0, u "[Lcom/example/corvid/corvid/symbol/PrimitiveType;"), (12, u "BYTE"), (0, u "Lcom/example/corvid/corvid/symbol/PrimitiveType;"), (2, u "SHORT"), (2, u "INT"), (6, u "CHAR"), (2, u "LONG"), (2, u "FLOAT"), (2, u "DOUBLE"), (2, u "BOOLEAN"), (2, u "VOID"), (48, u "ofDescriptor"), (0, u "(C)Lcom/example/corvid/corvid/symbol/PrimitiveType;")] 29

def k11c0 : Code := { maxStack := 2, maxLocals := 5, code := prog_33_method_2_code, exceptionTable := #[], attributes := #[] }
def k11m0 : Method := { name := "ofDescriptor", desc := "(C)Lcom/example/corvid/corvid/symbol/PrimitiveType;", sig := { parameters := [.char], returnType := some (.object "com/example/corvid/corvid/symbol/PrimitiveType") }, accessFlags := 9, code := some k11c0 }
/-- com/example/corvid/corvid/symbol/PrimitiveType -/
def k11 : Class := { plain "com/example/corvid/corvid/symbol/PrimitiveType" (some 10) with
  accessFlags := 49
  interfaces := #[]
  cf := some (fileOf pool11 8 #[] #[{ accessFlags := 9, nameIndex := 115, descriptorIndex := 116, attributes := #[] }] 49 2 #[] #[{ accessFlags := 25, nameIndex := 63, descriptorIndex := 38, attributes := #[] }, { accessFlags := 25, nameIndex := 37, descriptorIndex := 38, attributes := #[] }, { accessFlags := 25, nameIndex := 41, descriptorIndex := 38, attributes := #[] }, { accessFlags := 25, nameIndex := 51, descriptorIndex := 38, attributes := #[] }, { accessFlags := 25, nameIndex := 44, descriptorIndex := 38, attributes := #[] }, { accessFlags := 25, nameIndex := 54, descriptorIndex := 38, attributes := #[] }, { accessFlags := 25, nameIndex := 57, descriptorIndex := 38, attributes := #[] }, { accessFlags := 25, nameIndex := 60, descriptorIndex := 38, attributes := #[] }, { accessFlags := 25, nameIndex := 66, descriptorIndex := 38, attributes := #[] }, { accessFlags := 26, nameIndex := 23, descriptorIndex := 24, attributes := #[] }, { accessFlags := 18, nameIndex := 11, descriptorIndex := 12, attributes := #[] }, { accessFlags := 18, nameIndex := 15, descriptorIndex := 16, attributes := #[] }, { accessFlags := 18, nameIndex := 19, descriptorIndex := 20, attributes := #[] }])
  fields := #[{ name := "BOOLEAN", type := (.object "com/example/corvid/corvid/symbol/PrimitiveType"), accessFlags := 25, slot := 0, constantValue := 0 }, { name := "BYTE", type := (.object "com/example/corvid/corvid/symbol/PrimitiveType"), accessFlags := 25, slot := 1, constantValue := 0 }, { name := "SHORT", type := (.object "com/example/corvid/corvid/symbol/PrimitiveType"), accessFlags := 25, slot := 2, constantValue := 0 }, { name := "CHAR", type := (.object "com/example/corvid/corvid/symbol/PrimitiveType"), accessFlags := 25, slot := 3, constantValue := 0 }, { name := "INT", type := (.object "com/example/corvid/corvid/symbol/PrimitiveType"), accessFlags := 25, slot := 4, constantValue := 0 }, { name := "LONG", type := (.object "com/example/corvid/corvid/symbol/PrimitiveType"), accessFlags := 25, slot := 5, constantValue := 0 }, { name := "FLOAT", type := (.object "com/example/corvid/corvid/symbol/PrimitiveType"), accessFlags := 25, slot := 6, constantValue := 0 }, { name := "DOUBLE", type := (.object "com/example/corvid/corvid/symbol/PrimitiveType"), accessFlags := 25, slot := 7, constantValue := 0 }, { name := "VOID", type := (.object "com/example/corvid/corvid/symbol/PrimitiveType"), accessFlags := 25, slot := 8, constantValue := 0 }, { name := "ALL", type := (.array (.object "com/example/corvid/corvid/symbol/PrimitiveType")), accessFlags := 26, slot := 9, constantValue := 0 }, { name := "keyword", type := (.object "java/lang/String"), accessFlags := 18, slot := 0, constantValue := 0 }, { name := "descriptor", type := .char, accessFlags := 18, slot := 1, constantValue := 0 }, { name := "slots", type := .int, accessFlags := 18, slot := 2, constantValue := 0 }]
  methods := #[k11m0]
  instanceTypes := #[(.object "java/lang/String"), .char, .int]
  staticTypes := #[(.object "com/example/corvid/corvid/symbol/PrimitiveType"), (.object "com/example/corvid/corvid/symbol/PrimitiveType"), (.object "com/example/corvid/corvid/symbol/PrimitiveType"), (.object "com/example/corvid/corvid/symbol/PrimitiveType"), (.object "com/example/corvid/corvid/symbol/PrimitiveType"), (.object "com/example/corvid/corvid/symbol/PrimitiveType"), (.object "com/example/corvid/corvid/symbol/PrimitiveType"), (.object "com/example/corvid/corvid/symbol/PrimitiveType"), (.object "com/example/corvid/corvid/symbol/PrimitiveType"), (.array (.object "com/example/corvid/corvid/symbol/PrimitiveType"))]
  resolved := Array.replicate 146 none
  statics := some 2 }

def pool12 : Array CpInfo := pool [(9, u "<init>"), (6, .class_ 18), (1, u "java/lang/Object"), (0, u "()V"), (1, .class_ 23), (1, u "jdk/internal/util/ArraysSupport"), (0, u "LOG2_ARRAY_LONG_INDEX_SCALE"), (0, u "I"), (2, u "U"), (0, u "Ljdk/internal/misc/Unsafe;"), (8, u "BIG_ENDIAN"), (0, u "Z"), (8, u "LOG2_BYTE_BIT_SIZE"), (4, u "LOG2_ARRAY_INT_INDEX_SCALE"), (54, u "JLA"), (0, u "Ljdk/internal/access/JavaLangAccess;"), (11, u "LOG2_ARRAY_BOOLEAN_INDEX_SCALE"), (9, u "LOG2_ARRAY_BYTE_INDEX_SCALE"), (5, u "LOG2_ARRAY_CHAR_INDEX_SCALE"), (5, u "LOG2_ARRAY_SHORT_INDEX_SCALE"), (18, u "LOG2_ARRAY_FLOAT_INDEX_SCALE"), (24, u "LOG2_ARRAY_DOUBLE_INDEX_SCALE"), (89, u "T_BOOLEAN"), (2, u "T_CHAR"), (1, u "T_FLOAT"), (1, u "T_DOUBLE"), (1, u "T_BYTE"), (1, u "T_SHORT"), (1, u "T_INT"), (1, u "T_LONG"), (1, u "SOFT_MAX_ARRAY_LENGTH")] 83

def k12m0 : Method := { name := "<init>", desc := "()V", sig := { parameters := [], returnType := none }, accessFlags := 2, code := none }
/-- jdk/internal/util/ArraysSupport -/
def k12 : Class := { plain "jdk/internal/util/ArraysSupport" (some 0) with
  accessFlags := 33
  interfaces := #[]
  cf := some (fileOf pool12 21 #[] #[{ accessFlags := 2, nameIndex := 9, descriptorIndex := 19, attributes := #[] }] 33 16 #[] #[{ accessFlags := 24, nameIndex := 28, descriptorIndex := 29, attributes := #[] }, { accessFlags := 26, nameIndex := 38, descriptorIndex := 39, attributes := #[] }, { accessFlags := 25, nameIndex := 121, descriptorIndex := 25, attributes := #[] }, { accessFlags := 25, nameIndex := 131, descriptorIndex := 25, attributes := #[] }, { accessFlags := 25, nameIndex := 137, descriptorIndex := 25, attributes := #[] }, { accessFlags := 25, nameIndex := 143, descriptorIndex := 25, attributes := #[] }, { accessFlags := 25, nameIndex := 53, descriptorIndex := 25, attributes := #[] }, { accessFlags := 25, nameIndex := 24, descriptorIndex := 25, attributes := #[] }, { accessFlags := 25, nameIndex := 162, descriptorIndex := 25, attributes := #[] }, { accessFlags := 25, nameIndex := 187, descriptorIndex := 25, attributes := #[] }, { accessFlags := 26, nameIndex := 48, descriptorIndex := 25, attributes := #[] }, { accessFlags := 25, nameIndex := 277, descriptorIndex := 25, attributes := #[] }, { accessFlags := 25, nameIndex := 280, descriptorIndex := 25, attributes := #[] }, { accessFlags := 25, nameIndex := 282, descriptorIndex := 25, attributes := #[] }, { accessFlags := 25, nameIndex := 284, descriptorIndex := 25, attributes := #[] }, { accessFlags := 25, nameIndex := 286, descriptorIndex := 25, attributes := #[] }, { accessFlags := 25, nameIndex := 288, descriptorIndex := 25, attributes := #[] }, { accessFlags := 25, nameIndex := 290, descriptorIndex := 25, attributes := #[] }, { accessFlags := 25, nameIndex := 292, descriptorIndex := 25, attributes := #[] }, { accessFlags := 26, nameIndex := 108, descriptorIndex := 109, attributes := #[] }, { accessFlags := 25, nameIndex := 294, descriptorIndex := 25, attributes := #[] }])
  fields := #[{ name := "U", type := (.object "jdk/internal/misc/Unsafe"), accessFlags := 24, slot := 0, constantValue := 0 }, { name := "BIG_ENDIAN", type := .boolean, accessFlags := 26, slot := 1, constantValue := 0 }, { name := "LOG2_ARRAY_BOOLEAN_INDEX_SCALE", type := .int, accessFlags := 25, slot := 2, constantValue := 0 }, { name := "LOG2_ARRAY_BYTE_INDEX_SCALE", type := .int, accessFlags := 25, slot := 3, constantValue := 0 }, { name := "LOG2_ARRAY_CHAR_INDEX_SCALE", type := .int, accessFlags := 25, slot := 4, constantValue := 0 }, { name := "LOG2_ARRAY_SHORT_INDEX_SCALE", type := .int, accessFlags := 25, slot := 5, constantValue := 0 }, { name := "LOG2_ARRAY_INT_INDEX_SCALE", type := .int, accessFlags := 25, slot := 6, constantValue := 0 }, { name := "LOG2_ARRAY_LONG_INDEX_SCALE", type := .int, accessFlags := 25, slot := 7, constantValue := 0 }, { name := "LOG2_ARRAY_FLOAT_INDEX_SCALE", type := .int, accessFlags := 25, slot := 8, constantValue := 0 }, { name := "LOG2_ARRAY_DOUBLE_INDEX_SCALE", type := .int, accessFlags := 25, slot := 9, constantValue := 0 }, { name := "LOG2_BYTE_BIT_SIZE", type := .int, accessFlags := 26, slot := 10, constantValue := 0 }, { name := "T_BOOLEAN", type := .int, accessFlags := 25, slot := 11, constantValue := 0 }, { name := "T_CHAR", type := .int, accessFlags := 25, slot := 12, constantValue := 0 }, { name := "T_FLOAT", type := .int, accessFlags := 25, slot := 13, constantValue := 0 }, { name := "T_DOUBLE", type := .int, accessFlags := 25, slot := 14, constantValue := 0 }, { name := "T_BYTE", type := .int, accessFlags := 25, slot := 15, constantValue := 0 }, { name := "T_SHORT", type := .int, accessFlags := 25, slot := 16, constantValue := 0 }, { name := "T_INT", type := .int, accessFlags := 25, slot := 17, constantValue := 0 }, { name := "T_LONG", type := .int, accessFlags := 25, slot := 18, constantValue := 0 }, { name := "JLA", type := (.object "jdk/internal/access/JavaLangAccess"), accessFlags := 26, slot := 19, constantValue := 0 }, { name := "SOFT_MAX_ARRAY_LENGTH", type := .int, accessFlags := 25, slot := 20, constantValue := 0 }]
  methods := #[k12m0]
  instanceTypes := #[]
  staticTypes := #[(.object "jdk/internal/misc/Unsafe"), .boolean, .int, .int, .int, .int, .int, .int, .int, .int, .int, .int, .int, .int, .int, .int, .int, .int, .int, (.object "jdk/internal/access/JavaLangAccess"), .int]
  resolved := Array.replicate 378 none
  statics := none }

def pool13 : Array CpInfo := pool [(1, u "java/lang/Cloneable"), (0, .class_ 1), (0, u "java/lang/Object"), (0, .class_ 3)] 3

/-- java/lang/Cloneable -/
def k13 : Class := { plain "java/lang/Cloneable" (some 0) with
  accessFlags := 1537
  interfaces := #[]
  cf := some (fileOf pool13 2 #[] #[] 1537 4 #[] #[])
  fields := #[]
  methods := #[]
  instanceTypes := #[]
  staticTypes := #[]
  resolved := Array.replicate 8 none
  statics := none }

/-- the primitive byte -/
def k14 : Class := { plain "byte" none with kind := .primitive 'B', accessFlags := 0x411 }
/-- [B -/
def k15 : Class := { plain "[B" (some 0) with kind := .array 14 .byte, interfaces := #[13, 2], accessFlags := 1041 }

/-- the primitive int -/
def k16 : Class := { plain "int" none with kind := .primitive 'I', accessFlags := 0x411 }
/-- [I -/
def k17 : Class := { plain "[I" (some 0) with kind := .array 16 .int, interfaces := #[13, 2], accessFlags := 1041 }

/-- [Lcom/example/corvid/corvid/symbol/PrimitiveType; -/
def k18 : Class := { plain "[Lcom/example/corvid/corvid/symbol/PrimitiveType;" (some 0) with kind := .array 11 (.object "com/example/corvid/corvid/symbol/PrimitiveType"), interfaces := #[13, 2], accessFlags := 1041 }

def heap : Heap := #[{ cls := 7, slots := #[.long 0, .int 1, .null, .int 0, .null, .int 0, .int 0], vm := .statics 7 },
  { cls := 9, slots := #[.null, .null, .null], vm := .statics 9 },
  { cls := 11, slots := #[.ref 4, .ref 5, .ref 6, .ref 7, .ref 8, .ref 9, .ref 10, .ref 11, .ref 12, .ref 3], vm := .statics 11 },
  { cls := 18, slots := #[.ref 4, .ref 5, .ref 6, .ref 7, .ref 8, .ref 9, .ref 10, .ref 11, .ref 12], vm := .none },
  { cls := 11, slots := #[.null, .int 90, .int 1], vm := .none },
  { cls := 11, slots := #[.null, .int 66, .int 1], vm := .none },
  { cls := 11, slots := #[.null, .int 83, .int 1], vm := .none },
  { cls := 11, slots := #[.null, .int 67, .int 1], vm := .none },
  { cls := 11, slots := #[.null, .int 73, .int 1], vm := .none },
  { cls := 11, slots := #[.null, .int 74, .int 1], vm := .none },
  { cls := 11, slots := #[.null, .int 70, .int 1], vm := .none },
  { cls := 11, slots := #[.null, .int 68, .int 1], vm := .none },
  { cls := 11, slots := #[.null, .int 86, .int 1], vm := .none }]
def classes : Array Class := #[k0, k1, k2, k3, k4, k5, k6, k7, k8, k9, k10, k11, k12, k13, k14, k15, k16, k17, k18]
def interned : List (Array UInt16 × Addr) := []
def slotsUsed : Nat := 56
def theMethod : MethodId := ⟨1, 2⟩
def args0 : Array Value := #[.int 66, .int 3]
def aboutOver (below : List Frame) : State where
  vm := { classes := classes, interned := interned.toArray }
  heap := heap
  slotsUsed := slotsUsed
  threads := #[{ frames := .invoking theMethod args0 :: below }]
def below0 : List Frame := [.native { method := ⟨0, 0⟩, args := #[] }]
def about1 : State := aboutOver below0
def p0 : Program := .bare "" "" ""
def e0 : Env := launch0.env 0 0 0
theorem w_frames : about1.frames = Frame.invoking theMethod args0 :: below0 := rfl
set_option maxRecDepth 65536 in
theorem w_args : argsFit about1.vm theMethod args0 = true := by decide +kernel
set_option maxRecDepth 65536 in
theorem w_heap : heapFits about1 = true := by decide +kernel
set_option maxRecDepth 65536 in
theorem w_runnable : about1.curStatus? = some .runnable := by decide +kernel
set_option maxRecDepth 65536 in
theorem w_alone : about1.alone = true := by decide +kernel
set_option maxRecDepth 65536 in
theorem w_named : about1.methodNamed? x = some theMethod := by decide +kernel
set_option maxRecDepth 65536 in
theorem w_hears : about1.hears theMethod below0 = true := by decide +kernel
set_option maxRecDepth 65536 in
theorem w_ripe : about1.ripe theMethod args0 below0 = true := by decide +kernel
theorem w_running : about1.status = .running := rfl
set_option maxRecDepth 65536 in
theorem w_room : about1.hasRoom e0.platform room_1 = true :=
  launch0.hasRoom_least _ room_1 (by decide +kernel) (by decide +kernel) (by decide +kernel) (by decide +kernel) (by decide +kernel) (by decide +kernel)
theorem allAtoms_all (ts : List Jvm.Cond) (a : Array Jvm.Value) (st : Jvm.State) : (allAtoms ts).before a st = ts.all (fun c => c.before a st) := by
  induction ts with
  | nil => rfl
  | cons c t ih =>
    show (Jvm.Cond.and c (allAtoms t)).before a st = _
    rw [Jvm.Cond.before_and, ih, List.all_cons]
def words1 : List Jvm.Cond := Jvm.Cond.code x code maxLocals ret :: tables_1
/-- a 'code' word, met by the world's own term for the bytes: nothing is compared byte by byte -/
theorem code_word {y : MethodName} {bytes : ByteArray} {mx : Nat} {rt : Option FieldType} {a : Array Value} {s : State} {m : MethodId} {meth : Method} {c : Code} (h1 : s.methodNamed? y = some m) (h2 : s.vm.method? m = some meth) (h3 : meth.code = some c) (h4 : c.code = bytes)
    (h5 : (c.maxLocals == mx && c.exceptionTable.isEmpty && decide (c.maxStack ≤ mostOperands) && decide (meth.sig.returnType = rt) && !meth.locks && decide (parseMethodDescriptor y.desc = some meth.sig)) = true) : (Jvm.Cond.code y bytes mx rt).before a s = true := by
  simp only [Bool.and_eq_true, beq_iff_eq, Bool.not_eq_true', decide_eq_true_eq] at h5
  obtain ⟨⟨⟨⟨⟨g1, g2⟩, g3⟩, g4⟩, g5⟩, g6⟩ := h5
  simp [Cond.before, Cond.holds, Cond.value, h1, h2, h3, h4, g1, g2, g3, g4, g5, g6]
def isCode : Jvm.Cond → Bool
  | .code _ _ _ _ => true
  | _ => false
theorem all_split {L : List Jvm.Cond} {P : Jvm.Cond → Bool} (h1 : L.all (fun c => isCode c || P c) = true) (h2 : ∀ c ∈ L.filter isCode, P c = true) : L.all P = true := by
  refine List.all_eq_true.mpr fun c hc => ?_
  have h := List.all_eq_true.mp h1 c hc
  rcases Bool.eq_false_or_eq_true (isCode c) with hi | hi
  · exact h2 c (List.mem_filter.mpr ⟨hc, hi⟩)
  · simpa [hi] using h
set_option maxRecDepth 65536 in
theorem w_c0 : (Jvm.Cond.code x code maxLocals ret).before args0 about1 = true := code_word (m := ⟨1, 2⟩) (meth := k1m2) (c := k1c2) (by decide +kernel) rfl rfl rfl (by decide +kernel)
set_option maxRecDepth 65536 in
theorem w_c1 : (Jvm.Cond.code ({ cls := "java/lang/String", name := "charAt", desc := "(I)C" } : Jvm.MethodName) jdk_42_method_56_code (2 : Nat) (Option.some Jvm.ClassFile.FieldType.char)).before args0 about1 = true := code_word (m := ⟨7, 1⟩) (meth := k7m1) (c := k7c1) (by decide +kernel) rfl rfl rfl (by decide +kernel)
set_option maxRecDepth 65536 in
theorem w_c2 : (Jvm.Cond.code ({ cls := "java/lang/String", name := "isLatin1", desc := "()Z" } : Jvm.MethodName) jdk_42_method_154_code (1 : Nat) (Option.some Jvm.ClassFile.FieldType.boolean)).before args0 about1 = true := code_word (m := ⟨7, 2⟩) (meth := k7m2) (c := k7c2) (by decide +kernel) rfl rfl rfl (by decide +kernel)
set_option maxRecDepth 65536 in
theorem w_c3 : (Jvm.Cond.code ({ cls := "java/lang/StringLatin1", name := "charAt", desc := "([BI)C" } : Jvm.MethodName) jdk_43_method_2_code (2 : Nat) (Option.some Jvm.ClassFile.FieldType.char)).before args0 about1 = true := code_word (m := ⟨8, 1⟩) (meth := k8m1) (c := k8c1) (by decide +kernel) rfl rfl rfl (by decide +kernel)
set_option maxRecDepth 65536 in
theorem w_c4 : (Jvm.Cond.code ({ cls := "java/lang/String", name := "checkIndex", desc := "(II)V" } : Jvm.MethodName) jdk_42_method_155_code (2 : Nat) (Option.none : Option Jvm.ClassFile.FieldType)).before args0 about1 = true := code_word (m := ⟨7, 3⟩) (meth := k7m3) (c := k7c3) (by decide +kernel) rfl rfl rfl (by decide +kernel)
set_option maxRecDepth 65536 in
theorem w_c5 : (Jvm.Cond.code ({ cls := "jdk/internal/util/Preconditions", name := "checkIndex", desc := "(IILjava/util/function/BiFunction;)I" } : Jvm.MethodName) jdk_41_method_11_code (3 : Nat) (Option.some Jvm.ClassFile.FieldType.int)).before args0 about1 = true := code_word (m := ⟨9, 1⟩) (meth := k9m1) (c := k9c1) (by decide +kernel) rfl rfl rfl (by decide +kernel)
set_option maxRecDepth 65536 in
theorem w_c6 : (Jvm.Cond.code ({ cls := "com/example/corvid/corvid/symbol/PrimitiveType", name := "ofDescriptor", desc := "(C)Lcom/example/corvid/corvid/symbol/PrimitiveType;" } : Jvm.MethodName) prog_33_method_2_code (5 : Nat) (Option.some (Jvm.ClassFile.FieldType.object "com/example/corvid/corvid/symbol/PrimitiveType"))).before args0 about1 = true := code_word (m := ⟨11, 0⟩) (meth := k11m0) (c := k11c0) (by decide +kernel) rfl rfl rfl (by decide +kernel)
set_option maxRecDepth 65536 in
theorem w_c7 : (Jvm.Cond.code ({ cls := "com/example/corvid/corvid/symbol/PrimitiveTypeOfDescriptorPinLaw", name := "expected", desc := "(C)Lcom/example/corvid/corvid/symbol/PrimitiveType;" } : Jvm.MethodName) method_2_code (1 : Nat) (Option.some (Jvm.ClassFile.FieldType.object "com/example/corvid/corvid/symbol/PrimitiveType"))).before args0 about1 = true := code_word (m := ⟨1, 1⟩) (meth := k1m1) (c := k1c1) (by decide +kernel) rfl rfl rfl (by decide +kernel)
def codes1 : List Jvm.Cond := [Jvm.Cond.code x code maxLocals ret, Jvm.Cond.code ({ cls := "java/lang/String", name := "charAt", desc := "(I)C" } : Jvm.MethodName) jdk_42_method_56_code (2 : Nat) (Option.some Jvm.ClassFile.FieldType.char), Jvm.Cond.code ({ cls := "java/lang/String", name := "isLatin1", desc := "()Z" } : Jvm.MethodName) jdk_42_method_154_code (1 : Nat) (Option.some Jvm.ClassFile.FieldType.boolean), Jvm.Cond.code ({ cls := "java/lang/StringLatin1", name := "charAt", desc := "([BI)C" } : Jvm.MethodName) jdk_43_method_2_code (2 : Nat) (Option.some Jvm.ClassFile.FieldType.char), Jvm.Cond.code ({ cls := "java/lang/String", name := "checkIndex", desc := "(II)V" } : Jvm.MethodName) jdk_42_method_155_code (2 : Nat) (Option.none : Option Jvm.ClassFile.FieldType), Jvm.Cond.code ({ cls := "jdk/internal/util/Preconditions", name := "checkIndex", desc := "(IILjava/util/function/BiFunction;)I" } : Jvm.MethodName) jdk_41_method_11_code (3 : Nat) (Option.some Jvm.ClassFile.FieldType.int), Jvm.Cond.code ({ cls := "com/example/corvid/corvid/symbol/PrimitiveType", name := "ofDescriptor", desc := "(C)Lcom/example/corvid/corvid/symbol/PrimitiveType;" } : Jvm.MethodName) prog_33_method_2_code (5 : Nat) (Option.some (Jvm.ClassFile.FieldType.object "com/example/corvid/corvid/symbol/PrimitiveType")), Jvm.Cond.code ({ cls := "com/example/corvid/corvid/symbol/PrimitiveTypeOfDescriptorPinLaw", name := "expected", desc := "(C)Lcom/example/corvid/corvid/symbol/PrimitiveType;" } : Jvm.MethodName) method_2_code (1 : Nat) (Option.some (Jvm.ClassFile.FieldType.object "com/example/corvid/corvid/symbol/PrimitiveType"))]
set_option maxRecDepth 65536 in
theorem codes_eq : words1.filter isCode = codes1 := rfl
theorem w_codes : ∀ c ∈ words1.filter isCode, c.before args0 about1 = true := by
  rw [codes_eq]
  intro c hc
  simp only [codes1, List.mem_cons, List.not_mem_nil, or_false] at hc
  rcases hc with rfl | rfl | rfl | rfl | rfl | rfl | rfl | rfl
  · exact w_c0
  · exact w_c1
  · exact w_c2
  · exact w_c3
  · exact w_c4
  · exact w_c5
  · exact w_c6
  · exact w_c7
set_option maxRecDepth 65536 in
theorem w_t1 : (words1.take 24).all (fun c => isCode c || c.before args0 about1) = true := by decide +kernel
set_option maxRecDepth 65536 in
theorem w_t2 : ((words1.drop 24).take 24).all (fun c => isCode c || c.before args0 about1) = true := by decide +kernel
set_option maxRecDepth 65536 in
theorem w_t3 : ((words1.drop 24).drop 24).all (fun c => isCode c || c.before args0 about1) = true := by decide +kernel
theorem w_tables : (allAtoms (Jvm.Cond.code x code maxLocals ret :: tables_1)).before args0 about1 = true := by
  rw [allAtoms_all]
  show words1.all (fun c => c.before args0 about1) = true
  refine all_split ?_ w_codes
  rw [← List.take_append_drop 24 words1, List.all_append, w_t1, ← List.take_append_drop 24 (words1.drop 24), List.all_append, w_t2, w_t3]
  rfl
set_option maxRecDepth 65536 in
theorem w_rest : rest_1_c.before args0 about1 = true := by decide +kernel
set_option maxRecDepth 65536 in
theorem w_case : (Jvm.Cond.and given_1 narrow_1).before args0 about1 = true := by decide +kernel
set_option maxRecDepth 65536 in
theorem w_consts : constsHeld consts_1 about1 := Jvm.Lit.constsHeldB_iff.mp (by decide +kernel)
theorem w_applies : (headSpec (Jvm.Cond.code x code maxLocals ret :: tables_1) room_1).applies x e0.platform about1 = true :=
  (Spec.applies_iff w_frames).mpr ⟨w_running, w_runnable, w_alone, w_named, w_hears, w_ripe, w_room, w_tables⟩
theorem atStart : AtStart classFile x code maxLocals ret World_1 tables_1 room_1 Calls_1 rest_1 Pre_1 launch0 p0 e0 about1 theMethod args0 below0 :=
  ⟨lists_1, trivial, launch0.admits_env _ _ _, launch0.least_env, fairChoices_fair.cas, fairChoices_fair.clock, w_frames, w_args, w_heap, w_applies, ⟨w_consts, trivial⟩, w_rest, w_case⟩
end start1
theorem witness_1 : WitnessClaimed_1 := ⟨start1.p0, start1.e0, start1.about1, start1.theMethod, start1.args0, start1.below0, start1.atStart⟩
end Jvm.Pilot.@@N@@
