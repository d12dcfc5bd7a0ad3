import JvmDerived
import JvmDerived.Pilot.@@N@@Statement
import JvmDerived.Pilot.@@N@@Code
set_option linter.unusedVariables false
set_option linter.unusedSimpArgs false
namespace Jvm.Pilot.@@N@@
open Jvm Jvm.ClassFile Sem Op Lib Jvm.Free Jvm.Stand Jvm.LawKit Jvm.RoadKit Bundle Jvm.Pilot.@@N@@.Jvm.D
theorem own_keq {h0 h h' : Heap} {ws : List Addr} (e : h' = h) (K : Keep h0 h ws) : Keep h0 h' ws := e ▸ K

theorem own_eqv {args : Array Value} {s : State} {a b : Term} {y : Value} (h : (Cond.eq a b).value args s none s [] = some true) (hb : b.eval args s none [] s = some y) (hy : (∃ z, y = .int z) ∨ ∃ z, y = .ref z) : a.eval args s none [] s = some y := by
  obtain ⟨x, y', ha, hb', k1, k2⟩ := cmp_v (Or.inl h)
  cases hb.symm.trans hb'
  rw [ha]
  rcases hy with ⟨z, rfl⟩ | ⟨z, rfl⟩
  · obtain ⟨z', rfl⟩ := k2
    simp [Cond.value, ha, hb] at h
    rw [h]
  · have q := eq_R ha hb k2.2 rfl
    rw [h] at q
    have := of_decide_eq_true (Option.some.inj q).symm
    rw [this]
theorem own_fld {args : Array Value} {s : State} {t : Term} {a : Addr} {C n d : String} {k : Int32} (h : (Cond.eq (.field t C n d) (.int k)).value args s none s [] = some true) (ht : t.eval args s none [] s = some (.ref a)) : Fld s s.heap a C n d (.int k) := by
  refine Fld.start ?_
  rw [← fld_at (args := args) (first := s) (o := none) (idx := []) (C := C) (n := n) (dd := d) ht]
  exact own_eqv h (Term.int_eval k) (Or.inl ⟨_, rfl⟩)
theorem own_len {args : Array Value} {s : State} {t : Term} {a : Addr} {c : Cell} {ty : FieldType} {k : Int32} (h : (Cond.eq (.length t) (.int k)).value args s none s [] = some true) (ht : t.eval args s none [] s = some (.ref a)) (A : Arr s s.heap a c ty) : c.slots.size < 2 ^ 31 ∧ c.slots.size.toInt32 = k := by
  have q := own_eqv h (Term.int_eval k) (Or.inl ⟨_, rfl⟩)
  have hc : s.arrayAt? a = some c := Arr.fin (Vm.Alike.refl _) A
  by_cases z : c.slots.size < 2 ^ 31
  · rw [len_f ht hc z] at q; exact ⟨z, by simpa using q⟩
  · simp [Term.eval, ht, hc, z] at q
theorem own_elem {args : Array Value} {s : State} {t u : Term} {a b : Addr} {c : Cell} {ty : FieldType} {k : Int32} (h : (Cond.eq (.elem t (.int k)) u).value args s none s [] = some true) (ht : t.eval args s none [] s = some (.ref a)) (hu : u.eval args s none [] s = some (.ref b)) (A : Arr s s.heap a c ty) : c.slots[k.toNatClampNeg]? = some (.ref b) :=
  (elem_in (own_eqv h hu (Or.inr ⟨_, rfl⟩)) ht (Term.int_eval k) A.1).2
theorem own_four {m : Int32} (h : ¬ m < 0) : m = 0 ∨ m = 1 ∨ m = 2 ∨ (¬ m = 0 ∧ ¬ m = 1 ∧ ¬ m = 2 ∧ ¬ m < 3) := by
  by_cases h0 : m = 0
  · exact Or.inl h0
  by_cases h1 : m = 1
  · exact Or.inr (Or.inl h1)
  by_cases h2 : m = 2
  · exact Or.inr (Or.inr (Or.inl h2))
  refine Or.inr (Or.inr (Or.inr ⟨h0, h1, h2, ?_⟩))
  have a0 : m.toInt ≠ 0 := fun q => h0 (Int32.toInt_inj.mp (q.trans (by decide)))
  have a1 : m.toInt ≠ 1 := fun q => h1 (Int32.toInt_inj.mp (q.trans (by decide)))
  have a2 : m.toInt ≠ 2 := fun q => h2 (Int32.toInt_inj.mp (q.trans (by decide)))
  rw [Int32.lt_iff_toInt_lt] at h ⊢
  have e0 : (0 : Int32).toInt = 0 := by decide
  have e3 : (3 : Int32).toInt = 3 := by decide
  omega
theorem own_mask (x : Int32) : ¬ (x &&& 2147483647) < 0 := by
  have := c_mask x 2147483647 31 (by decide) (by decide)
  rw [Int32.lt_iff_toInt_lt]
  have e0 : (0 : Int32).toInt = 0 := by decide
  omega
theorem ef_vals (m : MethodId)  : entryFrame m #[] 0 = mkF m 0 #[] [] := by (first | (simp [entryFrame, mkF, argsToLocals, Value.category]; done) | rfl)
def Qvals (Z : State) (aV : Addr) (kV : ClassId) (a0v : Addr) (a1v : Addr) (a2v : Addr) (h0 : Heap) (n0 : Nat) (v : Option Value) (h : Heap) (L : List Loc) : Prop := v = some (.ref h0.size) ∧ Fr n0 L ∧ Ext h0 h ∧ Arv Z h h0.size kV (.object "com/example/orbweaver/orbweaver/GiopVersion") (3 : Int32) [.ref a0v, .ref a1v, .ref a2v] .null
theorem pn_com_example_orbweaver_orbweaver_GiopVersion : plainName "com/example/orbweaver/orbweaver/GiopVersion" = true := by first | (simp [plainName, overriddenIn]; done) | decide +kernel
theorem d2_0 : decode prog_37_method_1_code 0 = .ok (.getstatic 13, 3) := by decide +kernel
theorem d2_3 : decode prog_37_method_1_code 3 = .ok (.invokevirtual 17, 3) := by decide +kernel
theorem d2_6 : decode prog_37_method_1_code 6 = .ok (.checkcast 18, 3) := by decide +kernel
theorem d2_9 : decode prog_37_method_1_code 9 = .ok (.areturn, 1) := by decide +kernel
set_option maxRecDepth 65536 in
set_option maxHeartbeats 40000000 in
theorem rmvals (l : Launch) (Z : State) (a0 : Array Value) (hw : ∀ d ∈ tables_1, d.before a0 Z = true) (ws : List Jvm.Cond) (aV : Addr) (kV : ClassId) (a0v : Addr) (a1v : Addr) (a2v : Addr) (h0 : Heap) (n0 : Nat) (Z0 : n0 ≤ h0.size) (SV : Sta Z h0 "com/example/orbweaver/orbweaver/GiopVersion" "$VALUES" "[Lcom/example/orbweaver/orbweaver/GiopVersion;" (.ref aV)) (AA : Arv Z h0 aV kV (.object "com/example/orbweaver/orbweaver/GiopVersion") (3 : Int32) [.ref a0v, .ref a1v, .ref a2v] .null) (EV : Exa Z h0 aV "[Lcom/example/orbweaver/orbweaver/GiopVersion;") :
    MetFree l (⟨"com/example/orbweaver/orbweaver/GiopVersion", "values", "()[Lcom/example/orbweaver/orbweaver/GiopVersion;"⟩ : MethodName) (head1 (Jvm.Cond.code (⟨"com/example/orbweaver/orbweaver/GiopVersion", "values", "()[Lcom/example/orbweaver/orbweaver/GiopVersion;"⟩ : MethodName) prog_37_method_1_code 0 (some (.array (.object "com/example/orbweaver/orbweaver/GiopVersion"))) :: ws) ({ frames := 1, cells := 1, slots := 3, locals := 14 } : Room)) (fun a U => a = #[] ∧ Z.Warmed39 U.vm ∧ U.heap = h0) (fun _ _ _ _ _ => True) (fun _ U o U' => ∃ v L, o = .returned v ∧ Qvals Z aV kV a0v a1v a2v h0 n0 v U'.heap L ∧ FrameEnd U o U' L ({ frames := 1, cells := 1, slots := 3, locals := 14 } : Room).cells ({ frames := 1, cells := 1, slots := 3, locals := 14 } : Room).slots) := by
  refine MetFree.of_bodySF (plainFor_of_name pn_com_example_orbweaver_orbweaver_GiopVersion) hisR ?_
  intro p e s m args below meth c s₁ Bd hml0 hP hK
  obtain ⟨rfl, hZ, hh⟩ := hP
  have hx := Bd.exec
  have hby := Bd.bytes
  have hml : c.maxLocals = 0 := hml0
  have hown : s.vm.findClass "com/example/orbweaver/orbweaver/GiopVersion" = some m.cls := findClass_of_methodNamed Bd.named
  have hnm := (name_of_methodNamed Bd.named Bd.method).1
  have X0 : Stand p l e ({ frames := 1, cells := 1, slots := 3, locals := 14 } : Room) s m #[] below meth c s₁ [] 0 0 := Stand.of_body Bd
  have e0 : s₁.heap = h0 := by rw [← hh, Bd.state]; rfl
  have N0 := Fr.nil n0
  have pre0 : ∀ t, Steps p.tables e below (s₁.setTop (mkF m 0 #[] [])) t → Steps p.tables e below (s₁.setTop (entryFrame m #[] 0)) t := fun t k => castTop (ef_vals m ) k
  obtain ⟨T1, X1, e1, st1⟩ := getS2 X0 hx hZ hown (host := "") (Or.inl (hw _ (List.mem_of_getElem? (i := 8) rfl))) Via.refl e0 SV (g := (mkF m 0 #[] [])) rfl (hb hby d2_0)
  obtain ⟨T2, h2, X2, e2, E2, A2, B2, st2⟩ := cloneH X1 hx hZ hown (hw _ (List.mem_of_getElem? (i := 10) rfl)) (hw _ (List.mem_of_getElem? (i := 11) rfl)) (hw _ (List.mem_of_getElem? (i := 15) rfl)) (hw _ (List.mem_of_getElem? (i := 13) rfl)) (hw _ (List.mem_of_getElem? (i := 14) rfl)) (hw _ (List.mem_of_getElem? (i := 16) rfl)) e1 AA.arh EV (g := (mkF m 3 #[] [(.ref aV)])) rfl (by rw [hml]; rfl) rfl (hb hby d2_3) (by decide) (W := 0) (by show 2 * 0 + _ ≤ _; exact Nat.le_of_eq rfl) (by decide) (cap := 3) (by decide) (by decide) (by decide)
  obtain ⟨b2, g2⟩ : ∃ z, z = h0.size := ⟨_, rfl⟩
  rw [← g2] at A2 B2 st2
  have g_b2 : n0 ≤ b2 := Nat.le_trans Z0 (Nat.le_of_eq g2.symm)
  have sz_b2 : h0.size ≤ b2 := Nat.le_trans (Keep.refl h0 []).1 (Nat.le_of_eq g2.symm)
  have ne_aV_b2 : aV ≠ b2 := Nat.ne_of_lt (Nat.lt_of_lt_of_le AA.lt (Nat.le_of_eq g2.symm))
  have Z2 := Nat.le_trans Z0 E2.1
  have K2 := (Keep.refl h0 []).ext E2
  have VV : Arv Z h2 b2 kV (.object "com/example/orbweaver/orbweaver/GiopVersion") (3 : Int32) [.ref a0v, .ref a1v, .ref a2v] .null := A2
  obtain ⟨T3, X3, e3, st3⟩ := castY X2 hx hZ hown (hw _ (List.mem_of_getElem? (i := 21) rfl)) e2 (Ins.self B2) (g := (mkF m 6 #[] [(.ref b2)])) rfl rfl (hb hby d2_6)
  have pre4 : ∀ t, Steps p.tables e below (T3.setTop (mkF m 9 #[] [(.ref b2)])) t → Steps p.tables e below (s₁.setTop (mkF m 0 #[] [])) t := by
    intro t kt
    show Steps p.tables e below (s₁.setTop (mkF m 0 #[] [])) _
    refine st1 _ ?_
    show Steps p.tables e below (T1.setTop (mkF m 3 #[] [(.ref aV)])) _
    refine st2 _ ?_
    show Steps p.tables e below (T2.setTop (mkF m 6 #[] [(.ref b2)])) _
    refine st3 _ ?_
    exact kt
  obtain ⟨fs, hr, hrun, hended, hW, hsame⟩ := X3.leave (v := some (.ref b2)) (fun h => by rw [Bd.returns] at h; cases h)
  refine ⟨_, _, (pre0 _ (pre4 _ ?_)), hrun, hended, _, _, rfl, ?_, ⟨_, rfl⟩, hW, hsame.mono (by decide) (by decide)⟩
  · show Steps p.tables e below (T3.setTop (mkF m 9 #[] [(.ref b2)])) _
    exact retOut X3 hx (t := (.array (.object "com/example/orbweaver/orbweaver/GiopVersion"))) Bd.returns rfl (Or.inr (Or.inr (Or.inr (Or.inr ⟨rfl, rfl, rfl⟩)))) (hb hby d2_9) hr
  · show Qvals Z aV kV a0v a1v a2v h0 n0 _ T3.heap _
    rw [e3]
    exact ⟨by rw [g2], N0, E2, g2 ▸ VV⟩
theorem ef_of0 (m : MethodId) (x0 : Int32) : entryFrame m #[(.int x0)] 2 = mkF m 0 #[.val (.int x0), .unset] [] := by (first | (simp [entryFrame, mkF, argsToLocals, Value.category]; done) | rfl)
def Qof0 (Z : State) (aV : Addr) (kV : ClassId) (a0v : Addr) (a1v : Addr) (a2v : Addr) (h0 : Heap) (n0 : Nat) (v : Option Value) (h : Heap) (L : List Loc) : Prop := v = some (.ref a0v) ∧ Fr n0 L ∧ Ext h0 h
theorem d1_0 : decode prog_37_method_6_code 0 = .ok (.invokestatic 36, 3) := by decide +kernel
theorem pd____Lcom_example_orbweaver_orbweaver_GiopVersion_ : parseMethodDescriptor "()[Lcom/example/orbweaver/orbweaver/GiopVersion;" = some ⟨[], some (.array (.object "com/example/orbweaver/orbweaver/GiopVersion"))⟩ := by decide +kernel
theorem d1_3 : decode prog_37_method_6_code 3 = .ok (.astore_n 1, 1) := by decide +kernel
theorem d1_4 : decode prog_37_method_6_code 4 = .ok (.iload_n 0, 1) := by decide +kernel
theorem d1_5 : decode prog_37_method_6_code 5 = .ok (.aload_n 1, 1) := by decide +kernel
theorem d1_6 : decode prog_37_method_6_code 6 = .ok (.arraylength, 1) := by decide +kernel
theorem d1_7 : decode prog_37_method_6_code 7 = .ok (.if_icmp .ge 9, 3) := by decide +kernel
theorem d1_10 : decode prog_37_method_6_code 10 = .ok (.aload_n 1, 1) := by decide +kernel
theorem d1_11 : decode prog_37_method_6_code 11 = .ok (.iload_n 0, 1) := by decide +kernel
theorem d1_12 : decode prog_37_method_6_code 12 = .ok (.aaload, 1) := by decide +kernel
theorem d1_13 : decode prog_37_method_6_code 13 = .ok (.goto 4, 3) := by decide +kernel
theorem d1_17 : decode prog_37_method_6_code 17 = .ok (.areturn, 1) := by decide +kernel
set_option maxRecDepth 65536 in
set_option maxHeartbeats 40000000 in
theorem rmof0 (l : Launch) (Z : State) (a0 : Array Value) (hw : ∀ d ∈ tables_1, d.before a0 Z = true) (ws : List Jvm.Cond) (aV : Addr) (kV : ClassId) (a0v : Addr) (a1v : Addr) (a2v : Addr) (h0 : Heap) (n0 : Nat) (Z0 : n0 ≤ h0.size) (SV : Sta Z h0 "com/example/orbweaver/orbweaver/GiopVersion" "$VALUES" "[Lcom/example/orbweaver/orbweaver/GiopVersion;" (.ref aV)) (AA : Arv Z h0 aV kV (.object "com/example/orbweaver/orbweaver/GiopVersion") (3 : Int32) [.ref a0v, .ref a1v, .ref a2v] .null) (EV : Exa Z h0 aV "[Lcom/example/orbweaver/orbweaver/GiopVersion;") :
    MetFree l (⟨"com/example/orbweaver/orbweaver/GiopVersion", "ofMinor", "(I)Lcom/example/orbweaver/orbweaver/GiopVersion;"⟩ : MethodName) (head1 (Jvm.Cond.code (⟨"com/example/orbweaver/orbweaver/GiopVersion", "ofMinor", "(I)Lcom/example/orbweaver/orbweaver/GiopVersion;"⟩ : MethodName) prog_37_method_6_code 2 (some (.object "com/example/orbweaver/orbweaver/GiopVersion")) :: ws) ({ frames := 2, cells := 1, slots := 3, locals := 32 } : Room)) (fun a U => a = #[(.int (0 : Int32))] ∧ Z.Warmed39 U.vm ∧ U.heap = h0) (fun _ _ _ _ _ => True) (fun _ U o U' => ∃ v L, o = .returned v ∧ Qof0 Z aV kV a0v a1v a2v h0 n0 v U'.heap L ∧ FrameEnd U o U' L ({ frames := 2, cells := 1, slots := 3, locals := 32 } : Room).cells ({ frames := 2, cells := 1, slots := 3, locals := 32 } : Room).slots) := by
  refine MetFree.of_bodySF (plainFor_of_name pn_com_example_orbweaver_orbweaver_GiopVersion) hisR ?_
  intro p e s m args below meth c s₁ Bd hml0 hP hK
  obtain ⟨rfl, hZ, hh⟩ := hP
  have hx := Bd.exec
  have hby := Bd.bytes
  have hml : c.maxLocals = 2 := hml0
  have hown : s.vm.findClass "com/example/orbweaver/orbweaver/GiopVersion" = some m.cls := findClass_of_methodNamed Bd.named
  have hnm := (name_of_methodNamed Bd.named Bd.method).1
  have X0 : Stand p l e ({ frames := 2, cells := 1, slots := 3, locals := 32 } : Room) s m #[(.int (0 : Int32))] below meth c s₁ [] 0 0 := Stand.of_body Bd
  have e0 : s₁.heap = h0 := by rw [← hh, Bd.state]; rfl
  have N0 := Fr.nil n0
  have pre0 : ∀ t, Steps p.tables e below (s₁.setTop (mkF m 0 #[.val (.int (0 : Int32)), .unset] [])) t → Steps p.tables e below (s₁.setTop (entryFrame m #[(.int (0 : Int32))] 2)) t := fun t k => castTop (ef_of0 m (0 : Int32)) k
  obtain ⟨_, _, ⟨T5, L5, k5, n5⟩, -, X5, ⟨Lc5, hQ5, l5, y5, z5⟩, st5⟩ := Jvm.LawKit.callS X0 hx (y := (⟨"com/example/orbweaver/orbweaver/GiopVersion", "values", "()[Lcom/example/orbweaver/orbweaver/GiopVersion;"⟩ : MethodName)) hown (mvT hZ (hw _ (List.mem_of_getElem? (i := 5) rfl))) (mvT hZ (hw _ (List.mem_of_getElem? (i := 6) rfl))) (mvT hZ (hw _ (List.mem_of_getElem? (i := 3) rfl))) (mvT hZ (hw _ (List.mem_of_getElem? (i := 7) rfl))) (by decide) (backOf (W := 0) (rmvals l Z a0 hw [] aV kV a0v a1v a2v h0 n0 Z0 SV AA EV) hZ (hw _ (List.mem_of_getElem? (i := 7) rfl)) (hw _ (List.mem_of_getElem? (i := 3) rfl)) (by decide) (by decide)) (g := (mkF m 0 #[.val (.int (0 : Int32)), .unset] [])) rfl (by rw [hml]; rfl) (argsL := []) (rest := []) (lenOf pd____Lcom_example_orbweaver_orbweaver_GiopVersion_ rfl) rfl (by show 2 * 0 + _ ≤ _; exact Nat.le_of_eq rfl) (hb hby d1_0) (fun _ _ => ⟨rfl, e0, (by decide : 0 + 1 ≤ _), (by decide : 0 + 3 ≤ _)⟩)
  dsimp only [Pt.U, Pt.locs, Pt.cells, Pt.slots] at X5 l5 y5 z5 st5 hQ5
  subst l5 y5 z5
  obtain ⟨rfl, N5q, EX5, AV5⟩ := hQ5
  have N5 := Fr.app N0 N5q
  have Z5 := Nat.le_trans Z0 EX5.1
  have K5 := (Keep.refl h0 []).ext EX5
  obtain ⟨c6, Ar6, -, S6, M6, -, -⟩ := id AV5
  obtain ⟨c7, Ar7, q7, S7, M7, H7, G7⟩ := id AV5
  have hin7 : ¬ ((0 : Int32) < 0 ∨ c7.slots.size ≤ ((0 : Int32)).toNatClampNeg) := inb_of S7 ⟨by decide, by decide⟩
  have hat7 : c7.slots[((0 : Int32)).toNatClampNeg]? = some (.ref a0v) := H7 _ (by rw [S7]; decide)
  have pre8 : ∀ t, Steps p.tables e below (T5.setTop (mkF m 17 #[.val (.int (0 : Int32)), .val (.ref h0.size)] [(.ref a0v)])) t → Steps p.tables e below (s₁.setTop (mkF m 0 #[.val (.int (0 : Int32)), .unset] [])) t := by
    intro t kt
    show Steps p.tables e below (s₁.setTop (mkF m 0 #[.val (.int (0 : Int32)), .unset] [])) _
    refine st5 _ ?_
    show Steps p.tables e below (T5.setTop (mkF m 3 #[.val (.int (0 : Int32)), .unset] [(.ref h0.size)])) _
    refine XS.astoreN X5.here hx rfl (hb hby d1_3) rfl rfl (l' := #[.val (.int (0 : Int32)), .val (.ref h0.size)]) rfl ?_
    show Steps p.tables e below (T5.setTop (mkF m 4 #[.val (.int (0 : Int32)), .val (.ref h0.size)] [])) _
    refine XS.iloadN X5.here hx rfl (hb hby d1_4) rfl ?_
    show Steps p.tables e below (T5.setTop (mkF m 5 #[.val (.int (0 : Int32)), .val (.ref h0.size)] [(.int (0 : Int32))])) _
    refine XS.aloadN X5.here hx rfl (hb hby d1_5) rfl rfl ?_
    show Steps p.tables e below (T5.setTop (mkF m 6 #[.val (.int (0 : Int32)), .val (.ref h0.size)] [(.ref h0.size), (.int (0 : Int32))])) _
    refine X5.arraylength hx Ar6.1 (State.isArrayOf_alike hZ.alike Ar6.2.1) (g := (mkF m 6 #[.val (.int (0 : Int32)), .val (.ref h0.size)] [(.ref h0.size), (.int (0 : Int32))])) rfl rfl (hb hby d1_6) _ ?_
    rw [len_of S6 M6]
    show Steps p.tables e below (T5.setTop (mkF m 7 #[.val (.int (0 : Int32)), .val (.ref h0.size)] [(.int (3 : Int32)), (.int (0 : Int32))])) _
    refine XS.icmpNo X5.here hx rfl (hb hby d1_7) rfl (tlt (by decide : (0 : Int32) < (3 : Int32))).2.1 ?_
    show Steps p.tables e below (T5.setTop (mkF m 10 #[.val (.int (0 : Int32)), .val (.ref h0.size)] [])) _
    refine XS.aloadN X5.here hx rfl (hb hby d1_10) rfl rfl ?_
    show Steps p.tables e below (T5.setTop (mkF m 11 #[.val (.int (0 : Int32)), .val (.ref h0.size)] [(.ref h0.size)])) _
    refine XS.iloadN X5.here hx rfl (hb hby d1_11) rfl ?_
    show Steps p.tables e below (T5.setTop (mkF m 12 #[.val (.int (0 : Int32)), .val (.ref h0.size)] [(.int (0 : Int32)), (.ref h0.size)])) _
    refine X5.aaload hx (j := (0 : Int32)) (v := (.ref a0v)) Ar7.1 (State.isArrayOf_alike hZ.alike Ar7.2.1) rfl Ar7.2.2 hin7 hat7 (g := (mkF m 12 #[.val (.int (0 : Int32)), .val (.ref h0.size)] [(.int (0 : Int32)), (.ref h0.size)])) rfl rfl (hb hby d1_12) _ ?_
    show Steps p.tables e below (T5.setTop (mkF m 13 #[.val (.int (0 : Int32)), .val (.ref h0.size)] [(.ref a0v)])) _
    refine XS.goto X5.here hx rfl (pc0 := 13) (pc' := 17) rfl (hb hby d1_13) (by decide) (by decide) ?_
    exact kt
  obtain ⟨fs, hr, hrun, hended, hW, hsame⟩ := X5.leave (v := some (.ref a0v)) (fun h => by rw [Bd.returns] at h; cases h)
  refine ⟨_, _, (pre0 _ (pre8 _ ?_)), hrun, hended, _, _, rfl, ?_, ⟨_, rfl⟩, hW, hsame.mono (by decide) (by decide)⟩
  · show Steps p.tables e below (T5.setTop (mkF m 17 #[.val (.int (0 : Int32)), .val (.ref h0.size)] [(.ref a0v)])) _
    exact retOut X5 hx (t := (.object "com/example/orbweaver/orbweaver/GiopVersion")) Bd.returns rfl (Or.inr (Or.inr (Or.inr (Or.inr ⟨rfl, rfl, rfl⟩)))) (hb hby d1_17) hr
  · show Qof0 Z aV kV a0v a1v a2v h0 n0 _ T5.heap _
    exact ⟨rfl, N5, EX5⟩
theorem ef_of1 (m : MethodId) (x0 : Int32) : entryFrame m #[(.int x0)] 2 = mkF m 0 #[.val (.int x0), .unset] [] := by (first | (simp [entryFrame, mkF, argsToLocals, Value.category]; done) | rfl)
def Qof1 (Z : State) (aV : Addr) (kV : ClassId) (a0v : Addr) (a1v : Addr) (a2v : Addr) (h0 : Heap) (n0 : Nat) (v : Option Value) (h : Heap) (L : List Loc) : Prop := v = some (.ref a1v) ∧ Fr n0 L ∧ Ext h0 h
set_option maxRecDepth 65536 in
set_option maxHeartbeats 40000000 in
theorem rmof1 (l : Launch) (Z : State) (a0 : Array Value) (hw : ∀ d ∈ tables_1, d.before a0 Z = true) (ws : List Jvm.Cond) (aV : Addr) (kV : ClassId) (a0v : Addr) (a1v : Addr) (a2v : Addr) (h0 : Heap) (n0 : Nat) (Z0 : n0 ≤ h0.size) (SV : Sta Z h0 "com/example/orbweaver/orbweaver/GiopVersion" "$VALUES" "[Lcom/example/orbweaver/orbweaver/GiopVersion;" (.ref aV)) (AA : Arv Z h0 aV kV (.object "com/example/orbweaver/orbweaver/GiopVersion") (3 : Int32) [.ref a0v, .ref a1v, .ref a2v] .null) (EV : Exa Z h0 aV "[Lcom/example/orbweaver/orbweaver/GiopVersion;") :
    MetFree l (⟨"com/example/orbweaver/orbweaver/GiopVersion", "ofMinor", "(I)Lcom/example/orbweaver/orbweaver/GiopVersion;"⟩ : MethodName) (head1 (Jvm.Cond.code (⟨"com/example/orbweaver/orbweaver/GiopVersion", "ofMinor", "(I)Lcom/example/orbweaver/orbweaver/GiopVersion;"⟩ : MethodName) prog_37_method_6_code 2 (some (.object "com/example/orbweaver/orbweaver/GiopVersion")) :: ws) ({ frames := 2, cells := 1, slots := 3, locals := 32 } : Room)) (fun a U => a = #[(.int (1 : Int32))] ∧ Z.Warmed39 U.vm ∧ U.heap = h0) (fun _ _ _ _ _ => True) (fun _ U o U' => ∃ v L, o = .returned v ∧ Qof1 Z aV kV a0v a1v a2v h0 n0 v U'.heap L ∧ FrameEnd U o U' L ({ frames := 2, cells := 1, slots := 3, locals := 32 } : Room).cells ({ frames := 2, cells := 1, slots := 3, locals := 32 } : Room).slots) := by
  refine MetFree.of_bodySF (plainFor_of_name pn_com_example_orbweaver_orbweaver_GiopVersion) hisR ?_
  intro p e s m args below meth c s₁ Bd hml0 hP hK
  obtain ⟨rfl, hZ, hh⟩ := hP
  have hx := Bd.exec
  have hby := Bd.bytes
  have hml : c.maxLocals = 2 := hml0
  have hown : s.vm.findClass "com/example/orbweaver/orbweaver/GiopVersion" = some m.cls := findClass_of_methodNamed Bd.named
  have hnm := (name_of_methodNamed Bd.named Bd.method).1
  have X0 : Stand p l e ({ frames := 2, cells := 1, slots := 3, locals := 32 } : Room) s m #[(.int (1 : Int32))] below meth c s₁ [] 0 0 := Stand.of_body Bd
  have e0 : s₁.heap = h0 := by rw [← hh, Bd.state]; rfl
  have N0 := Fr.nil n0
  have pre0 : ∀ t, Steps p.tables e below (s₁.setTop (mkF m 0 #[.val (.int (1 : Int32)), .unset] [])) t → Steps p.tables e below (s₁.setTop (entryFrame m #[(.int (1 : Int32))] 2)) t := fun t k => castTop (ef_of1 m (1 : Int32)) k
  obtain ⟨_, _, ⟨T9, L9, k9, n9⟩, -, X9, ⟨Lc9, hQ9, l9, y9, z9⟩, st9⟩ := Jvm.LawKit.callS X0 hx (y := (⟨"com/example/orbweaver/orbweaver/GiopVersion", "values", "()[Lcom/example/orbweaver/orbweaver/GiopVersion;"⟩ : MethodName)) hown (mvT hZ (hw _ (List.mem_of_getElem? (i := 5) rfl))) (mvT hZ (hw _ (List.mem_of_getElem? (i := 6) rfl))) (mvT hZ (hw _ (List.mem_of_getElem? (i := 3) rfl))) (mvT hZ (hw _ (List.mem_of_getElem? (i := 7) rfl))) (by decide) (backOf (W := 0) (rmvals l Z a0 hw [] aV kV a0v a1v a2v h0 n0 Z0 SV AA EV) hZ (hw _ (List.mem_of_getElem? (i := 7) rfl)) (hw _ (List.mem_of_getElem? (i := 3) rfl)) (by decide) (by decide)) (g := (mkF m 0 #[.val (.int (1 : Int32)), .unset] [])) rfl (by rw [hml]; rfl) (argsL := []) (rest := []) (lenOf pd____Lcom_example_orbweaver_orbweaver_GiopVersion_ rfl) rfl (by show 2 * 0 + _ ≤ _; exact Nat.le_of_eq rfl) (hb hby d1_0) (fun _ _ => ⟨rfl, e0, (by decide : 0 + 1 ≤ _), (by decide : 0 + 3 ≤ _)⟩)
  dsimp only [Pt.U, Pt.locs, Pt.cells, Pt.slots] at X9 l9 y9 z9 st9 hQ9
  subst l9 y9 z9
  obtain ⟨rfl, N9q, EX9, AV9⟩ := hQ9
  have N9 := Fr.app N0 N9q
  have Z9 := Nat.le_trans Z0 EX9.1
  have K9 := (Keep.refl h0 []).ext EX9
  obtain ⟨c10, Ar10, -, S10, M10, -, -⟩ := id AV9
  obtain ⟨c11, Ar11, q11, S11, M11, H11, G11⟩ := id AV9
  have hin11 : ¬ ((1 : Int32) < 0 ∨ c11.slots.size ≤ ((1 : Int32)).toNatClampNeg) := inb_of S11 ⟨by decide, by decide⟩
  have hat11 : c11.slots[((1 : Int32)).toNatClampNeg]? = some (.ref a1v) := H11 _ (by rw [S11]; decide)
  have pre12 : ∀ t, Steps p.tables e below (T9.setTop (mkF m 17 #[.val (.int (1 : Int32)), .val (.ref h0.size)] [(.ref a1v)])) t → Steps p.tables e below (s₁.setTop (mkF m 0 #[.val (.int (1 : Int32)), .unset] [])) t := by
    intro t kt
    show Steps p.tables e below (s₁.setTop (mkF m 0 #[.val (.int (1 : Int32)), .unset] [])) _
    refine st9 _ ?_
    show Steps p.tables e below (T9.setTop (mkF m 3 #[.val (.int (1 : Int32)), .unset] [(.ref h0.size)])) _
    refine XS.astoreN X9.here hx rfl (hb hby d1_3) rfl rfl (l' := #[.val (.int (1 : Int32)), .val (.ref h0.size)]) rfl ?_
    show Steps p.tables e below (T9.setTop (mkF m 4 #[.val (.int (1 : Int32)), .val (.ref h0.size)] [])) _
    refine XS.iloadN X9.here hx rfl (hb hby d1_4) rfl ?_
    show Steps p.tables e below (T9.setTop (mkF m 5 #[.val (.int (1 : Int32)), .val (.ref h0.size)] [(.int (1 : Int32))])) _
    refine XS.aloadN X9.here hx rfl (hb hby d1_5) rfl rfl ?_
    show Steps p.tables e below (T9.setTop (mkF m 6 #[.val (.int (1 : Int32)), .val (.ref h0.size)] [(.ref h0.size), (.int (1 : Int32))])) _
    refine X9.arraylength hx Ar10.1 (State.isArrayOf_alike hZ.alike Ar10.2.1) (g := (mkF m 6 #[.val (.int (1 : Int32)), .val (.ref h0.size)] [(.ref h0.size), (.int (1 : Int32))])) rfl rfl (hb hby d1_6) _ ?_
    rw [len_of S10 M10]
    show Steps p.tables e below (T9.setTop (mkF m 7 #[.val (.int (1 : Int32)), .val (.ref h0.size)] [(.int (3 : Int32)), (.int (1 : Int32))])) _
    refine XS.icmpNo X9.here hx rfl (hb hby d1_7) rfl (tlt (by decide : (1 : Int32) < (3 : Int32))).2.1 ?_
    show Steps p.tables e below (T9.setTop (mkF m 10 #[.val (.int (1 : Int32)), .val (.ref h0.size)] [])) _
    refine XS.aloadN X9.here hx rfl (hb hby d1_10) rfl rfl ?_
    show Steps p.tables e below (T9.setTop (mkF m 11 #[.val (.int (1 : Int32)), .val (.ref h0.size)] [(.ref h0.size)])) _
    refine XS.iloadN X9.here hx rfl (hb hby d1_11) rfl ?_
    show Steps p.tables e below (T9.setTop (mkF m 12 #[.val (.int (1 : Int32)), .val (.ref h0.size)] [(.int (1 : Int32)), (.ref h0.size)])) _
    refine X9.aaload hx (j := (1 : Int32)) (v := (.ref a1v)) Ar11.1 (State.isArrayOf_alike hZ.alike Ar11.2.1) rfl Ar11.2.2 hin11 hat11 (g := (mkF m 12 #[.val (.int (1 : Int32)), .val (.ref h0.size)] [(.int (1 : Int32)), (.ref h0.size)])) rfl rfl (hb hby d1_12) _ ?_
    show Steps p.tables e below (T9.setTop (mkF m 13 #[.val (.int (1 : Int32)), .val (.ref h0.size)] [(.ref a1v)])) _
    refine XS.goto X9.here hx rfl (pc0 := 13) (pc' := 17) rfl (hb hby d1_13) (by decide) (by decide) ?_
    exact kt
  obtain ⟨fs, hr, hrun, hended, hW, hsame⟩ := X9.leave (v := some (.ref a1v)) (fun h => by rw [Bd.returns] at h; cases h)
  refine ⟨_, _, (pre0 _ (pre12 _ ?_)), hrun, hended, _, _, rfl, ?_, ⟨_, rfl⟩, hW, hsame.mono (by decide) (by decide)⟩
  · show Steps p.tables e below (T9.setTop (mkF m 17 #[.val (.int (1 : Int32)), .val (.ref h0.size)] [(.ref a1v)])) _
    exact retOut X9 hx (t := (.object "com/example/orbweaver/orbweaver/GiopVersion")) Bd.returns rfl (Or.inr (Or.inr (Or.inr (Or.inr ⟨rfl, rfl, rfl⟩)))) (hb hby d1_17) hr
  · show Qof1 Z aV kV a0v a1v a2v h0 n0 _ T9.heap _
    exact ⟨rfl, N9, EX9⟩
theorem ef_of2 (m : MethodId) (x0 : Int32) : entryFrame m #[(.int x0)] 2 = mkF m 0 #[.val (.int x0), .unset] [] := by (first | (simp [entryFrame, mkF, argsToLocals, Value.category]; done) | rfl)
def Qof2 (Z : State) (aV : Addr) (kV : ClassId) (a0v : Addr) (a1v : Addr) (a2v : Addr) (h0 : Heap) (n0 : Nat) (v : Option Value) (h : Heap) (L : List Loc) : Prop := v = some (.ref a2v) ∧ Fr n0 L ∧ Ext h0 h
set_option maxRecDepth 65536 in
set_option maxHeartbeats 40000000 in
theorem rmof2 (l : Launch) (Z : State) (a0 : Array Value) (hw : ∀ d ∈ tables_1, d.before a0 Z = true) (ws : List Jvm.Cond) (aV : Addr) (kV : ClassId) (a0v : Addr) (a1v : Addr) (a2v : Addr) (h0 : Heap) (n0 : Nat) (Z0 : n0 ≤ h0.size) (SV : Sta Z h0 "com/example/orbweaver/orbweaver/GiopVersion" "$VALUES" "[Lcom/example/orbweaver/orbweaver/GiopVersion;" (.ref aV)) (AA : Arv Z h0 aV kV (.object "com/example/orbweaver/orbweaver/GiopVersion") (3 : Int32) [.ref a0v, .ref a1v, .ref a2v] .null) (EV : Exa Z h0 aV "[Lcom/example/orbweaver/orbweaver/GiopVersion;") :
    MetFree l (⟨"com/example/orbweaver/orbweaver/GiopVersion", "ofMinor", "(I)Lcom/example/orbweaver/orbweaver/GiopVersion;"⟩ : MethodName) (head1 (Jvm.Cond.code (⟨"com/example/orbweaver/orbweaver/GiopVersion", "ofMinor", "(I)Lcom/example/orbweaver/orbweaver/GiopVersion;"⟩ : MethodName) prog_37_method_6_code 2 (some (.object "com/example/orbweaver/orbweaver/GiopVersion")) :: ws) ({ frames := 2, cells := 1, slots := 3, locals := 32 } : Room)) (fun a U => a = #[(.int (2 : Int32))] ∧ Z.Warmed39 U.vm ∧ U.heap = h0) (fun _ _ _ _ _ => True) (fun _ U o U' => ∃ v L, o = .returned v ∧ Qof2 Z aV kV a0v a1v a2v h0 n0 v U'.heap L ∧ FrameEnd U o U' L ({ frames := 2, cells := 1, slots := 3, locals := 32 } : Room).cells ({ frames := 2, cells := 1, slots := 3, locals := 32 } : Room).slots) := by
  refine MetFree.of_bodySF (plainFor_of_name pn_com_example_orbweaver_orbweaver_GiopVersion) hisR ?_
  intro p e s m args below meth c s₁ Bd hml0 hP hK
  obtain ⟨rfl, hZ, hh⟩ := hP
  have hx := Bd.exec
  have hby := Bd.bytes
  have hml : c.maxLocals = 2 := hml0
  have hown : s.vm.findClass "com/example/orbweaver/orbweaver/GiopVersion" = some m.cls := findClass_of_methodNamed Bd.named
  have hnm := (name_of_methodNamed Bd.named Bd.method).1
  have X0 : Stand p l e ({ frames := 2, cells := 1, slots := 3, locals := 32 } : Room) s m #[(.int (2 : Int32))] below meth c s₁ [] 0 0 := Stand.of_body Bd
  have e0 : s₁.heap = h0 := by rw [← hh, Bd.state]; rfl
  have N0 := Fr.nil n0
  have pre0 : ∀ t, Steps p.tables e below (s₁.setTop (mkF m 0 #[.val (.int (2 : Int32)), .unset] [])) t → Steps p.tables e below (s₁.setTop (entryFrame m #[(.int (2 : Int32))] 2)) t := fun t k => castTop (ef_of2 m (2 : Int32)) k
  obtain ⟨_, _, ⟨T13, L13, k13, n13⟩, -, X13, ⟨Lc13, hQ13, l13, y13, z13⟩, st13⟩ := Jvm.LawKit.callS X0 hx (y := (⟨"com/example/orbweaver/orbweaver/GiopVersion", "values", "()[Lcom/example/orbweaver/orbweaver/GiopVersion;"⟩ : MethodName)) hown (mvT hZ (hw _ (List.mem_of_getElem? (i := 5) rfl))) (mvT hZ (hw _ (List.mem_of_getElem? (i := 6) rfl))) (mvT hZ (hw _ (List.mem_of_getElem? (i := 3) rfl))) (mvT hZ (hw _ (List.mem_of_getElem? (i := 7) rfl))) (by decide) (backOf (W := 0) (rmvals l Z a0 hw [] aV kV a0v a1v a2v h0 n0 Z0 SV AA EV) hZ (hw _ (List.mem_of_getElem? (i := 7) rfl)) (hw _ (List.mem_of_getElem? (i := 3) rfl)) (by decide) (by decide)) (g := (mkF m 0 #[.val (.int (2 : Int32)), .unset] [])) rfl (by rw [hml]; rfl) (argsL := []) (rest := []) (lenOf pd____Lcom_example_orbweaver_orbweaver_GiopVersion_ rfl) rfl (by show 2 * 0 + _ ≤ _; exact Nat.le_of_eq rfl) (hb hby d1_0) (fun _ _ => ⟨rfl, e0, (by decide : 0 + 1 ≤ _), (by decide : 0 + 3 ≤ _)⟩)
  dsimp only [Pt.U, Pt.locs, Pt.cells, Pt.slots] at X13 l13 y13 z13 st13 hQ13
  subst l13 y13 z13
  obtain ⟨rfl, N13q, EX13, AV13⟩ := hQ13
  have N13 := Fr.app N0 N13q
  have Z13 := Nat.le_trans Z0 EX13.1
  have K13 := (Keep.refl h0 []).ext EX13
  obtain ⟨c14, Ar14, -, S14, M14, -, -⟩ := id AV13
  obtain ⟨c15, Ar15, q15, S15, M15, H15, G15⟩ := id AV13
  have hin15 : ¬ ((2 : Int32) < 0 ∨ c15.slots.size ≤ ((2 : Int32)).toNatClampNeg) := inb_of S15 ⟨by decide, by decide⟩
  have hat15 : c15.slots[((2 : Int32)).toNatClampNeg]? = some (.ref a2v) := H15 _ (by rw [S15]; decide)
  have pre16 : ∀ t, Steps p.tables e below (T13.setTop (mkF m 17 #[.val (.int (2 : Int32)), .val (.ref h0.size)] [(.ref a2v)])) t → Steps p.tables e below (s₁.setTop (mkF m 0 #[.val (.int (2 : Int32)), .unset] [])) t := by
    intro t kt
    show Steps p.tables e below (s₁.setTop (mkF m 0 #[.val (.int (2 : Int32)), .unset] [])) _
    refine st13 _ ?_
    show Steps p.tables e below (T13.setTop (mkF m 3 #[.val (.int (2 : Int32)), .unset] [(.ref h0.size)])) _
    refine XS.astoreN X13.here hx rfl (hb hby d1_3) rfl rfl (l' := #[.val (.int (2 : Int32)), .val (.ref h0.size)]) rfl ?_
    show Steps p.tables e below (T13.setTop (mkF m 4 #[.val (.int (2 : Int32)), .val (.ref h0.size)] [])) _
    refine XS.iloadN X13.here hx rfl (hb hby d1_4) rfl ?_
    show Steps p.tables e below (T13.setTop (mkF m 5 #[.val (.int (2 : Int32)), .val (.ref h0.size)] [(.int (2 : Int32))])) _
    refine XS.aloadN X13.here hx rfl (hb hby d1_5) rfl rfl ?_
    show Steps p.tables e below (T13.setTop (mkF m 6 #[.val (.int (2 : Int32)), .val (.ref h0.size)] [(.ref h0.size), (.int (2 : Int32))])) _
    refine X13.arraylength hx Ar14.1 (State.isArrayOf_alike hZ.alike Ar14.2.1) (g := (mkF m 6 #[.val (.int (2 : Int32)), .val (.ref h0.size)] [(.ref h0.size), (.int (2 : Int32))])) rfl rfl (hb hby d1_6) _ ?_
    rw [len_of S14 M14]
    show Steps p.tables e below (T13.setTop (mkF m 7 #[.val (.int (2 : Int32)), .val (.ref h0.size)] [(.int (3 : Int32)), (.int (2 : Int32))])) _
    refine XS.icmpNo X13.here hx rfl (hb hby d1_7) rfl (tlt (by decide : (2 : Int32) < (3 : Int32))).2.1 ?_
    show Steps p.tables e below (T13.setTop (mkF m 10 #[.val (.int (2 : Int32)), .val (.ref h0.size)] [])) _
    refine XS.aloadN X13.here hx rfl (hb hby d1_10) rfl rfl ?_
    show Steps p.tables e below (T13.setTop (mkF m 11 #[.val (.int (2 : Int32)), .val (.ref h0.size)] [(.ref h0.size)])) _
    refine XS.iloadN X13.here hx rfl (hb hby d1_11) rfl ?_
    show Steps p.tables e below (T13.setTop (mkF m 12 #[.val (.int (2 : Int32)), .val (.ref h0.size)] [(.int (2 : Int32)), (.ref h0.size)])) _
    refine X13.aaload hx (j := (2 : Int32)) (v := (.ref a2v)) Ar15.1 (State.isArrayOf_alike hZ.alike Ar15.2.1) rfl Ar15.2.2 hin15 hat15 (g := (mkF m 12 #[.val (.int (2 : Int32)), .val (.ref h0.size)] [(.int (2 : Int32)), (.ref h0.size)])) rfl rfl (hb hby d1_12) _ ?_
    show Steps p.tables e below (T13.setTop (mkF m 13 #[.val (.int (2 : Int32)), .val (.ref h0.size)] [(.ref a2v)])) _
    refine XS.goto X13.here hx rfl (pc0 := 13) (pc' := 17) rfl (hb hby d1_13) (by decide) (by decide) ?_
    exact kt
  obtain ⟨fs, hr, hrun, hended, hW, hsame⟩ := X13.leave (v := some (.ref a2v)) (fun h => by rw [Bd.returns] at h; cases h)
  refine ⟨_, _, (pre0 _ (pre16 _ ?_)), hrun, hended, _, _, rfl, ?_, ⟨_, rfl⟩, hW, hsame.mono (by decide) (by decide)⟩
  · show Steps p.tables e below (T13.setTop (mkF m 17 #[.val (.int (2 : Int32)), .val (.ref h0.size)] [(.ref a2v)])) _
    exact retOut X13 hx (t := (.object "com/example/orbweaver/orbweaver/GiopVersion")) Bd.returns rfl (Or.inr (Or.inr (Or.inr (Or.inr ⟨rfl, rfl, rfl⟩)))) (hb hby d1_17) hr
  · show Qof2 Z aV kV a0v a1v a2v h0 n0 _ T13.heap _
    exact ⟨rfl, N13, EX13⟩
theorem ef_ofN (m : MethodId) (x0 : Int32) : entryFrame m #[(.int x0)] 2 = mkF m 0 #[.val (.int x0), .unset] [] := by (first | (simp [entryFrame, mkF, argsToLocals, Value.category]; done) | rfl)
def QofN (Z : State) (p1 : Int32) (aV : Addr) (kV : ClassId) (a0v : Addr) (a1v : Addr) (a2v : Addr) (h0 : Heap) (n0 : Nat) (v : Option Value) (h : Heap) (L : List Loc) : Prop := v = some .null ∧ Fr n0 L ∧ Ext h0 h
theorem d1_16 : decode prog_37_method_6_code 16 = .ok (.aconst_null, 1) := by decide +kernel
set_option maxRecDepth 65536 in
set_option maxHeartbeats 40000000 in
theorem rmofN (l : Launch) (Z : State) (a0 : Array Value) (hw : ∀ d ∈ tables_1, d.before a0 Z = true) (ws : List Jvm.Cond) (p1 : Int32) (aV : Addr) (kV : ClassId) (a0v : Addr) (a1v : Addr) (a2v : Addr) (h0 : Heap) (n0 : Nat) (Z0 : n0 ≤ h0.size) (SV : Sta Z h0 "com/example/orbweaver/orbweaver/GiopVersion" "$VALUES" "[Lcom/example/orbweaver/orbweaver/GiopVersion;" (.ref aV)) (AA : Arv Z h0 aV kV (.object "com/example/orbweaver/orbweaver/GiopVersion") (3 : Int32) [.ref a0v, .ref a1v, .ref a2v] .null) (EV : Exa Z h0 aV "[Lcom/example/orbweaver/orbweaver/GiopVersion;") (hge : ¬ (p1 < (3 : Int32))) :
    MetFree l (⟨"com/example/orbweaver/orbweaver/GiopVersion", "ofMinor", "(I)Lcom/example/orbweaver/orbweaver/GiopVersion;"⟩ : MethodName) (head1 (Jvm.Cond.code (⟨"com/example/orbweaver/orbweaver/GiopVersion", "ofMinor", "(I)Lcom/example/orbweaver/orbweaver/GiopVersion;"⟩ : MethodName) prog_37_method_6_code 2 (some (.object "com/example/orbweaver/orbweaver/GiopVersion")) :: ws) ({ frames := 2, cells := 1, slots := 3, locals := 32 } : Room)) (fun a U => a = #[(.int p1)] ∧ Z.Warmed39 U.vm ∧ U.heap = h0) (fun _ _ _ _ _ => True) (fun _ U o U' => ∃ v L, o = .returned v ∧ QofN Z p1 aV kV a0v a1v a2v h0 n0 v U'.heap L ∧ FrameEnd U o U' L ({ frames := 2, cells := 1, slots := 3, locals := 32 } : Room).cells ({ frames := 2, cells := 1, slots := 3, locals := 32 } : Room).slots) := by
  refine MetFree.of_bodySF (plainFor_of_name pn_com_example_orbweaver_orbweaver_GiopVersion) hisR ?_
  intro p e s m args below meth c s₁ Bd hml0 hP hK
  obtain ⟨rfl, hZ, hh⟩ := hP
  have hx := Bd.exec
  have hby := Bd.bytes
  have hml : c.maxLocals = 2 := hml0
  have hown : s.vm.findClass "com/example/orbweaver/orbweaver/GiopVersion" = some m.cls := findClass_of_methodNamed Bd.named
  have hnm := (name_of_methodNamed Bd.named Bd.method).1
  have X0 : Stand p l e ({ frames := 2, cells := 1, slots := 3, locals := 32 } : Room) s m #[(.int p1)] below meth c s₁ [] 0 0 := Stand.of_body Bd
  have e0 : s₁.heap = h0 := by rw [← hh, Bd.state]; rfl
  have N0 := Fr.nil n0
  have pre0 : ∀ t, Steps p.tables e below (s₁.setTop (mkF m 0 #[.val (.int p1), .unset] [])) t → Steps p.tables e below (s₁.setTop (entryFrame m #[(.int p1)] 2)) t := fun t k => castTop (ef_ofN m p1) k
  obtain ⟨_, _, ⟨T17, L17, k17, n17⟩, -, X17, ⟨Lc17, hQ17, l17, y17, z17⟩, st17⟩ := Jvm.LawKit.callS X0 hx (y := (⟨"com/example/orbweaver/orbweaver/GiopVersion", "values", "()[Lcom/example/orbweaver/orbweaver/GiopVersion;"⟩ : MethodName)) hown (mvT hZ (hw _ (List.mem_of_getElem? (i := 5) rfl))) (mvT hZ (hw _ (List.mem_of_getElem? (i := 6) rfl))) (mvT hZ (hw _ (List.mem_of_getElem? (i := 3) rfl))) (mvT hZ (hw _ (List.mem_of_getElem? (i := 7) rfl))) (by decide) (backOf (W := 0) (rmvals l Z a0 hw [] aV kV a0v a1v a2v h0 n0 Z0 SV AA EV) hZ (hw _ (List.mem_of_getElem? (i := 7) rfl)) (hw _ (List.mem_of_getElem? (i := 3) rfl)) (by decide) (by decide)) (g := (mkF m 0 #[.val (.int p1), .unset] [])) rfl (by rw [hml]; rfl) (argsL := []) (rest := []) (lenOf pd____Lcom_example_orbweaver_orbweaver_GiopVersion_ rfl) rfl (by show 2 * 0 + _ ≤ _; exact Nat.le_of_eq rfl) (hb hby d1_0) (fun _ _ => ⟨rfl, e0, (by decide : 0 + 1 ≤ _), (by decide : 0 + 3 ≤ _)⟩)
  dsimp only [Pt.U, Pt.locs, Pt.cells, Pt.slots] at X17 l17 y17 z17 st17 hQ17
  subst l17 y17 z17
  obtain ⟨rfl, N17q, EX17, AV17⟩ := hQ17
  have N17 := Fr.app N0 N17q
  have Z17 := Nat.le_trans Z0 EX17.1
  have K17 := (Keep.refl h0 []).ext EX17
  obtain ⟨c18, Ar18, -, S18, M18, -, -⟩ := id AV17
  have pre19 : ∀ t, Steps p.tables e below (T17.setTop (mkF m 17 #[.val (.int p1), .val (.ref h0.size)] [.null])) t → Steps p.tables e below (s₁.setTop (mkF m 0 #[.val (.int p1), .unset] [])) t := by
    intro t kt
    show Steps p.tables e below (s₁.setTop (mkF m 0 #[.val (.int p1), .unset] [])) _
    refine st17 _ ?_
    show Steps p.tables e below (T17.setTop (mkF m 3 #[.val (.int p1), .unset] [(.ref h0.size)])) _
    refine XS.astoreN X17.here hx rfl (hb hby d1_3) rfl rfl (l' := #[.val (.int p1), .val (.ref h0.size)]) rfl ?_
    show Steps p.tables e below (T17.setTop (mkF m 4 #[.val (.int p1), .val (.ref h0.size)] [])) _
    refine XS.iloadN X17.here hx rfl (hb hby d1_4) rfl ?_
    show Steps p.tables e below (T17.setTop (mkF m 5 #[.val (.int p1), .val (.ref h0.size)] [(.int p1)])) _
    refine XS.aloadN X17.here hx rfl (hb hby d1_5) rfl rfl ?_
    show Steps p.tables e below (T17.setTop (mkF m 6 #[.val (.int p1), .val (.ref h0.size)] [(.ref h0.size), (.int p1)])) _
    refine X17.arraylength hx Ar18.1 (State.isArrayOf_alike hZ.alike Ar18.2.1) (g := (mkF m 6 #[.val (.int p1), .val (.ref h0.size)] [(.ref h0.size), (.int p1)])) rfl rfl (hb hby d1_6) _ ?_
    rw [len_of S18 M18]
    show Steps p.tables e below (T17.setTop (mkF m 7 #[.val (.int p1), .val (.ref h0.size)] [(.int (3 : Int32)), (.int p1)])) _
    refine XS.icmpYes X17.here hx rfl (pc0 := 7) (pc' := 16) rfl (hb hby d1_7) rfl (flt (hge : ¬ (p1 < (3 : Int32)))).2.1 (by decide) (by decide) ?_
    show Steps p.tables e below (T17.setTop (mkF m 16 #[.val (.int p1), .val (.ref h0.size)] [])) _
    refine XS.aconstNull X17.here hx rfl (hb hby d1_16) ?_
    exact kt
  obtain ⟨fs, hr, hrun, hended, hW, hsame⟩ := X17.leave (v := some .null) (fun h => by rw [Bd.returns] at h; cases h)
  refine ⟨_, _, (pre0 _ (pre19 _ ?_)), hrun, hended, _, _, rfl, ?_, ⟨_, rfl⟩, hW, hsame.mono (by decide) (by decide)⟩
  · show Steps p.tables e below (T17.setTop (mkF m 17 #[.val (.int p1), .val (.ref h0.size)] [.null])) _
    exact retOut X17 hx (t := (.object "com/example/orbweaver/orbweaver/GiopVersion")) Bd.returns rfl (Or.inr (Or.inr (Or.inr (Or.inr ⟨rfl, rfl, rfl⟩)))) (hb hby d1_17) hr
  · show QofN Z p1 aV kV a0v a1v a2v h0 n0 _ T17.heap _
    exact ⟨rfl, N17, EX17⟩
theorem ef_minor (m : MethodId) (x0 : Addr) : entryFrame m #[(.ref x0)] 1 = mkF m 0 #[.val (.ref x0)] [] := by (first | (simp [entryFrame, mkF, argsToLocals, Value.category]; done) | rfl)
def Qminor (Z : State) (a1 : Addr) (k1 : Int32) (h0 : Heap) (n0 : Nat) (v : Option Value) (h : Heap) (L : List Loc) : Prop := v = some (.int k1) ∧ Fr n0 L ∧ h = h0
theorem d3_0 : decode prog_37_method_4_code 0 = .ok (.aload_n 0, 1) := by decide +kernel
theorem d3_1 : decode prog_37_method_4_code 1 = .ok (.getfield 32, 3) := by decide +kernel
theorem d3_4 : decode prog_37_method_4_code 4 = .ok (.ireturn, 1) := by decide +kernel
set_option maxRecDepth 65536 in
set_option maxHeartbeats 40000000 in
theorem rmminor (l : Launch) (Z : State) (a0 : Array Value) (hw : ∀ d ∈ tables_1, d.before a0 Z = true) (ws : List Jvm.Cond) (a1 : Addr) (k1 : Int32) (h0 : Heap) (n0 : Nat) (Z0 : n0 ≤ h0.size) (F : Fld Z h0 a1 "com/example/orbweaver/orbweaver/GiopVersion" "minor" "I" (.int k1)) :
    MetFree l (⟨"com/example/orbweaver/orbweaver/GiopVersion", "minor", "()I"⟩ : MethodName) (head1 (Jvm.Cond.code (⟨"com/example/orbweaver/orbweaver/GiopVersion", "minor", "()I"⟩ : MethodName) prog_37_method_4_code 1 (some .int) :: ws) ({ frames := 0, cells := 0, slots := 0, locals := 0 } : Room)) (fun a U => a = #[(.ref a1)] ∧ Z.Warmed39 U.vm ∧ U.heap = h0) (fun _ _ _ _ _ => True) (fun _ U o U' => ∃ v L, o = .returned v ∧ Qminor Z a1 k1 h0 n0 v U'.heap L ∧ FrameEnd U o U' L ({ frames := 0, cells := 0, slots := 0, locals := 0 } : Room).cells ({ frames := 0, cells := 0, slots := 0, locals := 0 } : Room).slots) := by
  refine MetFree.of_bodySF (plainFor_of_name pn_com_example_orbweaver_orbweaver_GiopVersion) hisR ?_
  intro p e s m args below meth c s₁ Bd hml0 hP hK
  obtain ⟨rfl, hZ, hh⟩ := hP
  have hx := Bd.exec
  have hby := Bd.bytes
  have hml : c.maxLocals = 1 := hml0
  have hown : s.vm.findClass "com/example/orbweaver/orbweaver/GiopVersion" = some m.cls := findClass_of_methodNamed Bd.named
  have hnm := (name_of_methodNamed Bd.named Bd.method).1
  have X0 : Stand p l e ({ frames := 0, cells := 0, slots := 0, locals := 0 } : Room) s m #[(.ref a1)] below meth c s₁ [] 0 0 := Stand.of_body Bd
  have e0 : s₁.heap = h0 := by rw [← hh, Bd.state]; rfl
  have N0 := Fr.nil n0
  have pre0 : ∀ t, Steps p.tables e below (s₁.setTop (mkF m 0 #[.val (.ref a1)] [])) t → Steps p.tables e below (s₁.setTop (entryFrame m #[(.ref a1)] 1)) t := fun t k => castTop (ef_minor m a1) k
  obtain ⟨T20, X20, e20, st20⟩ := getF X0 hx hZ hown (host := "") (Or.inl (hw _ (List.mem_of_getElem? (i := 29) rfl))) Via.refl e0 F (g := (mkF m 1 #[.val (.ref a1)] [(.ref a1)])) rfl rfl (hb hby d3_1)
  have pre21 : ∀ t, Steps p.tables e below (T20.setTop (mkF m 4 #[.val (.ref a1)] [(.int k1)])) t → Steps p.tables e below (s₁.setTop (mkF m 0 #[.val (.ref a1)] [])) t := by
    intro t kt
    show Steps p.tables e below (s₁.setTop (mkF m 0 #[.val (.ref a1)] [])) _
    refine XS.aloadN X0.here hx rfl (hb hby d3_0) rfl rfl ?_
    show Steps p.tables e below (s₁.setTop (mkF m 1 #[.val (.ref a1)] [(.ref a1)])) _
    refine st20 _ ?_
    exact kt
  obtain ⟨fs, hr, hrun, hended, hW, hsame⟩ := X20.leave (v := some (.int k1)) (fun h => by rw [Bd.returns] at h; cases h)
  refine ⟨_, _, (pre0 _ (pre21 _ ?_)), hrun, hended, _, _, rfl, ?_, ⟨_, rfl⟩, hW, hsame.mono (by decide) (by decide)⟩
  · show Steps p.tables e below (T20.setTop (mkF m 4 #[.val (.ref a1)] [(.int k1)])) _
    exact retOut X20 hx (t := .int) Bd.returns rfl (Or.inl ⟨rfl, Or.inl rfl, _, rfl⟩) (hb hby d3_4) hr
  · show Qminor Z a1 k1 h0 n0 _ T20.heap _
    rw [e20]
    exact ⟨rfl, N0, rfl⟩
theorem ef_0 (m : MethodId) (x0 : Int32) : entryFrame m #[(.int x0)] maxLocals = mkF m 0 #[.val (.int x0), .unset, .unset, .unset] [] := by (first | (simp [entryFrame, mkF, argsToLocals, Value.category, maxLocals]; done) | rfl)
def Q0 (Z : State) (p1 : Int32) (aV : Addr) (kV : ClassId) (a0v : Addr) (a1v : Addr) (a2v : Addr) (h0 : Heap) (n0 : Nat) (v : Option Value) (h : Heap) (L : List Loc) : Prop := v = some (.int (1 : Int32)) ∧ Fr n0 L
theorem pn_com_example_orbweaver_orbweaver_GiopVersionOfMinorPinLaw : plainName "com/example/orbweaver/orbweaver/GiopVersionOfMinorPinLaw" = true := by first | (simp [plainName, overriddenIn]; done) | decide +kernel
theorem pd__I_Lcom_example_orbweaver_orbweaver_GiopVersion_ : parseMethodDescriptor "(I)Lcom/example/orbweaver/orbweaver/GiopVersion;" = some ⟨[.int], some (.object "com/example/orbweaver/orbweaver/GiopVersion")⟩ := by decide +kernel
theorem pd___I : parseMethodDescriptor "()I" = some ⟨[], some .int⟩ := by decide +kernel
set_option maxRecDepth 65536 in
set_option maxHeartbeats 40000000 in
theorem rm0 (l : Launch) (Z : State) (a0 : Array Value) (hw : ∀ d ∈ tables_1, d.before a0 Z = true) (ws : List Jvm.Cond) (p1 : Int32) (aV : Addr) (kV : ClassId) (a0v : Addr) (a1v : Addr) (a2v : Addr) (h0 : Heap) (n0 : Nat) (Z0 : n0 ≤ h0.size) (SV : Sta Z h0 "com/example/orbweaver/orbweaver/GiopVersion" "$VALUES" "[Lcom/example/orbweaver/orbweaver/GiopVersion;" (.ref aV)) (AA : Arv Z h0 aV kV (.object "com/example/orbweaver/orbweaver/GiopVersion") (3 : Int32) [.ref a0v, .ref a1v, .ref a2v] .null) (EV : Exa Z h0 aV "[Lcom/example/orbweaver/orbweaver/GiopVersion;") (S0 : Sta Z h0 "com/example/orbweaver/orbweaver/GiopVersion" "V1_0" "Lcom/example/orbweaver/orbweaver/GiopVersion;" (.ref a0v)) (E0v : Exa Z h0 a0v "com/example/orbweaver/orbweaver/GiopVersion") (F0v : Fld Z h0 a0v "com/example/orbweaver/orbweaver/GiopVersion" "minor" "I" (.int (0 : Int32))) (S1 : Sta Z h0 "com/example/orbweaver/orbweaver/GiopVersion" "V1_1" "Lcom/example/orbweaver/orbweaver/GiopVersion;" (.ref a1v)) (E1v : Exa Z h0 a1v "com/example/orbweaver/orbweaver/GiopVersion") (F1v : Fld Z h0 a1v "com/example/orbweaver/orbweaver/GiopVersion" "minor" "I" (.int (1 : Int32))) (S2 : Sta Z h0 "com/example/orbweaver/orbweaver/GiopVersion" "V1_2" "Lcom/example/orbweaver/orbweaver/GiopVersion;" (.ref a2v)) (E2v : Exa Z h0 a2v "com/example/orbweaver/orbweaver/GiopVersion") (F2v : Fld Z h0 a2v "com/example/orbweaver/orbweaver/GiopVersion" "minor" "I" (.int (2 : Int32))) :
    MetFree l x (head1 (Jvm.Cond.code x code maxLocals ret :: ws) room_1) (fun a U => a = #[(.int p1)] ∧ Z.Warmed39 U.vm ∧ U.heap = h0) (fun _ _ _ _ _ => True) (fun _ U o U' => ∃ v L, o = .returned v ∧ Q0 Z p1 aV kV a0v a1v a2v h0 n0 v U'.heap L ∧ FrameEnd U o U' L room_1.cells room_1.slots) := by
  refine MetFree.of_bodySF (plainFor_of_name pn_com_example_orbweaver_orbweaver_GiopVersionOfMinorPinLaw) hisR ?_
  intro p e s m args below meth c s₁ Bd hml0 hP hK
  obtain ⟨rfl, hZ, hh⟩ := hP
  have hx := Bd.exec
  have hby := Bd.bytes
  have hml : c.maxLocals = 4 := hml0
  have hown : s.vm.findClass "com/example/orbweaver/orbweaver/GiopVersionOfMinorPinLaw" = some m.cls := findClass_of_methodNamed Bd.named
  have hnm := (name_of_methodNamed Bd.named Bd.method).1
  have X0 : Stand p l e room_1 s m #[(.int p1)] below meth c s₁ [] 0 0 := Stand.of_body Bd
  have e0 : s₁.heap = h0 := by rw [← hh, Bd.state]; rfl
  have N0 := Fr.nil n0
  have pre0 : ∀ t, Steps p.tables e below (s₁.setTop (mkF m 0 #[.val (.int p1), .unset, .unset, .unset] [])) t → Steps p.tables e below (s₁.setTop (entryFrame m #[(.int p1)] maxLocals)) t := fun t k => castTop (ef_0 m p1) k
  obtain ⟨mm, hm⟩ : ∃ z, (p1 &&& (2147483647 : Int32)) = z := ⟨_, rfl⟩
  have hm0 : ¬ mm < 0 := hm ▸ own_mask p1
  have pre22 : ∀ t, Steps p.tables e below (s₁.setTop (mkF m 4 #[.val (.int p1), .unset, .unset, .unset] [(.int mm)])) t → Steps p.tables e below (s₁.setTop (mkF m 0 #[.val (.int p1), .unset, .unset, .unset] [])) t := by
    intro t kt
    show Steps p.tables e below (s₁.setTop (mkF m 0 #[.val (.int p1), .unset, .unset, .unset] [])) _
    refine XS.iloadN X0.here hx rfl (hb hby at_0) rfl ?_
    show Steps p.tables e below (s₁.setTop (mkF m 1 #[.val (.int p1), .unset, .unset, .unset] [(.int p1)])) _
    refine X0.ldcInt hx hown (mvT hZ (hw _ (List.mem_of_getElem? (i := 0) rfl))) (g := (mkF m 1 #[.val (.int p1), .unset, .unset, .unset] [(.int p1)])) rfl (hb hby at_1) _ ?_
    show Steps p.tables e below (s₁.setTop (mkF m 3 #[.val (.int p1), .unset, .unset, .unset] [(.int (2147483647 : Int32)), (.int p1)])) _
    refine XS.iand X0.here hx rfl (hb hby at_3) rfl ?_
    show Steps p.tables e below (s₁.setTop (mkF m 4 #[.val (.int p1), .unset, .unset, .unset] [(.int (p1 &&& (2147483647 : Int32)))])) _
    rw [hm]
    exact kt
  clear hm
  rcases own_four hm0 with rfl | rfl | rfl | ⟨k0, k1, k2, k3⟩
  · skip
    obtain ⟨_, _, ⟨T23, L23, k23, n23⟩, -, X23, ⟨Lc23, hQ23, l23, y23, z23⟩, st23⟩ := Jvm.LawKit.callS X0 hx (y := (⟨"com/example/orbweaver/orbweaver/GiopVersion", "ofMinor", "(I)Lcom/example/orbweaver/orbweaver/GiopVersion;"⟩ : MethodName)) hown (mvT hZ (hw _ (List.mem_of_getElem? (i := 1) rfl))) (mvT hZ (hw _ (List.mem_of_getElem? (i := 2) rfl))) (mvT hZ (hw _ (List.mem_of_getElem? (i := 3) rfl))) (mvT hZ (hw _ (List.mem_of_getElem? (i := 4) rfl))) (by decide) (backOf (W := 0) (rmof0 l Z a0 hw [] aV kV a0v a1v a2v h0 n0 Z0 SV AA EV) hZ (hw _ (List.mem_of_getElem? (i := 4) rfl)) (hw _ (List.mem_of_getElem? (i := 3) rfl)) (by decide) (by decide)) (g := (mkF m 6 #[.val (.int p1), .val (.int (0 : Int32)), .unset, .unset] [(.int (0 : Int32))])) rfl (by rw [hml]; rfl) (argsL := [(.int (0 : Int32))]) (rest := []) (lenOf pd__I_Lcom_example_orbweaver_orbweaver_GiopVersion_ rfl) rfl (by show 2 * 0 + _ ≤ _; exact Nat.le_of_eq rfl) (hb hby at_6) (fun _ _ => ⟨rfl, e0, (by decide : 0 + 1 ≤ _), (by decide : 0 + 3 ≤ _)⟩)
    dsimp only [Pt.U, Pt.locs, Pt.cells, Pt.slots] at X23 l23 y23 z23 st23 hQ23
    subst l23 y23 z23
    obtain ⟨rfl, N23q, EX23⟩ := hQ23
    have N23 := Fr.app N0 N23q
    have Z23 := Nat.le_trans Z0 EX23.1
    have K23 := (Keep.refl h0 []).ext EX23
    have f24 := (S0.ext EX23)
    obtain ⟨T25, X25, e25, st25⟩ := getS2 X23 hx hZ hown (host := "") (Or.inl (hw _ (List.mem_of_getElem? (i := 23) rfl))) Via.refl rfl f24 (g := (mkF m 14 #[.val (.int p1), .val (.int (0 : Int32)), .val (.ref a0v), .unset] [])) rfl (hb hby at_14)
    have f26 := (F0v.ext EX23)
    have f28 := (E0v.ext EX23)
    obtain ⟨cq27, kq27, q27a, q27b, q27c⟩ := isOf hZ e25 f28
    obtain ⟨_, _, ⟨T27, L27, k27, n27⟩, -, X27, ⟨Lc27, hQ27, l27, y27, z27⟩, st27⟩ := X25.virtualBack hx (y := (⟨"com/example/orbweaver/orbweaver/GiopVersion", "minor", "()I"⟩ : MethodName)) (z := (⟨"com/example/orbweaver/orbweaver/GiopVersion", "minor", "()I"⟩ : MethodName)) hown (mvT hZ (hw _ (List.mem_of_getElem? (i := 24) rfl))) (mvT hZ (hw _ (List.mem_of_getElem? (i := 25) rfl))) (notFace_of_selects (args := #[]) (mvT hZ (hw _ (List.mem_of_getElem? (i := 27) rfl)))) (mvT hZ (hw _ (List.mem_of_getElem? (i := 27) rfl))) (mvT hZ (hw _ (List.mem_of_getElem? (i := 26) rfl))) (by decide) (backOf (W := 0) (rmminor l Z a0 hw [] a0v (0 : Int32) T23.heap n0 Z23 f26) hZ (hw _ (List.mem_of_getElem? (i := 28) rfl)) (hw _ (List.mem_of_getElem? (i := 3) rfl)) (by decide) (by decide)) q27a q27c (g := (mkF m 59 #[.val (.int p1), .val (.int (0 : Int32)), .val (.ref a0v), .val (.ref a0v)] [(.ref a0v)])) rfl (by rw [hml]; rfl) (Steps.refl _) (argsL := []) (rest := []) (lenOf pd___I rfl) rfl (by show 2 * 0 + _ ≤ _; exact Nat.le_of_eq rfl) (hb hby at_59) (fun _ _ => ⟨rfl, e25, (by decide : 1 + 0 ≤ _), (by decide : 3 + 0 ≤ _)⟩)
    dsimp only [Pt.U, Pt.locs, Pt.cells, Pt.slots] at X27 l27 y27 z27 st27 hQ27
    subst l27 y27 z27
    obtain ⟨rfl, N27q, EQ27⟩ := hQ27
    have N27 := Fr.app N23 N27q
    have Z27 : n0 ≤ T27.heap.size := by rw [EQ27]; exact Z23
    have K27 := own_keq EQ27 K23
    have pre29 : ∀ t, Steps p.tables e below (T27.setTop (mkF m 69 #[.val (.int p1), .val (.int (0 : Int32)), .val (.ref a0v), .val (.ref a0v)] [(.int (1 : Int32))])) t → Steps p.tables e below (s₁.setTop (mkF m 4 #[.val (.int p1), .unset, .unset, .unset] [(.int (0 : Int32))])) t := by
      intro t kt
      show Steps p.tables e below (s₁.setTop (mkF m 4 #[.val (.int p1), .unset, .unset, .unset] [(.int (0 : Int32))])) _
      refine XS.istoreN X0.here hx rfl (hb hby at_4) rfl (l' := #[.val (.int p1), .val (.int (0 : Int32)), .unset, .unset]) rfl ?_
      show Steps p.tables e below (s₁.setTop (mkF m 5 #[.val (.int p1), .val (.int (0 : Int32)), .unset, .unset] [])) _
      refine XS.iloadN X0.here hx rfl (hb hby at_5) rfl ?_
      show Steps p.tables e below (s₁.setTop (mkF m 6 #[.val (.int p1), .val (.int (0 : Int32)), .unset, .unset] [(.int (0 : Int32))])) _
      refine st23 _ ?_
      show Steps p.tables e below (T23.setTop (mkF m 9 #[.val (.int p1), .val (.int (0 : Int32)), .unset, .unset] [(.ref a0v)])) _
      refine XS.astoreN X23.here hx rfl (hb hby at_9) rfl rfl (l' := #[.val (.int p1), .val (.int (0 : Int32)), .val (.ref a0v), .unset]) rfl ?_
      show Steps p.tables e below (T23.setTop (mkF m 10 #[.val (.int p1), .val (.int (0 : Int32)), .val (.ref a0v), .unset] [])) _
      refine XS.iloadN X23.here hx rfl (hb hby at_10) rfl ?_
      show Steps p.tables e below (T23.setTop (mkF m 11 #[.val (.int p1), .val (.int (0 : Int32)), .val (.ref a0v), .unset] [(.int (0 : Int32))])) _
      refine XS.ifNo X23.here hx rfl (hb hby at_11) rfl ((if0 _ _).trans (teq (rfl : (0 : Int32) = (0 : Int32))).2) ?_
      show Steps p.tables e below (T23.setTop (mkF m 14 #[.val (.int p1), .val (.int (0 : Int32)), .val (.ref a0v), .unset] [])) _
      refine st25 _ ?_
      show Steps p.tables e below (T25.setTop (mkF m 17 #[.val (.int p1), .val (.int (0 : Int32)), .val (.ref a0v), .unset] [(.ref a0v)])) _
      refine XS.astoreN X25.here hx rfl (hb hby at_17) rfl rfl (l' := #[.val (.int p1), .val (.int (0 : Int32)), .val (.ref a0v), .val (.ref a0v)]) rfl ?_
      show Steps p.tables e below (T25.setTop (mkF m 18 #[.val (.int p1), .val (.int (0 : Int32)), .val (.ref a0v), .val (.ref a0v)] [])) _
      refine XS.goto X25.here hx rfl (pc0 := 18) (pc' := 47) rfl (hb hby at_18) (by decide) (by decide) ?_
      show Steps p.tables e below (T25.setTop (mkF m 47 #[.val (.int p1), .val (.int (0 : Int32)), .val (.ref a0v), .val (.ref a0v)] [])) _
      refine XS.aloadN X25.here hx rfl (hb hby at_47) rfl rfl ?_
      show Steps p.tables e below (T25.setTop (mkF m 48 #[.val (.int p1), .val (.int (0 : Int32)), .val (.ref a0v), .val (.ref a0v)] [(.ref a0v)])) _
      refine XS.aloadN X25.here hx rfl (hb hby at_48) rfl rfl ?_
      show Steps p.tables e below (T25.setTop (mkF m 49 #[.val (.int p1), .val (.int (0 : Int32)), .val (.ref a0v), .val (.ref a0v)] [(.ref a0v), (.ref a0v)])) _
      refine Jvm.RoadKit.acmp (g := (mkF m 49 #[.val (.int p1), .val (.int (0 : Int32)), .val (.ref a0v), .val (.ref a0v)] [(.ref a0v), (.ref a0v)])) X25 hx rfl rfl rfl (pc0 := 49) (pc' := 54) (same := true) rfl (hb hby at_49) rfl (decide_eq_true rfl) (by decide) (by decide) ?_
      show Steps p.tables e below (T25.setTop (mkF m 54 #[.val (.int p1), .val (.int (0 : Int32)), .val (.ref a0v), .val (.ref a0v)] [])) _
      refine XS.aloadN X25.here hx rfl (hb hby at_54) rfl rfl ?_
      show Steps p.tables e below (T25.setTop (mkF m 55 #[.val (.int p1), .val (.int (0 : Int32)), .val (.ref a0v), .val (.ref a0v)] [(.ref a0v)])) _
      refine XS.ifnullNo X25.here hx rfl (hb hby at_55) rfl ?_
      show Steps p.tables e below (T25.setTop (mkF m 58 #[.val (.int p1), .val (.int (0 : Int32)), .val (.ref a0v), .val (.ref a0v)] [])) _
      refine XS.aloadN X25.here hx rfl (hb hby at_58) rfl rfl ?_
      show Steps p.tables e below (T25.setTop (mkF m 59 #[.val (.int p1), .val (.int (0 : Int32)), .val (.ref a0v), .val (.ref a0v)] [(.ref a0v)])) _
      refine st27.trans ?_
      show Steps p.tables e below (T27.setTop (mkF m 62 #[.val (.int p1), .val (.int (0 : Int32)), .val (.ref a0v), .val (.ref a0v)] [(.int (0 : Int32))])) _
      refine XS.iloadN X27.here hx rfl (hb hby at_62) rfl ?_
      show Steps p.tables e below (T27.setTop (mkF m 63 #[.val (.int p1), .val (.int (0 : Int32)), .val (.ref a0v), .val (.ref a0v)] [(.int (0 : Int32)), (.int (0 : Int32))])) _
      refine XS.icmpYes X27.here hx rfl (pc0 := 63) (pc' := 68) rfl (hb hby at_63) rfl (teq (rfl : (0 : Int32) = (0 : Int32))).1 (by decide) (by decide) ?_
      show Steps p.tables e below (T27.setTop (mkF m 68 #[.val (.int p1), .val (.int (0 : Int32)), .val (.ref a0v), .val (.ref a0v)] [])) _
      refine XS.iconst X27.here hx rfl (hb hby at_68) ?_
      exact kt
    obtain ⟨fs, hr, hrun, hended, hW, hsame⟩ := X27.leave (v := some (.int (1 : Int32))) (fun h => by rw [Bd.returns] at h; cases h)
    refine ⟨_, _, (pre0 _ (pre22 _ (pre29 _ ?_))), hrun, hended, _, _, rfl, ?_, ⟨_, rfl⟩, hW, hsame.mono (by decide) (by decide)⟩
    · show Steps p.tables e below (T27.setTop (mkF m 69 #[.val (.int p1), .val (.int (0 : Int32)), .val (.ref a0v), .val (.ref a0v)] [(.int (1 : Int32))])) _
      exact retN X27 hx (t := .boolean) Bd.returns (by simp) (hb hby at_69) hr
    · show Q0 Z p1 aV kV a0v a1v a2v h0 n0 _ T27.heap _
      exact ⟨rfl, N27⟩
  · skip
    obtain ⟨_, _, ⟨T30, L30, k30, n30⟩, -, X30, ⟨Lc30, hQ30, l30, y30, z30⟩, st30⟩ := Jvm.LawKit.callS X0 hx (y := (⟨"com/example/orbweaver/orbweaver/GiopVersion", "ofMinor", "(I)Lcom/example/orbweaver/orbweaver/GiopVersion;"⟩ : MethodName)) hown (mvT hZ (hw _ (List.mem_of_getElem? (i := 1) rfl))) (mvT hZ (hw _ (List.mem_of_getElem? (i := 2) rfl))) (mvT hZ (hw _ (List.mem_of_getElem? (i := 3) rfl))) (mvT hZ (hw _ (List.mem_of_getElem? (i := 4) rfl))) (by decide) (backOf (W := 0) (rmof1 l Z a0 hw [] aV kV a0v a1v a2v h0 n0 Z0 SV AA EV) hZ (hw _ (List.mem_of_getElem? (i := 4) rfl)) (hw _ (List.mem_of_getElem? (i := 3) rfl)) (by decide) (by decide)) (g := (mkF m 6 #[.val (.int p1), .val (.int (1 : Int32)), .unset, .unset] [(.int (1 : Int32))])) rfl (by rw [hml]; rfl) (argsL := [(.int (1 : Int32))]) (rest := []) (lenOf pd__I_Lcom_example_orbweaver_orbweaver_GiopVersion_ rfl) rfl (by show 2 * 0 + _ ≤ _; exact Nat.le_of_eq rfl) (hb hby at_6) (fun _ _ => ⟨rfl, e0, (by decide : 0 + 1 ≤ _), (by decide : 0 + 3 ≤ _)⟩)
    dsimp only [Pt.U, Pt.locs, Pt.cells, Pt.slots] at X30 l30 y30 z30 st30 hQ30
    subst l30 y30 z30
    obtain ⟨rfl, N30q, EX30⟩ := hQ30
    have N30 := Fr.app N0 N30q
    have Z30 := Nat.le_trans Z0 EX30.1
    have K30 := (Keep.refl h0 []).ext EX30
    have f31 := (S1.ext EX30)
    obtain ⟨T32, X32, e32, st32⟩ := getS2 X30 hx hZ hown (host := "") (Or.inl (hw _ (List.mem_of_getElem? (i := 32) rfl))) Via.refl rfl f31 (g := (mkF m 26 #[.val (.int p1), .val (.int (1 : Int32)), .val (.ref a1v), .unset] [])) rfl (hb hby at_26)
    have f33 := (F1v.ext EX30)
    have f35 := (E1v.ext EX30)
    obtain ⟨cq34, kq34, q34a, q34b, q34c⟩ := isOf hZ e32 f35
    obtain ⟨_, _, ⟨T34, L34, k34, n34⟩, -, X34, ⟨Lc34, hQ34, l34, y34, z34⟩, st34⟩ := X32.virtualBack hx (y := (⟨"com/example/orbweaver/orbweaver/GiopVersion", "minor", "()I"⟩ : MethodName)) (z := (⟨"com/example/orbweaver/orbweaver/GiopVersion", "minor", "()I"⟩ : MethodName)) hown (mvT hZ (hw _ (List.mem_of_getElem? (i := 24) rfl))) (mvT hZ (hw _ (List.mem_of_getElem? (i := 25) rfl))) (notFace_of_selects (args := #[]) (mvT hZ (hw _ (List.mem_of_getElem? (i := 27) rfl)))) (mvT hZ (hw _ (List.mem_of_getElem? (i := 27) rfl))) (mvT hZ (hw _ (List.mem_of_getElem? (i := 26) rfl))) (by decide) (backOf (W := 0) (rmminor l Z a0 hw [] a1v (1 : Int32) T30.heap n0 Z30 f33) hZ (hw _ (List.mem_of_getElem? (i := 28) rfl)) (hw _ (List.mem_of_getElem? (i := 3) rfl)) (by decide) (by decide)) q34a q34c (g := (mkF m 59 #[.val (.int p1), .val (.int (1 : Int32)), .val (.ref a1v), .val (.ref a1v)] [(.ref a1v)])) rfl (by rw [hml]; rfl) (Steps.refl _) (argsL := []) (rest := []) (lenOf pd___I rfl) rfl (by show 2 * 0 + _ ≤ _; exact Nat.le_of_eq rfl) (hb hby at_59) (fun _ _ => ⟨rfl, e32, (by decide : 1 + 0 ≤ _), (by decide : 3 + 0 ≤ _)⟩)
    dsimp only [Pt.U, Pt.locs, Pt.cells, Pt.slots] at X34 l34 y34 z34 st34 hQ34
    subst l34 y34 z34
    obtain ⟨rfl, N34q, EQ34⟩ := hQ34
    have N34 := Fr.app N30 N34q
    have Z34 : n0 ≤ T34.heap.size := by rw [EQ34]; exact Z30
    have K34 := own_keq EQ34 K30
    have pre36 : ∀ t, Steps p.tables e below (T34.setTop (mkF m 69 #[.val (.int p1), .val (.int (1 : Int32)), .val (.ref a1v), .val (.ref a1v)] [(.int (1 : Int32))])) t → Steps p.tables e below (s₁.setTop (mkF m 4 #[.val (.int p1), .unset, .unset, .unset] [(.int (1 : Int32))])) t := by
      intro t kt
      show Steps p.tables e below (s₁.setTop (mkF m 4 #[.val (.int p1), .unset, .unset, .unset] [(.int (1 : Int32))])) _
      refine XS.istoreN X0.here hx rfl (hb hby at_4) rfl (l' := #[.val (.int p1), .val (.int (1 : Int32)), .unset, .unset]) rfl ?_
      show Steps p.tables e below (s₁.setTop (mkF m 5 #[.val (.int p1), .val (.int (1 : Int32)), .unset, .unset] [])) _
      refine XS.iloadN X0.here hx rfl (hb hby at_5) rfl ?_
      show Steps p.tables e below (s₁.setTop (mkF m 6 #[.val (.int p1), .val (.int (1 : Int32)), .unset, .unset] [(.int (1 : Int32))])) _
      refine st30 _ ?_
      show Steps p.tables e below (T30.setTop (mkF m 9 #[.val (.int p1), .val (.int (1 : Int32)), .unset, .unset] [(.ref a1v)])) _
      refine XS.astoreN X30.here hx rfl (hb hby at_9) rfl rfl (l' := #[.val (.int p1), .val (.int (1 : Int32)), .val (.ref a1v), .unset]) rfl ?_
      show Steps p.tables e below (T30.setTop (mkF m 10 #[.val (.int p1), .val (.int (1 : Int32)), .val (.ref a1v), .unset] [])) _
      refine XS.iloadN X30.here hx rfl (hb hby at_10) rfl ?_
      show Steps p.tables e below (T30.setTop (mkF m 11 #[.val (.int p1), .val (.int (1 : Int32)), .val (.ref a1v), .unset] [(.int (1 : Int32))])) _
      refine XS.ifYes X30.here hx rfl (pc0 := 11) (pc' := 21) rfl (hb hby at_11) rfl ((if0 _ _).trans (feq (by decide : ¬ ((1 : Int32) = (0 : Int32)))).2) (by decide) (by decide) ?_
      show Steps p.tables e below (T30.setTop (mkF m 21 #[.val (.int p1), .val (.int (1 : Int32)), .val (.ref a1v), .unset] [])) _
      refine XS.iloadN X30.here hx rfl (hb hby at_21) rfl ?_
      show Steps p.tables e below (T30.setTop (mkF m 22 #[.val (.int p1), .val (.int (1 : Int32)), .val (.ref a1v), .unset] [(.int (1 : Int32))])) _
      refine XS.iconst X30.here hx rfl (hb hby at_22) ?_
      show Steps p.tables e below (T30.setTop (mkF m 23 #[.val (.int p1), .val (.int (1 : Int32)), .val (.ref a1v), .unset] [(.int (1 : Int32)), (.int (1 : Int32))])) _
      refine XS.icmpNo X30.here hx rfl (hb hby at_23) rfl (teq (rfl : (1 : Int32) = (1 : Int32))).2 ?_
      show Steps p.tables e below (T30.setTop (mkF m 26 #[.val (.int p1), .val (.int (1 : Int32)), .val (.ref a1v), .unset] [])) _
      refine st32 _ ?_
      show Steps p.tables e below (T32.setTop (mkF m 29 #[.val (.int p1), .val (.int (1 : Int32)), .val (.ref a1v), .unset] [(.ref a1v)])) _
      refine XS.astoreN X32.here hx rfl (hb hby at_29) rfl rfl (l' := #[.val (.int p1), .val (.int (1 : Int32)), .val (.ref a1v), .val (.ref a1v)]) rfl ?_
      show Steps p.tables e below (T32.setTop (mkF m 30 #[.val (.int p1), .val (.int (1 : Int32)), .val (.ref a1v), .val (.ref a1v)] [])) _
      refine XS.goto X32.here hx rfl (pc0 := 30) (pc' := 47) rfl (hb hby at_30) (by decide) (by decide) ?_
      show Steps p.tables e below (T32.setTop (mkF m 47 #[.val (.int p1), .val (.int (1 : Int32)), .val (.ref a1v), .val (.ref a1v)] [])) _
      refine XS.aloadN X32.here hx rfl (hb hby at_47) rfl rfl ?_
      show Steps p.tables e below (T32.setTop (mkF m 48 #[.val (.int p1), .val (.int (1 : Int32)), .val (.ref a1v), .val (.ref a1v)] [(.ref a1v)])) _
      refine XS.aloadN X32.here hx rfl (hb hby at_48) rfl rfl ?_
      show Steps p.tables e below (T32.setTop (mkF m 49 #[.val (.int p1), .val (.int (1 : Int32)), .val (.ref a1v), .val (.ref a1v)] [(.ref a1v), (.ref a1v)])) _
      refine Jvm.RoadKit.acmp (g := (mkF m 49 #[.val (.int p1), .val (.int (1 : Int32)), .val (.ref a1v), .val (.ref a1v)] [(.ref a1v), (.ref a1v)])) X32 hx rfl rfl rfl (pc0 := 49) (pc' := 54) (same := true) rfl (hb hby at_49) rfl (decide_eq_true rfl) (by decide) (by decide) ?_
      show Steps p.tables e below (T32.setTop (mkF m 54 #[.val (.int p1), .val (.int (1 : Int32)), .val (.ref a1v), .val (.ref a1v)] [])) _
      refine XS.aloadN X32.here hx rfl (hb hby at_54) rfl rfl ?_
      show Steps p.tables e below (T32.setTop (mkF m 55 #[.val (.int p1), .val (.int (1 : Int32)), .val (.ref a1v), .val (.ref a1v)] [(.ref a1v)])) _
      refine XS.ifnullNo X32.here hx rfl (hb hby at_55) rfl ?_
      show Steps p.tables e below (T32.setTop (mkF m 58 #[.val (.int p1), .val (.int (1 : Int32)), .val (.ref a1v), .val (.ref a1v)] [])) _
      refine XS.aloadN X32.here hx rfl (hb hby at_58) rfl rfl ?_
      show Steps p.tables e below (T32.setTop (mkF m 59 #[.val (.int p1), .val (.int (1 : Int32)), .val (.ref a1v), .val (.ref a1v)] [(.ref a1v)])) _
      refine st34.trans ?_
      show Steps p.tables e below (T34.setTop (mkF m 62 #[.val (.int p1), .val (.int (1 : Int32)), .val (.ref a1v), .val (.ref a1v)] [(.int (1 : Int32))])) _
      refine XS.iloadN X34.here hx rfl (hb hby at_62) rfl ?_
      show Steps p.tables e below (T34.setTop (mkF m 63 #[.val (.int p1), .val (.int (1 : Int32)), .val (.ref a1v), .val (.ref a1v)] [(.int (1 : Int32)), (.int (1 : Int32))])) _
      refine XS.icmpYes X34.here hx rfl (pc0 := 63) (pc' := 68) rfl (hb hby at_63) rfl (teq (rfl : (1 : Int32) = (1 : Int32))).1 (by decide) (by decide) ?_
      show Steps p.tables e below (T34.setTop (mkF m 68 #[.val (.int p1), .val (.int (1 : Int32)), .val (.ref a1v), .val (.ref a1v)] [])) _
      refine XS.iconst X34.here hx rfl (hb hby at_68) ?_
      exact kt
    obtain ⟨fs, hr, hrun, hended, hW, hsame⟩ := X34.leave (v := some (.int (1 : Int32))) (fun h => by rw [Bd.returns] at h; cases h)
    refine ⟨_, _, (pre0 _ (pre22 _ (pre36 _ ?_))), hrun, hended, _, _, rfl, ?_, ⟨_, rfl⟩, hW, hsame.mono (by decide) (by decide)⟩
    · show Steps p.tables e below (T34.setTop (mkF m 69 #[.val (.int p1), .val (.int (1 : Int32)), .val (.ref a1v), .val (.ref a1v)] [(.int (1 : Int32))])) _
      exact retN X34 hx (t := .boolean) Bd.returns (by simp) (hb hby at_69) hr
    · show Q0 Z p1 aV kV a0v a1v a2v h0 n0 _ T34.heap _
      exact ⟨rfl, N34⟩
  · skip
    obtain ⟨_, _, ⟨T37, L37, k37, n37⟩, -, X37, ⟨Lc37, hQ37, l37, y37, z37⟩, st37⟩ := Jvm.LawKit.callS X0 hx (y := (⟨"com/example/orbweaver/orbweaver/GiopVersion", "ofMinor", "(I)Lcom/example/orbweaver/orbweaver/GiopVersion;"⟩ : MethodName)) hown (mvT hZ (hw _ (List.mem_of_getElem? (i := 1) rfl))) (mvT hZ (hw _ (List.mem_of_getElem? (i := 2) rfl))) (mvT hZ (hw _ (List.mem_of_getElem? (i := 3) rfl))) (mvT hZ (hw _ (List.mem_of_getElem? (i := 4) rfl))) (by decide) (backOf (W := 0) (rmof2 l Z a0 hw [] aV kV a0v a1v a2v h0 n0 Z0 SV AA EV) hZ (hw _ (List.mem_of_getElem? (i := 4) rfl)) (hw _ (List.mem_of_getElem? (i := 3) rfl)) (by decide) (by decide)) (g := (mkF m 6 #[.val (.int p1), .val (.int (2 : Int32)), .unset, .unset] [(.int (2 : Int32))])) rfl (by rw [hml]; rfl) (argsL := [(.int (2 : Int32))]) (rest := []) (lenOf pd__I_Lcom_example_orbweaver_orbweaver_GiopVersion_ rfl) rfl (by show 2 * 0 + _ ≤ _; exact Nat.le_of_eq rfl) (hb hby at_6) (fun _ _ => ⟨rfl, e0, (by decide : 0 + 1 ≤ _), (by decide : 0 + 3 ≤ _)⟩)
    dsimp only [Pt.U, Pt.locs, Pt.cells, Pt.slots] at X37 l37 y37 z37 st37 hQ37
    subst l37 y37 z37
    obtain ⟨rfl, N37q, EX37⟩ := hQ37
    have N37 := Fr.app N0 N37q
    have Z37 := Nat.le_trans Z0 EX37.1
    have K37 := (Keep.refl h0 []).ext EX37
    have f38 := (S2.ext EX37)
    obtain ⟨T39, X39, e39, st39⟩ := getS2 X37 hx hZ hown (host := "") (Or.inl (hw _ (List.mem_of_getElem? (i := 31) rfl))) Via.refl rfl f38 (g := (mkF m 38 #[.val (.int p1), .val (.int (2 : Int32)), .val (.ref a2v), .unset] [])) rfl (hb hby at_38)
    have f40 := (F2v.ext EX37)
    have f42 := (E2v.ext EX37)
    obtain ⟨cq41, kq41, q41a, q41b, q41c⟩ := isOf hZ e39 f42
    obtain ⟨_, _, ⟨T41, L41, k41, n41⟩, -, X41, ⟨Lc41, hQ41, l41, y41, z41⟩, st41⟩ := X39.virtualBack hx (y := (⟨"com/example/orbweaver/orbweaver/GiopVersion", "minor", "()I"⟩ : MethodName)) (z := (⟨"com/example/orbweaver/orbweaver/GiopVersion", "minor", "()I"⟩ : MethodName)) hown (mvT hZ (hw _ (List.mem_of_getElem? (i := 24) rfl))) (mvT hZ (hw _ (List.mem_of_getElem? (i := 25) rfl))) (notFace_of_selects (args := #[]) (mvT hZ (hw _ (List.mem_of_getElem? (i := 27) rfl)))) (mvT hZ (hw _ (List.mem_of_getElem? (i := 27) rfl))) (mvT hZ (hw _ (List.mem_of_getElem? (i := 26) rfl))) (by decide) (backOf (W := 0) (rmminor l Z a0 hw [] a2v (2 : Int32) T37.heap n0 Z37 f40) hZ (hw _ (List.mem_of_getElem? (i := 28) rfl)) (hw _ (List.mem_of_getElem? (i := 3) rfl)) (by decide) (by decide)) q41a q41c (g := (mkF m 59 #[.val (.int p1), .val (.int (2 : Int32)), .val (.ref a2v), .val (.ref a2v)] [(.ref a2v)])) rfl (by rw [hml]; rfl) (Steps.refl _) (argsL := []) (rest := []) (lenOf pd___I rfl) rfl (by show 2 * 0 + _ ≤ _; exact Nat.le_of_eq rfl) (hb hby at_59) (fun _ _ => ⟨rfl, e39, (by decide : 1 + 0 ≤ _), (by decide : 3 + 0 ≤ _)⟩)
    dsimp only [Pt.U, Pt.locs, Pt.cells, Pt.slots] at X41 l41 y41 z41 st41 hQ41
    subst l41 y41 z41
    obtain ⟨rfl, N41q, EQ41⟩ := hQ41
    have N41 := Fr.app N37 N41q
    have Z41 : n0 ≤ T41.heap.size := by rw [EQ41]; exact Z37
    have K41 := own_keq EQ41 K37
    have pre43 : ∀ t, Steps p.tables e below (T41.setTop (mkF m 69 #[.val (.int p1), .val (.int (2 : Int32)), .val (.ref a2v), .val (.ref a2v)] [(.int (1 : Int32))])) t → Steps p.tables e below (s₁.setTop (mkF m 4 #[.val (.int p1), .unset, .unset, .unset] [(.int (2 : Int32))])) t := by
      intro t kt
      show Steps p.tables e below (s₁.setTop (mkF m 4 #[.val (.int p1), .unset, .unset, .unset] [(.int (2 : Int32))])) _
      refine XS.istoreN X0.here hx rfl (hb hby at_4) rfl (l' := #[.val (.int p1), .val (.int (2 : Int32)), .unset, .unset]) rfl ?_
      show Steps p.tables e below (s₁.setTop (mkF m 5 #[.val (.int p1), .val (.int (2 : Int32)), .unset, .unset] [])) _
      refine XS.iloadN X0.here hx rfl (hb hby at_5) rfl ?_
      show Steps p.tables e below (s₁.setTop (mkF m 6 #[.val (.int p1), .val (.int (2 : Int32)), .unset, .unset] [(.int (2 : Int32))])) _
      refine st37 _ ?_
      show Steps p.tables e below (T37.setTop (mkF m 9 #[.val (.int p1), .val (.int (2 : Int32)), .unset, .unset] [(.ref a2v)])) _
      refine XS.astoreN X37.here hx rfl (hb hby at_9) rfl rfl (l' := #[.val (.int p1), .val (.int (2 : Int32)), .val (.ref a2v), .unset]) rfl ?_
      show Steps p.tables e below (T37.setTop (mkF m 10 #[.val (.int p1), .val (.int (2 : Int32)), .val (.ref a2v), .unset] [])) _
      refine XS.iloadN X37.here hx rfl (hb hby at_10) rfl ?_
      show Steps p.tables e below (T37.setTop (mkF m 11 #[.val (.int p1), .val (.int (2 : Int32)), .val (.ref a2v), .unset] [(.int (2 : Int32))])) _
      refine XS.ifYes X37.here hx rfl (pc0 := 11) (pc' := 21) rfl (hb hby at_11) rfl ((if0 _ _).trans (feq (by decide : ¬ ((2 : Int32) = (0 : Int32)))).2) (by decide) (by decide) ?_
      show Steps p.tables e below (T37.setTop (mkF m 21 #[.val (.int p1), .val (.int (2 : Int32)), .val (.ref a2v), .unset] [])) _
      refine XS.iloadN X37.here hx rfl (hb hby at_21) rfl ?_
      show Steps p.tables e below (T37.setTop (mkF m 22 #[.val (.int p1), .val (.int (2 : Int32)), .val (.ref a2v), .unset] [(.int (2 : Int32))])) _
      refine XS.iconst X37.here hx rfl (hb hby at_22) ?_
      show Steps p.tables e below (T37.setTop (mkF m 23 #[.val (.int p1), .val (.int (2 : Int32)), .val (.ref a2v), .unset] [(.int (1 : Int32)), (.int (2 : Int32))])) _
      refine XS.icmpYes X37.here hx rfl (pc0 := 23) (pc' := 33) rfl (hb hby at_23) rfl (feq (by decide : ¬ ((2 : Int32) = (1 : Int32)))).2 (by decide) (by decide) ?_
      show Steps p.tables e below (T37.setTop (mkF m 33 #[.val (.int p1), .val (.int (2 : Int32)), .val (.ref a2v), .unset] [])) _
      refine XS.iloadN X37.here hx rfl (hb hby at_33) rfl ?_
      show Steps p.tables e below (T37.setTop (mkF m 34 #[.val (.int p1), .val (.int (2 : Int32)), .val (.ref a2v), .unset] [(.int (2 : Int32))])) _
      refine XS.iconst X37.here hx rfl (hb hby at_34) ?_
      show Steps p.tables e below (T37.setTop (mkF m 35 #[.val (.int p1), .val (.int (2 : Int32)), .val (.ref a2v), .unset] [(.int (2 : Int32)), (.int (2 : Int32))])) _
      refine XS.icmpNo X37.here hx rfl (hb hby at_35) rfl (teq (rfl : (2 : Int32) = (2 : Int32))).2 ?_
      show Steps p.tables e below (T37.setTop (mkF m 38 #[.val (.int p1), .val (.int (2 : Int32)), .val (.ref a2v), .unset] [])) _
      refine st39 _ ?_
      show Steps p.tables e below (T39.setTop (mkF m 41 #[.val (.int p1), .val (.int (2 : Int32)), .val (.ref a2v), .unset] [(.ref a2v)])) _
      refine XS.astoreN X39.here hx rfl (hb hby at_41) rfl rfl (l' := #[.val (.int p1), .val (.int (2 : Int32)), .val (.ref a2v), .val (.ref a2v)]) rfl ?_
      show Steps p.tables e below (T39.setTop (mkF m 42 #[.val (.int p1), .val (.int (2 : Int32)), .val (.ref a2v), .val (.ref a2v)] [])) _
      refine XS.goto X39.here hx rfl (pc0 := 42) (pc' := 47) rfl (hb hby at_42) (by decide) (by decide) ?_
      show Steps p.tables e below (T39.setTop (mkF m 47 #[.val (.int p1), .val (.int (2 : Int32)), .val (.ref a2v), .val (.ref a2v)] [])) _
      refine XS.aloadN X39.here hx rfl (hb hby at_47) rfl rfl ?_
      show Steps p.tables e below (T39.setTop (mkF m 48 #[.val (.int p1), .val (.int (2 : Int32)), .val (.ref a2v), .val (.ref a2v)] [(.ref a2v)])) _
      refine XS.aloadN X39.here hx rfl (hb hby at_48) rfl rfl ?_
      show Steps p.tables e below (T39.setTop (mkF m 49 #[.val (.int p1), .val (.int (2 : Int32)), .val (.ref a2v), .val (.ref a2v)] [(.ref a2v), (.ref a2v)])) _
      refine Jvm.RoadKit.acmp (g := (mkF m 49 #[.val (.int p1), .val (.int (2 : Int32)), .val (.ref a2v), .val (.ref a2v)] [(.ref a2v), (.ref a2v)])) X39 hx rfl rfl rfl (pc0 := 49) (pc' := 54) (same := true) rfl (hb hby at_49) rfl (decide_eq_true rfl) (by decide) (by decide) ?_
      show Steps p.tables e below (T39.setTop (mkF m 54 #[.val (.int p1), .val (.int (2 : Int32)), .val (.ref a2v), .val (.ref a2v)] [])) _
      refine XS.aloadN X39.here hx rfl (hb hby at_54) rfl rfl ?_
      show Steps p.tables e below (T39.setTop (mkF m 55 #[.val (.int p1), .val (.int (2 : Int32)), .val (.ref a2v), .val (.ref a2v)] [(.ref a2v)])) _
      refine XS.ifnullNo X39.here hx rfl (hb hby at_55) rfl ?_
      show Steps p.tables e below (T39.setTop (mkF m 58 #[.val (.int p1), .val (.int (2 : Int32)), .val (.ref a2v), .val (.ref a2v)] [])) _
      refine XS.aloadN X39.here hx rfl (hb hby at_58) rfl rfl ?_
      show Steps p.tables e below (T39.setTop (mkF m 59 #[.val (.int p1), .val (.int (2 : Int32)), .val (.ref a2v), .val (.ref a2v)] [(.ref a2v)])) _
      refine st41.trans ?_
      show Steps p.tables e below (T41.setTop (mkF m 62 #[.val (.int p1), .val (.int (2 : Int32)), .val (.ref a2v), .val (.ref a2v)] [(.int (2 : Int32))])) _
      refine XS.iloadN X41.here hx rfl (hb hby at_62) rfl ?_
      show Steps p.tables e below (T41.setTop (mkF m 63 #[.val (.int p1), .val (.int (2 : Int32)), .val (.ref a2v), .val (.ref a2v)] [(.int (2 : Int32)), (.int (2 : Int32))])) _
      refine XS.icmpYes X41.here hx rfl (pc0 := 63) (pc' := 68) rfl (hb hby at_63) rfl (teq (rfl : (2 : Int32) = (2 : Int32))).1 (by decide) (by decide) ?_
      show Steps p.tables e below (T41.setTop (mkF m 68 #[.val (.int p1), .val (.int (2 : Int32)), .val (.ref a2v), .val (.ref a2v)] [])) _
      refine XS.iconst X41.here hx rfl (hb hby at_68) ?_
      exact kt
    obtain ⟨fs, hr, hrun, hended, hW, hsame⟩ := X41.leave (v := some (.int (1 : Int32))) (fun h => by rw [Bd.returns] at h; cases h)
    refine ⟨_, _, (pre0 _ (pre22 _ (pre43 _ ?_))), hrun, hended, _, _, rfl, ?_, ⟨_, rfl⟩, hW, hsame.mono (by decide) (by decide)⟩
    · show Steps p.tables e below (T41.setTop (mkF m 69 #[.val (.int p1), .val (.int (2 : Int32)), .val (.ref a2v), .val (.ref a2v)] [(.int (1 : Int32))])) _
      exact retN X41 hx (t := .boolean) Bd.returns (by simp) (hb hby at_69) hr
    · show Q0 Z p1 aV kV a0v a1v a2v h0 n0 _ T41.heap _
      exact ⟨rfl, N41⟩
  · skip
    obtain ⟨_, _, ⟨T44, L44, k44, n44⟩, -, X44, ⟨Lc44, hQ44, l44, y44, z44⟩, st44⟩ := Jvm.LawKit.callS X0 hx (y := (⟨"com/example/orbweaver/orbweaver/GiopVersion", "ofMinor", "(I)Lcom/example/orbweaver/orbweaver/GiopVersion;"⟩ : MethodName)) hown (mvT hZ (hw _ (List.mem_of_getElem? (i := 1) rfl))) (mvT hZ (hw _ (List.mem_of_getElem? (i := 2) rfl))) (mvT hZ (hw _ (List.mem_of_getElem? (i := 3) rfl))) (mvT hZ (hw _ (List.mem_of_getElem? (i := 4) rfl))) (by decide) (backOf (W := 0) (rmofN l Z a0 hw [] mm aV kV a0v a1v a2v h0 n0 Z0 SV AA EV k3) hZ (hw _ (List.mem_of_getElem? (i := 4) rfl)) (hw _ (List.mem_of_getElem? (i := 3) rfl)) (by decide) (by decide)) (g := (mkF m 6 #[.val (.int p1), .val (.int mm), .unset, .unset] [(.int mm)])) rfl (by rw [hml]; rfl) (argsL := [(.int mm)]) (rest := []) (lenOf pd__I_Lcom_example_orbweaver_orbweaver_GiopVersion_ rfl) rfl (by show 2 * 0 + _ ≤ _; exact Nat.le_of_eq rfl) (hb hby at_6) (fun _ _ => ⟨rfl, e0, (by decide : 0 + 1 ≤ _), (by decide : 0 + 3 ≤ _)⟩)
    dsimp only [Pt.U, Pt.locs, Pt.cells, Pt.slots] at X44 l44 y44 z44 st44 hQ44
    subst l44 y44 z44
    obtain ⟨rfl, N44q, EX44⟩ := hQ44
    have N44 := Fr.app N0 N44q
    have Z44 := Nat.le_trans Z0 EX44.1
    have K44 := (Keep.refl h0 []).ext EX44
    have pre45 : ∀ t, Steps p.tables e below (T44.setTop (mkF m 69 #[.val (.int p1), .val (.int mm), .val .null, .val .null] [(.int (1 : Int32))])) t → Steps p.tables e below (s₁.setTop (mkF m 4 #[.val (.int p1), .unset, .unset, .unset] [(.int mm)])) t := by
      intro t kt
      show Steps p.tables e below (s₁.setTop (mkF m 4 #[.val (.int p1), .unset, .unset, .unset] [(.int mm)])) _
      refine XS.istoreN X0.here hx rfl (hb hby at_4) rfl (l' := #[.val (.int p1), .val (.int mm), .unset, .unset]) rfl ?_
      show Steps p.tables e below (s₁.setTop (mkF m 5 #[.val (.int p1), .val (.int mm), .unset, .unset] [])) _
      refine XS.iloadN X0.here hx rfl (hb hby at_5) rfl ?_
      show Steps p.tables e below (s₁.setTop (mkF m 6 #[.val (.int p1), .val (.int mm), .unset, .unset] [(.int mm)])) _
      refine st44 _ ?_
      show Steps p.tables e below (T44.setTop (mkF m 9 #[.val (.int p1), .val (.int mm), .unset, .unset] [.null])) _
      refine XS.astoreN X44.here hx rfl (hb hby at_9) rfl rfl (l' := #[.val (.int p1), .val (.int mm), .val .null, .unset]) rfl ?_
      show Steps p.tables e below (T44.setTop (mkF m 10 #[.val (.int p1), .val (.int mm), .val .null, .unset] [])) _
      refine XS.iloadN X44.here hx rfl (hb hby at_10) rfl ?_
      show Steps p.tables e below (T44.setTop (mkF m 11 #[.val (.int p1), .val (.int mm), .val .null, .unset] [(.int mm)])) _
      refine XS.ifYes X44.here hx rfl (pc0 := 11) (pc' := 21) rfl (hb hby at_11) rfl ((if0 _ _).trans (feq (k0 : ¬ (mm = (0 : Int32)))).2) (by decide) (by decide) ?_
      show Steps p.tables e below (T44.setTop (mkF m 21 #[.val (.int p1), .val (.int mm), .val .null, .unset] [])) _
      refine XS.iloadN X44.here hx rfl (hb hby at_21) rfl ?_
      show Steps p.tables e below (T44.setTop (mkF m 22 #[.val (.int p1), .val (.int mm), .val .null, .unset] [(.int mm)])) _
      refine XS.iconst X44.here hx rfl (hb hby at_22) ?_
      show Steps p.tables e below (T44.setTop (mkF m 23 #[.val (.int p1), .val (.int mm), .val .null, .unset] [(.int (1 : Int32)), (.int mm)])) _
      refine XS.icmpYes X44.here hx rfl (pc0 := 23) (pc' := 33) rfl (hb hby at_23) rfl (feq (k1 : ¬ (mm = (1 : Int32)))).2 (by decide) (by decide) ?_
      show Steps p.tables e below (T44.setTop (mkF m 33 #[.val (.int p1), .val (.int mm), .val .null, .unset] [])) _
      refine XS.iloadN X44.here hx rfl (hb hby at_33) rfl ?_
      show Steps p.tables e below (T44.setTop (mkF m 34 #[.val (.int p1), .val (.int mm), .val .null, .unset] [(.int mm)])) _
      refine XS.iconst X44.here hx rfl (hb hby at_34) ?_
      show Steps p.tables e below (T44.setTop (mkF m 35 #[.val (.int p1), .val (.int mm), .val .null, .unset] [(.int (2 : Int32)), (.int mm)])) _
      refine XS.icmpYes X44.here hx rfl (pc0 := 35) (pc' := 45) rfl (hb hby at_35) rfl (feq (k2 : ¬ (mm = (2 : Int32)))).2 (by decide) (by decide) ?_
      show Steps p.tables e below (T44.setTop (mkF m 45 #[.val (.int p1), .val (.int mm), .val .null, .unset] [])) _
      refine XS.aconstNull X44.here hx rfl (hb hby at_45) ?_
      show Steps p.tables e below (T44.setTop (mkF m 46 #[.val (.int p1), .val (.int mm), .val .null, .unset] [.null])) _
      refine XS.astoreN X44.here hx rfl (hb hby at_46) rfl rfl (l' := #[.val (.int p1), .val (.int mm), .val .null, .val .null]) rfl ?_
      show Steps p.tables e below (T44.setTop (mkF m 47 #[.val (.int p1), .val (.int mm), .val .null, .val .null] [])) _
      refine XS.aloadN X44.here hx rfl (hb hby at_47) rfl rfl ?_
      show Steps p.tables e below (T44.setTop (mkF m 48 #[.val (.int p1), .val (.int mm), .val .null, .val .null] [.null])) _
      refine XS.aloadN X44.here hx rfl (hb hby at_48) rfl rfl ?_
      show Steps p.tables e below (T44.setTop (mkF m 49 #[.val (.int p1), .val (.int mm), .val .null, .val .null] [.null, .null])) _
      refine Jvm.RoadKit.acmp (g := (mkF m 49 #[.val (.int p1), .val (.int mm), .val .null, .val .null] [.null, .null])) X44 hx rfl rfl rfl (pc0 := 49) (pc' := 54) (same := true) rfl (hb hby at_49) rfl (decide_eq_true rfl) (by decide) (by decide) ?_
      show Steps p.tables e below (T44.setTop (mkF m 54 #[.val (.int p1), .val (.int mm), .val .null, .val .null] [])) _
      refine XS.aloadN X44.here hx rfl (hb hby at_54) rfl rfl ?_
      show Steps p.tables e below (T44.setTop (mkF m 55 #[.val (.int p1), .val (.int mm), .val .null, .val .null] [.null])) _
      refine XS.ifnullYes X44.here hx rfl (pc0 := 55) (pc' := 68) rfl (hb hby at_55) rfl (by decide) (by decide) ?_
      show Steps p.tables e below (T44.setTop (mkF m 68 #[.val (.int p1), .val (.int mm), .val .null, .val .null] [])) _
      refine XS.iconst X44.here hx rfl (hb hby at_68) ?_
      exact kt
    obtain ⟨fs, hr, hrun, hended, hW, hsame⟩ := X44.leave (v := some (.int (1 : Int32))) (fun h => by rw [Bd.returns] at h; cases h)
    refine ⟨_, _, (pre0 _ (pre22 _ (pre45 _ ?_))), hrun, hended, _, _, rfl, ?_, ⟨_, rfl⟩, hW, hsame.mono (by decide) (by decide)⟩
    · show Steps p.tables e below (T44.setTop (mkF m 69 #[.val (.int p1), .val (.int mm), .val .null, .val .null] [(.int (1 : Int32))])) _
      exact retN X44 hx (t := .boolean) Bd.returns (by simp) (hb hby at_69) hr
    · show Q0 Z p1 aV kV a0v a1v a2v h0 n0 _ T44.heap _
      exact ⟨rfl, N44⟩
set_option maxRecDepth 65536 in
set_option maxHeartbeats 40000000 in
theorem comes_1 {Post : Tables → Env → Array Value → State → Outcome → State → Prop} (hpost : ∀ tb e args s v u, (limb_1_1.after args s (.returned v) u = true ∧ limb_1_2.after args s (.returned v) u = true ∧ True) → FrameEnd s (.returned v) u (Jvm.fieldLocs frame_1_writes args s ++ Jvm.arrayLocs frame_1_arrays args s ++ Jvm.staticLocs frame_1_statics s) 16 128 → Post tb e args s (.returned v) u) :
    ArmFor flags0 classFile x code maxLocals ret World_1 tables_1 room_1 Calls_1 rest_1 Pre_1 Post := by
  intro l hfl _ _ p e ha hc hk s m args below hf hA hF happ hP
  obtain ⟨hcalls, hrest, hpre⟩ := hP
  obtain ⟨-, -, -, hnamed, -, -, -, hat⟩ := (Spec.applies_iff hf).mp happ
  obtain ⟨hg, hn⟩ := and_e (Cond.before_iff.mp (show (Jvm.Cond.and given_1 narrow_1).before args s = true from hpre))
  obtain ⟨gc, g0⟩ := and_e hg
  obtain ⟨w0, rfl⟩ : ∃ w0 : Value, args = #[w0] := by
    have hs : args.size = 1 := by simpa [Cond.value, given_1] using gc
    obtain ⟨L⟩ := args
    match L, hs with
    | [w0], _ => exact ⟨w0, rfl⟩
  have hw := fun d (hd : d ∈ tables_1) => atoms_spec (ws := Jvm.Cond.code x code maxLocals ret :: tables_1) hat d (List.mem_cons_of_mem _ hd)
  have hfit : Fit s := fun {y c} hc i hi => by
    obtain ⟨ha, rfl⟩ := Array.getElem?_eq_some_iff.mp hc
    have q := List.all_eq_true.mp ((Array.all_eq_true_iff_forall_mem.mp hF) _ (Array.getElem_mem ha)) i (List.mem_range.mpr hi)
    simpa [Array.getElem?_eq_getElem hi] using q
  obtain ⟨i0, ei0⟩ := is_v g0
  obtain rfl : w0 = (.int i0) := Option.some.inj ei0
  obtain ⟨n1, m1⟩ := and_e hn
  obtain ⟨n2, m2⟩ := and_e m1
  obtain ⟨n3, m3⟩ := and_e m2
  obtain ⟨n4, m4⟩ := and_e m3
  obtain ⟨n5, m5⟩ := and_e m4
  obtain ⟨n6, m6⟩ := and_e m5
  obtain ⟨n7, m7⟩ := and_e m6
  obtain ⟨n8, m8⟩ := and_e m7
  obtain ⟨n9, m9⟩ := and_e m8
  obtain ⟨n10, m10⟩ := and_e m9
  obtain ⟨n11, m11⟩ := and_e m10
  obtain ⟨aV, vV⟩ := exa_v n2
  obtain ⟨a0v, v0⟩ := exa_v n4
  obtain ⟨a1v, v1⟩ := exa_v n6
  obtain ⟨a2v, v2⟩ := exa_v n8
  obtain ⟨cV, AcV⟩ := Arr.start vV n1
  obtain ⟨ln1, ln2⟩ := own_len n3 vV AcV
  have SV := Sta.start vV (Or.inr ⟨(hw _ (List.mem_of_getElem? (i := 3) rfl)), (hw _ (List.mem_of_getElem? (i := 9) rfl))⟩)
  have S0 := Sta.start v0 (Or.inr ⟨(hw _ (List.mem_of_getElem? (i := 3) rfl)), (hw _ (List.mem_of_getElem? (i := 17) rfl))⟩)
  have E0 := Exa.start v0 n4
  have L0 := own_elem n5 vV v0 AcV
  have S1 := Sta.start v1 (Or.inr ⟨(hw _ (List.mem_of_getElem? (i := 3) rfl)), (hw _ (List.mem_of_getElem? (i := 18) rfl))⟩)
  have E1 := Exa.start v1 n6
  have L1 := own_elem n7 vV v1 AcV
  have S2 := Sta.start v2 (Or.inr ⟨(hw _ (List.mem_of_getElem? (i := 3) rfl)), (hw _ (List.mem_of_getElem? (i := 19) rfl))⟩)
  have E2 := Exa.start v2 n8
  have L2 := own_elem n9 vV v2 AcV
  have EV := Exa.start vV n2
  have F0 := own_fld n10 v0
  have F2 := own_fld n11 v2
  have F1 := own_fld m11 v1
  have AA : Arv s s.heap aV cV.cls (.object "com/example/orbweaver/orbweaver/GiopVersion") (3 : Int32) [.ref a0v, .ref a1v, .ref a2v] .null := Arv.start hfit AcV ln1 ln2 (by decide) rfl ⟨L0, L1, L2, trivial⟩
  obtain ⟨n, o, h1, h2, h3, _, L, rfl, ⟨rfl, N⟩, hq⟩ := rm0 l s _ hw tables_1 i0 aV cV.cls a0v a1v a2v s.heap s.heap.size (Nat.le_refl _) SV AA EV S0 E0 F0 S1 E1 F1 S2 E2 F2 p e ha hc hk s m _ below hf ((Spec.applies_iff_loose hf).mp happ).1 ⟨rfl, State.Warmed39.refl s, rfl⟩ trivial
  refine ⟨n, _, h1, h2, h3, hpost _ _ _ _ _ _ ⟨Cond.after_iff.mpr rfl, Cond.after_iff.mpr (eq_i res_at (Term.int_eval (1)) rfl), trivial⟩ ⟨hq.1, hq.2.1, (hq.2.2.sift fun y hy => Or.inr (N y hy)).mono (by decide) (by decide)⟩⟩
theorem main_1_1 : Claimed_1_1 := comes_1 fun _ _ _ _ _ _ h hF => ⟨h.1, hF⟩
theorem main_1_2 : Claimed_1_2 := comes_1 fun _ _ _ _ _ _ h hF => ⟨h.2.1, hF⟩
end Jvm.Pilot.@@N@@
namespace Jvm.Pilot.@@N@@
open Jvm Jvm.ClassFile Sem Op Lib Jvm.Free Jvm.Stand Jvm.Pilot.@@N@@.Jvm.D
/-! MADE BY PROGRAM (witnessworld.py) out of the Statement's table words and the real class files: 13 classes; the members and pool entries that the words name. The judged class is class 1, her method 1. -/
namespace start1
open Jvm.ClassFile
def u (s : String) : CpInfo := .utf8 (stringToUtf16 s)
/-- a pool by its gaps: so many unusable entries, then the entry; so many at the end -/
def gap : Nat → List CpInfo → List CpInfo
  | 0, r => r
  | n + 1, r => .unusable :: gap n r
def poolList (es : List (Nat × CpInfo)) (last : Nat) : List CpInfo := es.foldr (fun e r => gap e.1 (e.2 :: r)) (gap last [])
def pool (es : List (Nat × CpInfo)) (last : Nat) : Array CpInfo := ⟨poolList es last⟩
def fileOf (pool : Array CpInfo) (this : Nat) (attrs : Array Attribute := #[]) (ms : Array MethodInfo := #[]) (fl : Nat := 33) (sup : Nat := 0) (ifs : Array Nat := #[]) (fds : Array FieldInfo := #[]) : ClassFile where
  minorVersion := 0
  majorVersion := 65
  constantPool := pool
  accessFlags := fl
  thisClass := this
  superClass := sup
  interfaces := ifs
  fields := fds
  methods := ms
  attributes := attrs
def plain (name : String) (sup : Option ClassId) : Class where
  name := name
  kind := .ordinary
  loader := none
  accessFlags := 33
  super := sup
  interfaces := #[]
  cf := none
  fields := #[]
  methods := #[]
  instanceTypes := #[]
  staticTypes := #[]
  resolved := #[]
  callSites := []
  init := .initialized
  statics := none
  mirror := none

def pool0 : Array CpInfo := pool [(5, u "<init>"), (0, u "()V"), (1, .class_ 10), (1, u "java/lang/Object"), (85, u "clone"), (0, u "()Ljava/lang/Object;")] 26

def k0m0 : Method := { name := "<init>", desc := "()V", sig := { parameters := [], returnType := none }, accessFlags := 1, code := none }
def k0m1 : Method := { name := "clone", desc := "()Ljava/lang/Object;", sig := { parameters := [], returnType := some (.object "java/lang/Object") }, accessFlags := 260, code := none }
/-- java/lang/Object -/
def k0 : Class := { plain "java/lang/Object" none with
  accessFlags := 33
  interfaces := #[]
  cf := some (fileOf pool0 8 #[] #[{ accessFlags := 1, nameIndex := 5, descriptorIndex := 6, attributes := #[] }, { accessFlags := 260, nameIndex := 96, descriptorIndex := 97, attributes := #[] }] 33 0 #[] #[])
  fields := #[]
  methods := #[k0m0, k0m1]
  instanceTypes := #[]
  staticTypes := #[]
  resolved := Array.replicate 124 none
  statics := none }

def pool1 : Array CpInfo := pool [(2, .class_ 4), (1, u "java/lang/Object"), (0, u "<init>"), (0, u "()V"), (0, .integer 2147483647), (0, .methodref 9 10), (0, .class_ 11), (0, .nameAndType 12 13), (0, u "com/example/orbweaver/orbweaver/GiopVersion"), (0, u "ofMinor"), (0, u "(I)Lcom/example/orbweaver/orbweaver/GiopVersion;"), (0, .fieldref 9 15), (0, .nameAndType 16 17), (0, u "V1_0"), (0, u "Lcom/example/orbweaver/orbweaver/GiopVersion;"), (0, .fieldref 9 19), (0, .nameAndType 20 17), (0, u "V1_1"), (0, .fieldref 9 22), (0, .nameAndType 23 17), (0, u "V1_2"), (0, .methodref 9 25), (0, .nameAndType 26 27), (0, u "minor"), (0, u "()I"), (0, .class_ 29), (0, u "com/example/orbweaver/orbweaver/GiopVersionOfMinorPinLaw"), (2, u "law"), (0, u "(I)Z")] 3

def k1m0 : Method := { name := "<init>", desc := "()V", sig := { parameters := [], returnType := none }, accessFlags := 1, code := none }
def k1c1 : Code := { maxStack := 2, maxLocals := 4, code := code, exceptionTable := #[], attributes := #[] }
def k1m1 : Method := { name := "law", desc := "(I)Z", sig := { parameters := [.int], returnType := some .boolean }, accessFlags := 9, code := some k1c1 }
/-- com/example/orbweaver/orbweaver/GiopVersionOfMinorPinLaw -/
def k1 : Class := { plain "com/example/orbweaver/orbweaver/GiopVersionOfMinorPinLaw" (some 0) with
  accessFlags := 49
  interfaces := #[]
  cf := some (fileOf pool1 28 #[] #[{ accessFlags := 1, nameIndex := 5, descriptorIndex := 6, attributes := #[] }, { accessFlags := 9, nameIndex := 32, descriptorIndex := 33, attributes := #[] }] 49 2 #[] #[])
  fields := #[]
  methods := #[k1m0, k1m1]
  instanceTypes := #[]
  staticTypes := #[]
  resolved := Array.replicate 37 none
  statics := none }

def pool2 : Array CpInfo := pool [(1, .class_ 2), (0, u "java/lang/constant/Constable"), (0, .class_ 4), (0, u "java/lang/Object")] 6

/-- java/lang/constant/Constable -/
def k2 : Class := { plain "java/lang/constant/Constable" (some 0) with
  accessFlags := 1537
  interfaces := #[]
  cf := some (fileOf pool2 1 #[] #[] 1537 3 #[] #[])
  fields := #[]
  methods := #[]
  instanceTypes := #[]
  staticTypes := #[]
  resolved := Array.replicate 11 none
  statics := none }

def pool3 : Array CpInfo := pool [(1, .class_ 2), (0, u "java/lang/Comparable"), (0, .class_ 4), (0, u "java/lang/Object")] 7

/-- java/lang/Comparable -/
def k3 : Class := { plain "java/lang/Comparable" (some 0) with
  accessFlags := 1537
  interfaces := #[]
  cf := some (fileOf pool3 1 #[] #[] 1537 3 #[] #[])
  fields := #[]
  methods := #[]
  instanceTypes := #[]
  staticTypes := #[]
  resolved := Array.replicate 12 none
  statics := none }

def pool4 : Array CpInfo := pool [(1, .class_ 2), (0, u "java/io/Serializable"), (0, .class_ 4), (0, u "java/lang/Object")] 2

/-- java/io/Serializable -/
def k4 : Class := { plain "java/io/Serializable" (some 0) with
  accessFlags := 1537
  interfaces := #[]
  cf := some (fileOf pool4 1 #[] #[] 1537 3 #[] #[])
  fields := #[]
  methods := #[]
  instanceTypes := #[]
  staticTypes := #[]
  resolved := Array.replicate 7 none
  statics := none }

def pool5 : Array CpInfo := pool [(2, .class_ 4), (1, u "java/lang/Enum"), (0, u "name"), (0, u "Ljava/lang/String;"), (2, u "ordinal"), (0, u "I"), (1, .class_ 14), (1, u "java/lang/Object"), (4, u "hash"), (86, .class_ 108), (1, u "java/lang/Enum$EnumDesc"), (2, .class_ 112), (0, u "java/lang/constant/Constable"), (0, .class_ 114), (0, u "java/lang/Comparable"), (0, .class_ 116), (0, u "java/io/Serializable")] 87

/-- java/lang/Enum -/
def k5 : Class := { plain "java/lang/Enum" (some 0) with
  accessFlags := 1057
  interfaces := #[2, 3, 4]
  cf := some (fileOf pool5 2 #[.nestMembers #[106]] #[] 1057 12 #[111, 113, 115] #[{ accessFlags := 18, nameIndex := 5, descriptorIndex := 6, attributes := #[] }, { accessFlags := 18, nameIndex := 9, descriptorIndex := 10, attributes := #[] }, { accessFlags := 2, nameIndex := 19, descriptorIndex := 10, attributes := #[] }])
  fields := #[{ name := "name", type := (.object "java/lang/String"), accessFlags := 18, slot := 0, constantValue := 0 }, { name := "ordinal", type := .int, accessFlags := 18, slot := 1, constantValue := 0 }, { name := "hash", type := .int, accessFlags := 2, slot := 2, constantValue := 0 }]
  methods := #[]
  instanceTypes := #[(.object "java/lang/String"), .int, .int]
  staticTypes := #[]
  resolved := Array.replicate 204 none
  statics := none }

def pool6 : Array CpInfo := pool [(1, .class_ 2), (0, u "com/example/orbweaver/orbweaver/GiopVersion"), (2, u "V1_0"), (0, u "Lcom/example/orbweaver/orbweaver/GiopVersion;"), (2, u "V1_1"), (2, u "V1_2"), (0, .fieldref 1 14), (0, .nameAndType 15 16), (0, u "$VALUES"), (0, u "[Lcom/example/orbweaver/orbweaver/GiopVersion;"), (0, .methodref 18 19), (0, .class_ 16), (0, .nameAndType 20 21), (0, u "clone"), (0, u "()Ljava/lang/Object;"), (1, .class_ 25), (1, u "java/lang/Enum"), (6, .fieldref 1 33), (0, .nameAndType 34 35), (0, u "minor"), (0, u "I"), (0, .methodref 1 37), (0, .nameAndType 38 39), (0, u "values"), (0, u "()[Lcom/example/orbweaver/orbweaver/GiopVersion;"), (19, u "MAJOR"), (8, u "()I"), (1, u "(I)Lcom/example/orbweaver/orbweaver/GiopVersion;"), (0, u "ofMinor")] 23

def k6c0 : Code := { maxStack := 1, maxLocals := 0, code := prog_37_method_1_code, exceptionTable := #[], attributes := #[] }
def k6m0 : Method := { name := "values", desc := "()[Lcom/example/orbweaver/orbweaver/GiopVersion;", sig := { parameters := [], returnType := some (.array (.object "com/example/orbweaver/orbweaver/GiopVersion")) }, accessFlags := 9, code := some k6c0 }
def k6c1 : Code := { maxStack := 1, maxLocals := 1, code := prog_37_method_4_code, exceptionTable := #[], attributes := #[] }
def k6m1 : Method := { name := "minor", desc := "()I", sig := { parameters := [], returnType := some .int }, accessFlags := 0, code := some k6c1 }
def k6c2 : Code := { maxStack := 2, maxLocals := 2, code := prog_37_method_6_code, exceptionTable := #[], attributes := #[] }
def k6m2 : Method := { name := "ofMinor", desc := "(I)Lcom/example/orbweaver/orbweaver/GiopVersion;", sig := { parameters := [.int], returnType := some (.object "com/example/orbweaver/orbweaver/GiopVersion") }, accessFlags := 8, code := some k6c2 }
/-- com/example/orbweaver/orbweaver/GiopVersion -/
def k6 : Class := { plain "com/example/orbweaver/orbweaver/GiopVersion" (some 5) with
  accessFlags := 16432
  interfaces := #[]
  cf := some (fileOf pool6 1 #[] #[{ accessFlags := 9, nameIndex := 38, descriptorIndex := 39, attributes := #[] }, { accessFlags := 0, nameIndex := 34, descriptorIndex := 68, attributes := #[] }, { accessFlags := 8, nameIndex := 71, descriptorIndex := 70, attributes := #[] }] 16432 23 #[] #[{ accessFlags := 16409, nameIndex := 5, descriptorIndex := 6, attributes := #[] }, { accessFlags := 16409, nameIndex := 9, descriptorIndex := 6, attributes := #[] }, { accessFlags := 16409, nameIndex := 12, descriptorIndex := 6, attributes := #[] }, { accessFlags := 24, nameIndex := 59, descriptorIndex := 35, attributes := #[] }, { accessFlags := 18, nameIndex := 34, descriptorIndex := 35, attributes := #[] }, { accessFlags := 4122, nameIndex := 15, descriptorIndex := 16, attributes := #[] }])
  fields := #[{ name := "V1_0", type := (.object "com/example/orbweaver/orbweaver/GiopVersion"), accessFlags := 16409, slot := 0, constantValue := 0 }, { name := "V1_1", type := (.object "com/example/orbweaver/orbweaver/GiopVersion"), accessFlags := 16409, slot := 1, constantValue := 0 }, { name := "V1_2", type := (.object "com/example/orbweaver/orbweaver/GiopVersion"), accessFlags := 16409, slot := 2, constantValue := 0 }, { name := "MAJOR", type := .int, accessFlags := 24, slot := 3, constantValue := 0 }, { name := "minor", type := .int, accessFlags := 18, slot := 3, constantValue := 0 }, { name := "$VALUES", type := (.array (.object "com/example/orbweaver/orbweaver/GiopVersion")), accessFlags := 4122, slot := 4, constantValue := 0 }]
  methods := #[k6m0, k6m1, k6m2]
  instanceTypes := #[(.object "java/lang/String"), .int, .int, .int]
  staticTypes := #[(.object "com/example/orbweaver/orbweaver/GiopVersion"), (.object "com/example/orbweaver/orbweaver/GiopVersion"), (.object "com/example/orbweaver/orbweaver/GiopVersion"), .int, (.array (.object "com/example/orbweaver/orbweaver/GiopVersion"))]
  resolved := Array.replicate 95 none
  statics := some 0 }

def pool7 : Array CpInfo := pool [(1, .class_ 2), (0, u "java/lang/Cloneable"), (0, .class_ 4), (0, u "java/lang/Object")] 2

/-- java/lang/Cloneable -/
def k7 : Class := { plain "java/lang/Cloneable" (some 0) with
  accessFlags := 1537
  interfaces := #[]
  cf := some (fileOf pool7 1 #[] #[] 1537 3 #[] #[])
  fields := #[]
  methods := #[]
  instanceTypes := #[]
  staticTypes := #[]
  resolved := Array.replicate 7 none
  statics := none }

/-- the primitive byte -/
def k8 : Class := { plain "byte" none with kind := .primitive 'B', accessFlags := 0x411 }
/-- [B -/
def k9 : Class := { plain "[B" (some 0) with kind := .array 8 .byte, interfaces := #[7, 4], accessFlags := 1041 }

/-- the primitive int -/
def k10 : Class := { plain "int" none with kind := .primitive 'I', accessFlags := 0x411 }
/-- [I -/
def k11 : Class := { plain "[I" (some 0) with kind := .array 10 .int, interfaces := #[7, 4], accessFlags := 1041 }

/-- [Lcom/example/orbweaver/orbweaver/GiopVersion; -/
def k12 : Class := { plain "[Lcom/example/orbweaver/orbweaver/GiopVersion;" (some 0) with kind := .array 6 (.object "com/example/orbweaver/orbweaver/GiopVersion"), interfaces := #[7, 4], accessFlags := 1041 }

def heap : Heap := #[{ cls := 6, slots := #[.ref 2, .ref 3, .ref 4, .int 0, .ref 1], vm := .statics 6 },
  { cls := 12, slots := #[.ref 2, .ref 3, .ref 4], vm := .none },
  { cls := 6, slots := #[.null, .int 0, .int 0, .int 0], vm := .none },
  { cls := 6, slots := #[.null, .int 1, .int 0, .int 1], vm := .none },
  { cls := 6, slots := #[.null, .int 2, .int 0, .int 2], vm := .none }]
def classes : Array Class := #[k0, k1, k2, k3, k4, k5, k6, k7, k8, k9, k10, k11, k12]
def interned : List (Array UInt16 × Addr) := []
def slotsUsed : Nat := 20
def theMethod : MethodId := ⟨1, 1⟩
def args0 : Array Value := #[.int 5]
def aboutOver (below : List Frame) : State where
  vm := { classes := classes, interned := interned.toArray }
  heap := heap
  slotsUsed := slotsUsed
  threads := #[{ frames := .invoking theMethod args0 :: below }]
def below0 : List Frame := [.native { method := ⟨0, 0⟩, args := #[] }]
def about1 : State := aboutOver below0
def p0 : Program := .bare "" "" ""
def e0 : Env := launch0.env 0 0 0
theorem w_frames : about1.frames = Frame.invoking theMethod args0 :: below0 := rfl
set_option maxRecDepth 65536 in
theorem w_args : argsFit about1.vm theMethod args0 = true := by decide +kernel
set_option maxRecDepth 65536 in
theorem w_heap : heapFits about1 = true := by decide +kernel
set_option maxRecDepth 65536 in
theorem w_runnable : about1.curStatus? = some .runnable := by decide +kernel
set_option maxRecDepth 65536 in
theorem w_alone : about1.alone = true := by decide +kernel
set_option maxRecDepth 65536 in
theorem w_named : about1.methodNamed? x = some theMethod := by decide +kernel
set_option maxRecDepth 65536 in
theorem w_hears : about1.hears theMethod below0 = true := by decide +kernel
set_option maxRecDepth 65536 in
theorem w_ripe : about1.ripe theMethod args0 below0 = true := by decide +kernel
theorem w_running : about1.status = .running := rfl
set_option maxRecDepth 65536 in
theorem w_room : about1.hasRoom e0.platform room_1 = true :=
  launch0.hasRoom_least _ room_1 (by decide +kernel) (by decide +kernel) (by decide +kernel) (by decide +kernel) (by decide +kernel) (by decide +kernel)
theorem allAtoms_all (ts : List Jvm.Cond) (a : Array Jvm.Value) (st : Jvm.State) : (allAtoms ts).before a st = ts.all (fun c => c.before a st) := by
  induction ts with
  | nil => rfl
  | cons c t ih =>
    show (Jvm.Cond.and c (allAtoms t)).before a st = _
    rw [Jvm.Cond.before_and, ih, List.all_cons]
def words1 : List Jvm.Cond := Jvm.Cond.code x code maxLocals ret :: tables_1
/-- a 'code' word, met by the world's own term for the bytes: nothing is compared byte by byte -/
theorem code_word {y : MethodName} {bytes : ByteArray} {mx : Nat} {rt : Option FieldType} {a : Array Value} {s : State} {m : MethodId} {meth : Method} {c : Code} (h1 : s.methodNamed? y = some m) (h2 : s.vm.method? m = some meth) (h3 : meth.code = some c) (h4 : c.code = bytes)
    (h5 : (c.maxLocals == mx && c.exceptionTable.isEmpty && decide (c.maxStack ≤ mostOperands) && decide (meth.sig.returnType = rt) && !meth.locks && decide (parseMethodDescriptor y.desc = some meth.sig)) = true) : (Jvm.Cond.code y bytes mx rt).before a s = true := by
  simp only [Bool.and_eq_true, beq_iff_eq, Bool.not_eq_true', decide_eq_true_eq] at h5
  obtain ⟨⟨⟨⟨⟨g1, g2⟩, g3⟩, g4⟩, g5⟩, g6⟩ := h5
  simp [Cond.before, Cond.holds, Cond.value, h1, h2, h3, h4, g1, g2, g3, g4, g5, g6]
def isCode : Jvm.Cond → Bool
  | .code _ _ _ _ => true
  | _ => false
theorem all_split {L : List Jvm.Cond} {P : Jvm.Cond → Bool} (h1 : L.all (fun c => isCode c || P c) = true) (h2 : ∀ c ∈ L.filter isCode, P c = true) : L.all P = true := by
  refine List.all_eq_true.mpr fun c hc => ?_
  have h := List.all_eq_true.mp h1 c hc
  rcases Bool.eq_false_or_eq_true (isCode c) with hi | hi
  · exact h2 c (List.mem_filter.mpr ⟨hc, hi⟩)
  · simpa [hi] using h
set_option maxRecDepth 65536 in
theorem w_c0 : (Jvm.Cond.code x code maxLocals ret).before args0 about1 = true := code_word (m := ⟨1, 1⟩) (meth := k1m1) (c := k1c1) (by decide +kernel) rfl rfl rfl (by decide +kernel)
set_option maxRecDepth 65536 in
theorem w_c1 : (Jvm.Cond.code ({ cls := "com/example/orbweaver/orbweaver/GiopVersion", name := "ofMinor", desc := "(I)Lcom/example/orbweaver/orbweaver/GiopVersion;" } : Jvm.MethodName) prog_37_method_6_code (2 : Nat) (Option.some (Jvm.ClassFile.FieldType.object "com/example/orbweaver/orbweaver/GiopVersion"))).before args0 about1 = true := code_word (m := ⟨6, 2⟩) (meth := k6m2) (c := k6c2) (by decide +kernel) rfl rfl rfl (by decide +kernel)
set_option maxRecDepth 65536 in
theorem w_c2 : (Jvm.Cond.code ({ cls := "com/example/orbweaver/orbweaver/GiopVersion", name := "values", desc := "()[Lcom/example/orbweaver/orbweaver/GiopVersion;" } : Jvm.MethodName) prog_37_method_1_code (0 : Nat) (Option.some (Jvm.ClassFile.FieldType.array (Jvm.ClassFile.FieldType.object "com/example/orbweaver/orbweaver/GiopVersion")))).before args0 about1 = true := code_word (m := ⟨6, 0⟩) (meth := k6m0) (c := k6c0) (by decide +kernel) rfl rfl rfl (by decide +kernel)
set_option maxRecDepth 65536 in
theorem w_c3 : (Jvm.Cond.code ({ cls := "com/example/orbweaver/orbweaver/GiopVersion", name := "minor", desc := "()I" } : Jvm.MethodName) prog_37_method_4_code (1 : Nat) (Option.some Jvm.ClassFile.FieldType.int)).before args0 about1 = true := code_word (m := ⟨6, 1⟩) (meth := k6m1) (c := k6c1) (by decide +kernel) rfl rfl rfl (by decide +kernel)
def codes1 : List Jvm.Cond := [Jvm.Cond.code x code maxLocals ret, Jvm.Cond.code ({ cls := "com/example/orbweaver/orbweaver/GiopVersion", name := "ofMinor", desc := "(I)Lcom/example/orbweaver/orbweaver/GiopVersion;" } : Jvm.MethodName) prog_37_method_6_code (2 : Nat) (Option.some (Jvm.ClassFile.FieldType.object "com/example/orbweaver/orbweaver/GiopVersion")), Jvm.Cond.code ({ cls := "com/example/orbweaver/orbweaver/GiopVersion", name := "values", desc := "()[Lcom/example/orbweaver/orbweaver/GiopVersion;" } : Jvm.MethodName) prog_37_method_1_code (0 : Nat) (Option.some (Jvm.ClassFile.FieldType.array (Jvm.ClassFile.FieldType.object "com/example/orbweaver/orbweaver/GiopVersion"))), Jvm.Cond.code ({ cls := "com/example/orbweaver/orbweaver/GiopVersion", name := "minor", desc := "()I" } : Jvm.MethodName) prog_37_method_4_code (1 : Nat) (Option.some Jvm.ClassFile.FieldType.int)]
set_option maxRecDepth 65536 in
theorem codes_eq : words1.filter isCode = codes1 := rfl
theorem w_codes : ∀ c ∈ words1.filter isCode, c.before args0 about1 = true := by
  rw [codes_eq]
  intro c hc
  simp only [codes1, List.mem_cons, List.not_mem_nil, or_false] at hc
  rcases hc with rfl | rfl | rfl | rfl
  · exact w_c0
  · exact w_c1
  · exact w_c2
  · exact w_c3
set_option maxRecDepth 65536 in
theorem w_t1 : (words1.take 24).all (fun c => isCode c || c.before args0 about1) = true := by decide +kernel
set_option maxRecDepth 65536 in
theorem w_t2 : (words1.drop 24).all (fun c => isCode c || c.before args0 about1) = true := by decide +kernel
theorem w_tables : (allAtoms (Jvm.Cond.code x code maxLocals ret :: tables_1)).before args0 about1 = true := by
  rw [allAtoms_all]
  show words1.all (fun c => c.before args0 about1) = true
  refine all_split ?_ w_codes
  rw [← List.take_append_drop 24 words1, List.all_append, w_t1, w_t2]
  rfl
set_option maxRecDepth 65536 in
theorem w_case : (Jvm.Cond.and given_1 narrow_1).before args0 about1 = true := by decide +kernel
theorem w_applies : (headSpec (Jvm.Cond.code x code maxLocals ret :: tables_1) room_1).applies x e0.platform about1 = true :=
  (Spec.applies_iff w_frames).mpr ⟨w_running, w_runnable, w_alone, w_named, w_hears, w_ripe, w_room, w_tables⟩
theorem atStart : AtStart classFile x code maxLocals ret World_1 tables_1 room_1 Calls_1 rest_1 Pre_1 launch0 p0 e0 about1 theMethod args0 below0 :=
  ⟨lists_1, trivial, launch0.admits_env _ _ _, launch0.least_env, fairChoices_fair.cas, fairChoices_fair.clock, w_frames, w_args, w_heap, w_applies, trivial, trivial, w_case⟩
end start1
theorem witness_1 : WitnessClaimed_1 := ⟨start1.p0, start1.e0, start1.about1, start1.theMethod, start1.args0, start1.below0, start1.atStart⟩
end Jvm.Pilot.@@N@@
