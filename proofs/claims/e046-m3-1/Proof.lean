import JvmDerived
import JvmDerived.Pilot.@@N@@Statement
import JvmDerived.Pilot.@@N@@Code
set_option linter.unusedVariables false
set_option linter.unusedSimpArgs false
namespace Jvm.Pilot.@@N@@
open Jvm Jvm.ClassFile Sem Op Lib Jvm.Free Jvm.Stand Jvm.LawKit Jvm.RoadKit Bundle Jvm.Pilot.@@N@@.Jvm.D
theorem own_keq {h0 h h' : Heap} {ws : List Addr} (e : h' = h) (K : Keep h0 h ws) : Keep h0 h' ws := e ▸ K

def own_sl (p : Int32) : Int32 := if p = 86 then 0 else if p = 74 then 2 else if p = 68 then 2 else 1
theorem own_rng (p : Int32) : ¬ own_sl p < 0 ∧ ¬ 2 < own_sl p := by
  unfold own_sl; split
  · decide
  · split
    · decide
    · split <;> decide
def own_let (i : Nat) : Int32 := ([66, 67, 68, 70, 73, 74, 83, 90, 76, 91, 86] : List Int32).getD i 0
def own_sz (i : Nat) : Int32 := ([1, 1, 2, 1, 1, 2, 1, 1, 1, 1, 0] : List Int32).getD i 0
theorem own_small {i : Nat} (h : i < 11) : i = 0 ∨ i = 1 ∨ i = 2 ∨ i = 3 ∨ i = 4 ∨ i = 5 ∨ i = 6 ∨ i = 7 ∨ i = 8 ∨ i = 9 ∨ i = 10 := by omega
theorem own_atL {i : Nat} (h : i < 11) : ([(.int (66 : Int32)), (.int (67 : Int32)), (.int (68 : Int32)), (.int (70 : Int32)), (.int (73 : Int32)), (.int (74 : Int32)), (.int (83 : Int32)), (.int (90 : Int32)), (.int (76 : Int32)), (.int (91 : Int32)), (.int (86 : Int32))] : List Value).getD i (.int 0) = .int (own_let i) := by
  rcases own_small h with rfl | rfl | rfl | rfl | rfl | rfl | rfl | rfl | rfl | rfl | rfl <;> rfl
theorem own_atS {i : Nat} (h : i < 11) : ([(.int (1 : Int32)), (.int (1 : Int32)), (.int (2 : Int32)), (.int (1 : Int32)), (.int (1 : Int32)), (.int (2 : Int32)), (.int (1 : Int32)), (.int (1 : Int32)), (.int (1 : Int32)), (.int (1 : Int32)), (.int (0 : Int32))] : List Value).getD i (.int 0) = .int (own_sz i) := by
  rcases own_small h with rfl | rfl | rfl | rfl | rfl | rfl | rfl | rfl | rfl | rfl | rfl <;> rfl
theorem own_pin {i : Nat} (h : i < 11) : own_sl (own_let i) = own_sz i := by
  rcases own_small h with rfl | rfl | rfl | rfl | rfl | rfl | rfl | rfl | rfl | rfl | rfl <;> decide
theorem own_k (p : Int32) : 0 ≤ ((p &&& 2147483647) % 11).toInt ∧ ((p &&& 2147483647) % 11).toInt < 11 := by
  have h1 := c_mask p 2147483647 31 (by decide) (by decide)
  have h2 := (c_irem (p &&& 2147483647) 11 11 (by decide)).1 (by rw [h1]; omega)
  omega
theorem own_in {k : Int32} (h : 0 ≤ k.toInt ∧ k.toInt < 11) : (¬ k < 0 ∧ k < 11) ∧ k.toNatClampNeg < 11 := by
  refine ⟨⟨?_, ?_⟩, ?_⟩
  · rw [Int32.lt_iff_toInt_lt]; show ¬ k.toInt < 0; omega
  · rw [Int32.lt_iff_toInt_lt]; show k.toInt < 11; omega
  · simp only [Int32.toNatClampNeg]; omega
theorem ef_1 (m : MethodId) (x0 : Int32) : entryFrame m #[(.int x0)] 1 = mkF m 0 #[.val (.int x0)] [] := by (first | (simp [entryFrame, mkF, argsToLocals, Value.category]; done) | rfl)
def Q1 (Z : State) (p1 : Int32) (h0 : Heap) (n0 : Nat) (v : Option Value) (h : Heap) (L : List Loc) : Prop := v = some (.int (own_sl p1)) ∧ Fr n0 L ∧ h = h0
theorem pn_com_example_corvid_corvid_classfile_Descriptors : plainName "com/example/corvid/corvid/classfile/Descriptors" = true := by first | (simp [plainName, overriddenIn]; done) | decide +kernel
theorem d1_0 : decode prog_15_method_9_code 0 = .ok (.iload_n 0, 1) := by decide +kernel
theorem d1_1 : decode prog_15_method_9_code 1 = .ok (.bipush 86, 2) := by decide +kernel
theorem d1_3 : decode prog_15_method_9_code 3 = .ok (.if_icmp .ne 7, 3) := by decide +kernel
theorem d1_6 : decode prog_15_method_9_code 6 = .ok (.iconst 0, 1) := by decide +kernel
theorem d1_7 : decode prog_15_method_9_code 7 = .ok (.goto 20, 3) := by decide +kernel
theorem d1_27 : decode prog_15_method_9_code 27 = .ok (.ireturn, 1) := by decide +kernel
theorem d1_10 : decode prog_15_method_9_code 10 = .ok (.iload_n 0, 1) := by decide +kernel
theorem d1_11 : decode prog_15_method_9_code 11 = .ok (.bipush 74, 2) := by decide +kernel
theorem d1_13 : decode prog_15_method_9_code 13 = .ok (.if_icmp .eq 9, 3) := by decide +kernel
theorem d1_22 : decode prog_15_method_9_code 22 = .ok (.iconst 2, 1) := by decide +kernel
theorem d1_23 : decode prog_15_method_9_code 23 = .ok (.goto 4, 3) := by decide +kernel
theorem d1_16 : decode prog_15_method_9_code 16 = .ok (.iload_n 0, 1) := by decide +kernel
theorem d1_17 : decode prog_15_method_9_code 17 = .ok (.bipush 68, 2) := by decide +kernel
theorem d1_19 : decode prog_15_method_9_code 19 = .ok (.if_icmp .ne 7, 3) := by decide +kernel
theorem d1_26 : decode prog_15_method_9_code 26 = .ok (.iconst 1, 1) := by decide +kernel
set_option maxRecDepth 65536 in
set_option maxHeartbeats 40000000 in
theorem rm1 (l : Launch) (Z : State) (a0 : Array Value) (hw : ∀ d ∈ tables_1, d.before a0 Z = true) (ws : List Jvm.Cond) (p1 : Int32) (h0 : Heap) (n0 : Nat) (Z0 : n0 ≤ h0.size)  :
    MetFree l (⟨"com/example/corvid/corvid/classfile/Descriptors", "slots", "(C)I"⟩ : MethodName) (head1 (Jvm.Cond.code (⟨"com/example/corvid/corvid/classfile/Descriptors", "slots", "(C)I"⟩ : MethodName) prog_15_method_9_code 1 (some .int) :: ws) ({ frames := 0, cells := 0, slots := 0, locals := 0 } : Room)) (fun a U => a = #[(.int p1)] ∧ Z.Warmed39 U.vm ∧ U.heap = h0) (fun _ _ _ _ _ => True) (fun _ U o U' => ∃ v L, o = .returned v ∧ Q1 Z p1 h0 n0 v U'.heap L ∧ FrameEnd U o U' L ({ frames := 0, cells := 0, slots := 0, locals := 0 } : Room).cells ({ frames := 0, cells := 0, slots := 0, locals := 0 } : Room).slots) := by
  refine MetFree.of_bodySF (plainFor_of_name pn_com_example_corvid_corvid_classfile_Descriptors) hisR ?_
  intro p e s m args below meth c s₁ Bd hml0 hP hK
  obtain ⟨rfl, hZ, hh⟩ := hP
  have hx := Bd.exec
  have hby := Bd.bytes
  have hml : c.maxLocals = 1 := hml0
  have hown : s.vm.findClass "com/example/corvid/corvid/classfile/Descriptors" = some m.cls := findClass_of_methodNamed Bd.named
  have hnm := (name_of_methodNamed Bd.named Bd.method).1
  have X0 : Stand p l e ({ frames := 0, cells := 0, slots := 0, locals := 0 } : Room) s m #[(.int p1)] below meth c s₁ [] 0 0 := Stand.of_body Bd
  have e0 : s₁.heap = h0 := by rw [← hh, Bd.state]; rfl
  have N0 := Fr.nil n0
  have pre0 : ∀ t, Steps p.tables e below (s₁.setTop (mkF m 0 #[.val (.int p1)] [])) t → Steps p.tables e below (s₁.setTop (entryFrame m #[(.int p1)] 1)) t := fun t k => castTop (ef_1 m p1) k
  have pre1 : ∀ t, Steps p.tables e below (s₁.setTop (mkF m 3 #[.val (.int p1)] [(.int (86 : Int32)), (.int p1)])) t → Steps p.tables e below (s₁.setTop (mkF m 0 #[.val (.int p1)] [])) t := by
    intro t kt
    show Steps p.tables e below (s₁.setTop (mkF m 0 #[.val (.int p1)] [])) _
    refine XS.iloadN X0.here hx rfl (hb hby d1_0) rfl ?_
    show Steps p.tables e below (s₁.setTop (mkF m 1 #[.val (.int p1)] [(.int p1)])) _
    refine XS.bipush X0.here hx rfl (hb hby d1_1) ?_
    exact kt
  by_cases c3 : p1 = (86 : Int32)
  · skip
    have pre2 : ∀ t, Steps p.tables e below (s₁.setTop (mkF m 27 #[.val (.int p1)] [(.int (0 : Int32))])) t → Steps p.tables e below (s₁.setTop (mkF m 3 #[.val (.int p1)] [(.int (86 : Int32)), (.int p1)])) t := by
      intro t kt
      show Steps p.tables e below (s₁.setTop (mkF m 3 #[.val (.int p1)] [(.int (86 : Int32)), (.int p1)])) _
      refine XS.icmpNo X0.here hx rfl (hb hby d1_3) rfl (teq (c3 : p1 = (86 : Int32))).2 ?_
      show Steps p.tables e below (s₁.setTop (mkF m 6 #[.val (.int p1)] [])) _
      refine XS.iconst X0.here hx rfl (hb hby d1_6) ?_
      show Steps p.tables e below (s₁.setTop (mkF m 7 #[.val (.int p1)] [(.int (0 : Int32))])) _
      refine XS.goto X0.here hx rfl (pc0 := 7) (pc' := 27) rfl (hb hby d1_7) (by decide) (by decide) ?_
      exact kt
    have er : (0 : Int32) = own_sl p1 := by unfold own_sl; rw [if_pos c3]
    have pre3 : ∀ t, Steps p.tables e below (s₁.setTop (mkF m 27 #[.val (.int p1)] [(.int (own_sl p1))])) t → Steps p.tables e below (s₁.setTop (mkF m 27 #[.val (.int p1)] [(.int (0 : Int32))])) t := by
      intro t kt
      show Steps p.tables e below (s₁.setTop (mkF m 27 #[.val (.int p1)] [(.int (0 : Int32))])) _
      rw [er]
      exact kt
    obtain ⟨fs, hr, hrun, hended, hW, hsame⟩ := X0.leave (v := some (.int (own_sl p1))) (fun h => by rw [Bd.returns] at h; cases h)
    refine ⟨_, _, (pre0 _ (pre1 _ (pre2 _ (pre3 _ ?_)))), hrun, hended, _, _, rfl, ?_, ⟨_, rfl⟩, hW, hsame.mono (by decide) (by decide)⟩
    · show Steps p.tables e below (s₁.setTop (mkF m 27 #[.val (.int p1)] [(.int (own_sl p1))])) _
      exact retOut X0 hx (t := .int) Bd.returns rfl (Or.inl ⟨rfl, Or.inl rfl, _, rfl⟩) (hb hby d1_27) hr
    · show Q1 Z p1 h0 n0 _ s₁.heap _
      rw [e0]
      exact ⟨rfl, N0, rfl⟩
  · skip
    have pre4 : ∀ t, Steps p.tables e below (s₁.setTop (mkF m 13 #[.val (.int p1)] [(.int (74 : Int32)), (.int p1)])) t → Steps p.tables e below (s₁.setTop (mkF m 3 #[.val (.int p1)] [(.int (86 : Int32)), (.int p1)])) t := by
      intro t kt
      show Steps p.tables e below (s₁.setTop (mkF m 3 #[.val (.int p1)] [(.int (86 : Int32)), (.int p1)])) _
      refine XS.icmpYes X0.here hx rfl (pc0 := 3) (pc' := 10) rfl (hb hby d1_3) rfl (feq (c3 : ¬ (p1 = (86 : Int32)))).2 (by decide) (by decide) ?_
      show Steps p.tables e below (s₁.setTop (mkF m 10 #[.val (.int p1)] [])) _
      refine XS.iloadN X0.here hx rfl (hb hby d1_10) rfl ?_
      show Steps p.tables e below (s₁.setTop (mkF m 11 #[.val (.int p1)] [(.int p1)])) _
      refine XS.bipush X0.here hx rfl (hb hby d1_11) ?_
      exact kt
    by_cases c13 : p1 = (74 : Int32)
    · skip
      have pre5 : ∀ t, Steps p.tables e below (s₁.setTop (mkF m 27 #[.val (.int p1)] [(.int (2 : Int32))])) t → Steps p.tables e below (s₁.setTop (mkF m 13 #[.val (.int p1)] [(.int (74 : Int32)), (.int p1)])) t := by
        intro t kt
        show Steps p.tables e below (s₁.setTop (mkF m 13 #[.val (.int p1)] [(.int (74 : Int32)), (.int p1)])) _
        refine XS.icmpYes X0.here hx rfl (pc0 := 13) (pc' := 22) rfl (hb hby d1_13) rfl (teq (c13 : p1 = (74 : Int32))).1 (by decide) (by decide) ?_
        show Steps p.tables e below (s₁.setTop (mkF m 22 #[.val (.int p1)] [])) _
        refine XS.iconst X0.here hx rfl (hb hby d1_22) ?_
        show Steps p.tables e below (s₁.setTop (mkF m 23 #[.val (.int p1)] [(.int (2 : Int32))])) _
        refine XS.goto X0.here hx rfl (pc0 := 23) (pc' := 27) rfl (hb hby d1_23) (by decide) (by decide) ?_
        exact kt
      have er : (2 : Int32) = own_sl p1 := by unfold own_sl; rw [if_neg c3, if_pos c13]
      have pre6 : ∀ t, Steps p.tables e below (s₁.setTop (mkF m 27 #[.val (.int p1)] [(.int (own_sl p1))])) t → Steps p.tables e below (s₁.setTop (mkF m 27 #[.val (.int p1)] [(.int (2 : Int32))])) t := by
        intro t kt
        show Steps p.tables e below (s₁.setTop (mkF m 27 #[.val (.int p1)] [(.int (2 : Int32))])) _
        rw [er]
        exact kt
      obtain ⟨fs, hr, hrun, hended, hW, hsame⟩ := X0.leave (v := some (.int (own_sl p1))) (fun h => by rw [Bd.returns] at h; cases h)
      refine ⟨_, _, (pre0 _ (pre1 _ (pre4 _ (pre5 _ (pre6 _ ?_))))), hrun, hended, _, _, rfl, ?_, ⟨_, rfl⟩, hW, hsame.mono (by decide) (by decide)⟩
      · show Steps p.tables e below (s₁.setTop (mkF m 27 #[.val (.int p1)] [(.int (own_sl p1))])) _
        exact retOut X0 hx (t := .int) Bd.returns rfl (Or.inl ⟨rfl, Or.inl rfl, _, rfl⟩) (hb hby d1_27) hr
      · show Q1 Z p1 h0 n0 _ s₁.heap _
        rw [e0]
        exact ⟨rfl, N0, rfl⟩
    · skip
      have pre7 : ∀ t, Steps p.tables e below (s₁.setTop (mkF m 19 #[.val (.int p1)] [(.int (68 : Int32)), (.int p1)])) t → Steps p.tables e below (s₁.setTop (mkF m 13 #[.val (.int p1)] [(.int (74 : Int32)), (.int p1)])) t := by
        intro t kt
        show Steps p.tables e below (s₁.setTop (mkF m 13 #[.val (.int p1)] [(.int (74 : Int32)), (.int p1)])) _
        refine XS.icmpNo X0.here hx rfl (hb hby d1_13) rfl (feq (c13 : ¬ (p1 = (74 : Int32)))).1 ?_
        show Steps p.tables e below (s₁.setTop (mkF m 16 #[.val (.int p1)] [])) _
        refine XS.iloadN X0.here hx rfl (hb hby d1_16) rfl ?_
        show Steps p.tables e below (s₁.setTop (mkF m 17 #[.val (.int p1)] [(.int p1)])) _
        refine XS.bipush X0.here hx rfl (hb hby d1_17) ?_
        exact kt
      by_cases c19 : p1 = (68 : Int32)
      · skip
        have pre8 : ∀ t, Steps p.tables e below (s₁.setTop (mkF m 27 #[.val (.int p1)] [(.int (2 : Int32))])) t → Steps p.tables e below (s₁.setTop (mkF m 19 #[.val (.int p1)] [(.int (68 : Int32)), (.int p1)])) t := by
          intro t kt
          show Steps p.tables e below (s₁.setTop (mkF m 19 #[.val (.int p1)] [(.int (68 : Int32)), (.int p1)])) _
          refine XS.icmpNo X0.here hx rfl (hb hby d1_19) rfl (teq (c19 : p1 = (68 : Int32))).2 ?_
          show Steps p.tables e below (s₁.setTop (mkF m 22 #[.val (.int p1)] [])) _
          refine XS.iconst X0.here hx rfl (hb hby d1_22) ?_
          show Steps p.tables e below (s₁.setTop (mkF m 23 #[.val (.int p1)] [(.int (2 : Int32))])) _
          refine XS.goto X0.here hx rfl (pc0 := 23) (pc' := 27) rfl (hb hby d1_23) (by decide) (by decide) ?_
          exact kt
        have er : (2 : Int32) = own_sl p1 := by unfold own_sl; rw [if_neg c3, if_neg c13, if_pos c19]
        have pre9 : ∀ t, Steps p.tables e below (s₁.setTop (mkF m 27 #[.val (.int p1)] [(.int (own_sl p1))])) t → Steps p.tables e below (s₁.setTop (mkF m 27 #[.val (.int p1)] [(.int (2 : Int32))])) t := by
          intro t kt
          show Steps p.tables e below (s₁.setTop (mkF m 27 #[.val (.int p1)] [(.int (2 : Int32))])) _
          rw [er]
          exact kt
        obtain ⟨fs, hr, hrun, hended, hW, hsame⟩ := X0.leave (v := some (.int (own_sl p1))) (fun h => by rw [Bd.returns] at h; cases h)
        refine ⟨_, _, (pre0 _ (pre1 _ (pre4 _ (pre7 _ (pre8 _ (pre9 _ ?_)))))), hrun, hended, _, _, rfl, ?_, ⟨_, rfl⟩, hW, hsame.mono (by decide) (by decide)⟩
        · show Steps p.tables e below (s₁.setTop (mkF m 27 #[.val (.int p1)] [(.int (own_sl p1))])) _
          exact retOut X0 hx (t := .int) Bd.returns rfl (Or.inl ⟨rfl, Or.inl rfl, _, rfl⟩) (hb hby d1_27) hr
        · show Q1 Z p1 h0 n0 _ s₁.heap _
          rw [e0]
          exact ⟨rfl, N0, rfl⟩
      · skip
        have pre10 : ∀ t, Steps p.tables e below (s₁.setTop (mkF m 27 #[.val (.int p1)] [(.int (1 : Int32))])) t → Steps p.tables e below (s₁.setTop (mkF m 19 #[.val (.int p1)] [(.int (68 : Int32)), (.int p1)])) t := by
          intro t kt
          show Steps p.tables e below (s₁.setTop (mkF m 19 #[.val (.int p1)] [(.int (68 : Int32)), (.int p1)])) _
          refine XS.icmpYes X0.here hx rfl (pc0 := 19) (pc' := 26) rfl (hb hby d1_19) rfl (feq (c19 : ¬ (p1 = (68 : Int32)))).2 (by decide) (by decide) ?_
          show Steps p.tables e below (s₁.setTop (mkF m 26 #[.val (.int p1)] [])) _
          refine XS.iconst X0.here hx rfl (hb hby d1_26) ?_
          exact kt
        have er : (1 : Int32) = own_sl p1 := by unfold own_sl; rw [if_neg c3, if_neg c13, if_neg c19]
        have pre11 : ∀ t, Steps p.tables e below (s₁.setTop (mkF m 27 #[.val (.int p1)] [(.int (own_sl p1))])) t → Steps p.tables e below (s₁.setTop (mkF m 27 #[.val (.int p1)] [(.int (1 : Int32))])) t := by
          intro t kt
          show Steps p.tables e below (s₁.setTop (mkF m 27 #[.val (.int p1)] [(.int (1 : Int32))])) _
          rw [er]
          exact kt
        obtain ⟨fs, hr, hrun, hended, hW, hsame⟩ := X0.leave (v := some (.int (own_sl p1))) (fun h => by rw [Bd.returns] at h; cases h)
        refine ⟨_, _, (pre0 _ (pre1 _ (pre4 _ (pre7 _ (pre10 _ (pre11 _ ?_)))))), hrun, hended, _, _, rfl, ?_, ⟨_, rfl⟩, hW, hsame.mono (by decide) (by decide)⟩
        · show Steps p.tables e below (s₁.setTop (mkF m 27 #[.val (.int p1)] [(.int (own_sl p1))])) _
          exact retOut X0 hx (t := .int) Bd.returns rfl (Or.inl ⟨rfl, Or.inl rfl, _, rfl⟩) (hb hby d1_27) hr
        · show Q1 Z p1 h0 n0 _ s₁.heap _
          rw [e0]
          exact ⟨rfl, N0, rfl⟩
theorem ef_0 (m : MethodId) (x0 : Int32) (x1 : Int32) : entryFrame m #[(.int x0), (.int x1)] maxLocals = mkF m 0 #[.val (.int x0), .val (.int x1), .unset, .unset, .unset, .unset, .unset] [] := by (first | (simp [entryFrame, mkF, argsToLocals, Value.category, maxLocals]; done) | rfl)
def Q0 (Z : State) (p1 : Int32) (p2 : Int32) (h0 : Heap) (n0 : Nat) (v : Option Value) (h : Heap) (L : List Loc) : Prop := v = some (.int (1 : Int32)) ∧ Fr n0 L
theorem pn_com_example_corvid_corvid_classfile_DescriptorsSlotsPinLaw : plainName "com/example/corvid/corvid/classfile/DescriptorsSlotsPinLaw" = true := by first | (simp [plainName, overriddenIn]; done) | decide +kernel
theorem pd__C_I : parseMethodDescriptor "(C)I" = some ⟨[.char], some .int⟩ := by decide +kernel
set_option maxRecDepth 65536 in
set_option maxHeartbeats 40000000 in
theorem rm0 (l : Launch) (Z : State) (a0 : Array Value) (hw : ∀ d ∈ tables_1, d.before a0 Z = true) (ws : List Jvm.Cond) (p1 : Int32) (p2 : Int32) (h0 : Heap) (n0 : Nat) (Z0 : n0 ≤ h0.size)  :
    MetFree l x (head1 (Jvm.Cond.code x code maxLocals ret :: ws) room_1) (fun a U => a = #[(.int p1), (.int p2)] ∧ Z.Warmed39 U.vm ∧ U.heap = h0) (fun _ _ _ _ _ => True) (fun _ U o U' => ∃ v L, o = .returned v ∧ Q0 Z p1 p2 h0 n0 v U'.heap L ∧ FrameEnd U o U' L room_1.cells room_1.slots) := by
  refine MetFree.of_bodySF (plainFor_of_name pn_com_example_corvid_corvid_classfile_DescriptorsSlotsPinLaw) hisR ?_
  intro p e s m args below meth c s₁ Bd hml0 hP hK
  obtain ⟨rfl, hZ, hh⟩ := hP
  have hx := Bd.exec
  have hby := Bd.bytes
  have hml : c.maxLocals = 7 := hml0
  have hown : s.vm.findClass "com/example/corvid/corvid/classfile/DescriptorsSlotsPinLaw" = some m.cls := findClass_of_methodNamed Bd.named
  have hnm := (name_of_methodNamed Bd.named Bd.method).1
  have X0 : Stand p l e room_1 s m #[(.int p1), (.int p2)] below meth c s₁ [] 0 0 := Stand.of_body Bd
  have e0 : s₁.heap = h0 := by rw [← hh, Bd.state]; rfl
  have N0 := Fr.nil n0
  have pre0 : ∀ t, Steps p.tables e below (s₁.setTop (mkF m 0 #[.val (.int p1), .val (.int p2), .unset, .unset, .unset, .unset, .unset] [])) t → Steps p.tables e below (s₁.setTop (entryFrame m #[(.int p1), (.int p2)] maxLocals)) t := fun t k => castTop (ef_0 m p1 p2) k
  obtain ⟨T12, h12, k12, X12, e12, E12, A12, st12⟩ := newP X0 hx hZ (hw _ (List.mem_of_getElem? (i := 0) rfl)) e0 (g := (mkF m 2 #[.val (.int p1), .val (.int p2), .unset, .unset, .unset, .unset, .unset] [(.int (11 : Int32))])) rfl (hb hby at_2) rfl (by decide) (cap := 11) (by decide) (by decide) (by decide) (by decide)
  obtain ⟨b12, g12⟩ : ∃ z, z = h0.size := ⟨_, rfl⟩
  rw [← g12] at A12 st12
  have g_b12 : n0 ≤ b12 := Nat.le_trans Z0 (Nat.le_of_eq g12.symm)
  have sz_b12 : h0.size ≤ b12 := Nat.le_trans (Keep.refl h0 []).1 (Nat.le_of_eq g12.symm)
  have Z12 := Nat.le_trans Z0 E12.1
  have K12 := (Keep.refl h0 []).ext E12
  have V12 : Arv Z h12 b12 k12 .char (11 : Int32) [(.int (0 : Int32)), (.int (0 : Int32)), (.int (0 : Int32)), (.int (0 : Int32)), (.int (0 : Int32)), (.int (0 : Int32)), (.int (0 : Int32)), (.int (0 : Int32)), (.int (0 : Int32)), (.int (0 : Int32)), (.int (0 : Int32))] (.int (0 : Int32)) := (Arv.new A12 (by decide)).pad (pad_rep [] (.int (0 : Int32)) 11)
  obtain ⟨c13, Ar13, q13, S13, M13, H13, G13⟩ := id V12
  have hin13 : ¬ ((0 : Int32) < 0 ∨ c13.slots.size ≤ ((0 : Int32)).toNatClampNeg) := inb_of S13 ⟨by decide, by decide⟩
  obtain ⟨T14, h14, X14, e14, W14, st14⟩ := stC X12 hx hZ e12 Ar13 (j := (0 : Int32)) hin13 (g := (mkF m 8 #[.val (.int p1), .val (.int p2), .unset, .unset, .unset, .unset, .unset] [(.int (66 : Int32)), (.int (0 : Int32)), (.ref b12), (.ref b12)])) rfl rfl (hb hby at_8)
  have N14 := Fr.snoc X14 N0 g_b12
  have Z14 := Nat.le_trans Z12 (Keep.of_wr W14).1
  have K14 := K12.wr W14 (Or.inr sz_b12)
  have V14 : Arv Z h14 b12 k12 .char (11 : Int32) [(.int (66 : Int32)), (.int (0 : Int32)), (.int (0 : Int32)), (.int (0 : Int32)), (.int (0 : Int32)), (.int (0 : Int32)), (.int (0 : Int32)), (.int (0 : Int32)), (.int (0 : Int32)), (.int (0 : Int32)), (.int (0 : Int32))] (.int (0 : Int32)) := Arv.set Ar13 q13 S13 M13 H13 G13 (fits_nar_char _) W14 0 rfl (Nat.le_of_ble_eq_true rfl)
  obtain ⟨c15, Ar15, q15, S15, M15, H15, G15⟩ := id V14
  have hin15 : ¬ ((1 : Int32) < 0 ∨ c15.slots.size ≤ ((1 : Int32)).toNatClampNeg) := inb_of S15 ⟨by decide, by decide⟩
  obtain ⟨T16, h16, X16, e16, W16, st16⟩ := stC X14 hx hZ e14 Ar15 (j := (1 : Int32)) hin15 (g := (mkF m 13 #[.val (.int p1), .val (.int p2), .unset, .unset, .unset, .unset, .unset] [(.int (67 : Int32)), (.int (1 : Int32)), (.ref b12), (.ref b12)])) rfl rfl (hb hby at_13)
  have N16 := Fr.snoc X16 N14 g_b12
  have Z16 := Nat.le_trans Z14 (Keep.of_wr W16).1
  have K16 := K14.wr W16 (Or.inr sz_b12)
  have V16 : Arv Z h16 b12 k12 .char (11 : Int32) [(.int (66 : Int32)), (.int (67 : Int32)), (.int (0 : Int32)), (.int (0 : Int32)), (.int (0 : Int32)), (.int (0 : Int32)), (.int (0 : Int32)), (.int (0 : Int32)), (.int (0 : Int32)), (.int (0 : Int32)), (.int (0 : Int32))] (.int (0 : Int32)) := Arv.set Ar15 q15 S15 M15 H15 G15 (fits_nar_char _) W16 1 rfl (Nat.le_of_ble_eq_true rfl)
  obtain ⟨c17, Ar17, q17, S17, M17, H17, G17⟩ := id V16
  have hin17 : ¬ ((2 : Int32) < 0 ∨ c17.slots.size ≤ ((2 : Int32)).toNatClampNeg) := inb_of S17 ⟨by decide, by decide⟩
  obtain ⟨T18, h18, X18, e18, W18, st18⟩ := stC X16 hx hZ e16 Ar17 (j := (2 : Int32)) hin17 (g := (mkF m 18 #[.val (.int p1), .val (.int p2), .unset, .unset, .unset, .unset, .unset] [(.int (68 : Int32)), (.int (2 : Int32)), (.ref b12), (.ref b12)])) rfl rfl (hb hby at_18)
  have N18 := Fr.snoc X18 N16 g_b12
  have Z18 := Nat.le_trans Z16 (Keep.of_wr W18).1
  have K18 := K16.wr W18 (Or.inr sz_b12)
  have V18 : Arv Z h18 b12 k12 .char (11 : Int32) [(.int (66 : Int32)), (.int (67 : Int32)), (.int (68 : Int32)), (.int (0 : Int32)), (.int (0 : Int32)), (.int (0 : Int32)), (.int (0 : Int32)), (.int (0 : Int32)), (.int (0 : Int32)), (.int (0 : Int32)), (.int (0 : Int32))] (.int (0 : Int32)) := Arv.set Ar17 q17 S17 M17 H17 G17 (fits_nar_char _) W18 2 rfl (Nat.le_of_ble_eq_true rfl)
  obtain ⟨c19, Ar19, q19, S19, M19, H19, G19⟩ := id V18
  have hin19 : ¬ ((3 : Int32) < 0 ∨ c19.slots.size ≤ ((3 : Int32)).toNatClampNeg) := inb_of S19 ⟨by decide, by decide⟩
  obtain ⟨T20, h20, X20, e20, W20, st20⟩ := stC X18 hx hZ e18 Ar19 (j := (3 : Int32)) hin19 (g := (mkF m 23 #[.val (.int p1), .val (.int p2), .unset, .unset, .unset, .unset, .unset] [(.int (70 : Int32)), (.int (3 : Int32)), (.ref b12), (.ref b12)])) rfl rfl (hb hby at_23)
  have N20 := Fr.snoc X20 N18 g_b12
  have Z20 := Nat.le_trans Z18 (Keep.of_wr W20).1
  have K20 := K18.wr W20 (Or.inr sz_b12)
  have V20 : Arv Z h20 b12 k12 .char (11 : Int32) [(.int (66 : Int32)), (.int (67 : Int32)), (.int (68 : Int32)), (.int (70 : Int32)), (.int (0 : Int32)), (.int (0 : Int32)), (.int (0 : Int32)), (.int (0 : Int32)), (.int (0 : Int32)), (.int (0 : Int32)), (.int (0 : Int32))] (.int (0 : Int32)) := Arv.set Ar19 q19 S19 M19 H19 G19 (fits_nar_char _) W20 3 rfl (Nat.le_of_ble_eq_true rfl)
  obtain ⟨c21, Ar21, q21, S21, M21, H21, G21⟩ := id V20
  have hin21 : ¬ ((4 : Int32) < 0 ∨ c21.slots.size ≤ ((4 : Int32)).toNatClampNeg) := inb_of S21 ⟨by decide, by decide⟩
  obtain ⟨T22, h22, X22, e22, W22, st22⟩ := stC X20 hx hZ e20 Ar21 (j := (4 : Int32)) hin21 (g := (mkF m 28 #[.val (.int p1), .val (.int p2), .unset, .unset, .unset, .unset, .unset] [(.int (73 : Int32)), (.int (4 : Int32)), (.ref b12), (.ref b12)])) rfl rfl (hb hby at_28)
  have N22 := Fr.snoc X22 N20 g_b12
  have Z22 := Nat.le_trans Z20 (Keep.of_wr W22).1
  have K22 := K20.wr W22 (Or.inr sz_b12)
  have V22 : Arv Z h22 b12 k12 .char (11 : Int32) [(.int (66 : Int32)), (.int (67 : Int32)), (.int (68 : Int32)), (.int (70 : Int32)), (.int (73 : Int32)), (.int (0 : Int32)), (.int (0 : Int32)), (.int (0 : Int32)), (.int (0 : Int32)), (.int (0 : Int32)), (.int (0 : Int32))] (.int (0 : Int32)) := Arv.set Ar21 q21 S21 M21 H21 G21 (fits_nar_char _) W22 4 rfl (Nat.le_of_ble_eq_true rfl)
  obtain ⟨c23, Ar23, q23, S23, M23, H23, G23⟩ := id V22
  have hin23 : ¬ ((5 : Int32) < 0 ∨ c23.slots.size ≤ ((5 : Int32)).toNatClampNeg) := inb_of S23 ⟨by decide, by decide⟩
  obtain ⟨T24, h24, X24, e24, W24, st24⟩ := stC X22 hx hZ e22 Ar23 (j := (5 : Int32)) hin23 (g := (mkF m 33 #[.val (.int p1), .val (.int p2), .unset, .unset, .unset, .unset, .unset] [(.int (74 : Int32)), (.int (5 : Int32)), (.ref b12), (.ref b12)])) rfl rfl (hb hby at_33)
  have N24 := Fr.snoc X24 N22 g_b12
  have Z24 := Nat.le_trans Z22 (Keep.of_wr W24).1
  have K24 := K22.wr W24 (Or.inr sz_b12)
  have V24 : Arv Z h24 b12 k12 .char (11 : Int32) [(.int (66 : Int32)), (.int (67 : Int32)), (.int (68 : Int32)), (.int (70 : Int32)), (.int (73 : Int32)), (.int (74 : Int32)), (.int (0 : Int32)), (.int (0 : Int32)), (.int (0 : Int32)), (.int (0 : Int32)), (.int (0 : Int32))] (.int (0 : Int32)) := Arv.set Ar23 q23 S23 M23 H23 G23 (fits_nar_char _) W24 5 rfl (Nat.le_of_ble_eq_true rfl)
  obtain ⟨c25, Ar25, q25, S25, M25, H25, G25⟩ := id V24
  have hin25 : ¬ ((6 : Int32) < 0 ∨ c25.slots.size ≤ ((6 : Int32)).toNatClampNeg) := inb_of S25 ⟨by decide, by decide⟩
  obtain ⟨T26, h26, X26, e26, W26, st26⟩ := stC X24 hx hZ e24 Ar25 (j := (6 : Int32)) hin25 (g := (mkF m 39 #[.val (.int p1), .val (.int p2), .unset, .unset, .unset, .unset, .unset] [(.int (83 : Int32)), (.int (6 : Int32)), (.ref b12), (.ref b12)])) rfl rfl (hb hby at_39)
  have N26 := Fr.snoc X26 N24 g_b12
  have Z26 := Nat.le_trans Z24 (Keep.of_wr W26).1
  have K26 := K24.wr W26 (Or.inr sz_b12)
  have V26 : Arv Z h26 b12 k12 .char (11 : Int32) [(.int (66 : Int32)), (.int (67 : Int32)), (.int (68 : Int32)), (.int (70 : Int32)), (.int (73 : Int32)), (.int (74 : Int32)), (.int (83 : Int32)), (.int (0 : Int32)), (.int (0 : Int32)), (.int (0 : Int32)), (.int (0 : Int32))] (.int (0 : Int32)) := Arv.set Ar25 q25 S25 M25 H25 G25 (fits_nar_char _) W26 6 rfl (Nat.le_of_ble_eq_true rfl)
  obtain ⟨c27, Ar27, q27, S27, M27, H27, G27⟩ := id V26
  have hin27 : ¬ ((7 : Int32) < 0 ∨ c27.slots.size ≤ ((7 : Int32)).toNatClampNeg) := inb_of S27 ⟨by decide, by decide⟩
  obtain ⟨T28, h28, X28, e28, W28, st28⟩ := stC X26 hx hZ e26 Ar27 (j := (7 : Int32)) hin27 (g := (mkF m 45 #[.val (.int p1), .val (.int p2), .unset, .unset, .unset, .unset, .unset] [(.int (90 : Int32)), (.int (7 : Int32)), (.ref b12), (.ref b12)])) rfl rfl (hb hby at_45)
  have N28 := Fr.snoc X28 N26 g_b12
  have Z28 := Nat.le_trans Z26 (Keep.of_wr W28).1
  have K28 := K26.wr W28 (Or.inr sz_b12)
  have V28 : Arv Z h28 b12 k12 .char (11 : Int32) [(.int (66 : Int32)), (.int (67 : Int32)), (.int (68 : Int32)), (.int (70 : Int32)), (.int (73 : Int32)), (.int (74 : Int32)), (.int (83 : Int32)), (.int (90 : Int32)), (.int (0 : Int32)), (.int (0 : Int32)), (.int (0 : Int32))] (.int (0 : Int32)) := Arv.set Ar27 q27 S27 M27 H27 G27 (fits_nar_char _) W28 7 rfl (Nat.le_of_ble_eq_true rfl)
  obtain ⟨c29, Ar29, q29, S29, M29, H29, G29⟩ := id V28
  have hin29 : ¬ ((8 : Int32) < 0 ∨ c29.slots.size ≤ ((8 : Int32)).toNatClampNeg) := inb_of S29 ⟨by decide, by decide⟩
  obtain ⟨T30, h30, X30, e30, W30, st30⟩ := stC X28 hx hZ e28 Ar29 (j := (8 : Int32)) hin29 (g := (mkF m 51 #[.val (.int p1), .val (.int p2), .unset, .unset, .unset, .unset, .unset] [(.int (76 : Int32)), (.int (8 : Int32)), (.ref b12), (.ref b12)])) rfl rfl (hb hby at_51)
  have N30 := Fr.snoc X30 N28 g_b12
  have Z30 := Nat.le_trans Z28 (Keep.of_wr W30).1
  have K30 := K28.wr W30 (Or.inr sz_b12)
  have V30 : Arv Z h30 b12 k12 .char (11 : Int32) [(.int (66 : Int32)), (.int (67 : Int32)), (.int (68 : Int32)), (.int (70 : Int32)), (.int (73 : Int32)), (.int (74 : Int32)), (.int (83 : Int32)), (.int (90 : Int32)), (.int (76 : Int32)), (.int (0 : Int32)), (.int (0 : Int32))] (.int (0 : Int32)) := Arv.set Ar29 q29 S29 M29 H29 G29 (fits_nar_char _) W30 8 rfl (Nat.le_of_ble_eq_true rfl)
  obtain ⟨c31, Ar31, q31, S31, M31, H31, G31⟩ := id V30
  have hin31 : ¬ ((9 : Int32) < 0 ∨ c31.slots.size ≤ ((9 : Int32)).toNatClampNeg) := inb_of S31 ⟨by decide, by decide⟩
  obtain ⟨T32, h32, X32, e32, W32, st32⟩ := stC X30 hx hZ e30 Ar31 (j := (9 : Int32)) hin31 (g := (mkF m 57 #[.val (.int p1), .val (.int p2), .unset, .unset, .unset, .unset, .unset] [(.int (91 : Int32)), (.int (9 : Int32)), (.ref b12), (.ref b12)])) rfl rfl (hb hby at_57)
  have N32 := Fr.snoc X32 N30 g_b12
  have Z32 := Nat.le_trans Z30 (Keep.of_wr W32).1
  have K32 := K30.wr W32 (Or.inr sz_b12)
  have V32 : Arv Z h32 b12 k12 .char (11 : Int32) [(.int (66 : Int32)), (.int (67 : Int32)), (.int (68 : Int32)), (.int (70 : Int32)), (.int (73 : Int32)), (.int (74 : Int32)), (.int (83 : Int32)), (.int (90 : Int32)), (.int (76 : Int32)), (.int (91 : Int32)), (.int (0 : Int32))] (.int (0 : Int32)) := Arv.set Ar31 q31 S31 M31 H31 G31 (fits_nar_char _) W32 9 rfl (Nat.le_of_ble_eq_true rfl)
  obtain ⟨c33, Ar33, q33, S33, M33, H33, G33⟩ := id V32
  have hin33 : ¬ ((10 : Int32) < 0 ∨ c33.slots.size ≤ ((10 : Int32)).toNatClampNeg) := inb_of S33 ⟨by decide, by decide⟩
  obtain ⟨T34, h34, X34, e34, W34, st34⟩ := stC X32 hx hZ e32 Ar33 (j := (10 : Int32)) hin33 (g := (mkF m 63 #[.val (.int p1), .val (.int p2), .unset, .unset, .unset, .unset, .unset] [(.int (86 : Int32)), (.int (10 : Int32)), (.ref b12), (.ref b12)])) rfl rfl (hb hby at_63)
  have N34 := Fr.snoc X34 N32 g_b12
  have Z34 := Nat.le_trans Z32 (Keep.of_wr W34).1
  have K34 := K32.wr W34 (Or.inr sz_b12)
  have V34 : Arv Z h34 b12 k12 .char (11 : Int32) [(.int (66 : Int32)), (.int (67 : Int32)), (.int (68 : Int32)), (.int (70 : Int32)), (.int (73 : Int32)), (.int (74 : Int32)), (.int (83 : Int32)), (.int (90 : Int32)), (.int (76 : Int32)), (.int (91 : Int32)), (.int (86 : Int32))] (.int (0 : Int32)) := Arv.set Ar33 q33 S33 M33 H33 G33 (fits_nar_char _) W34 10 rfl (Nat.le_of_ble_eq_true rfl)
  have VL : Arv Z h34 b12 k12 .char (11 : Int32) [(.int (66 : Int32)), (.int (67 : Int32)), (.int (68 : Int32)), (.int (70 : Int32)), (.int (73 : Int32)), (.int (74 : Int32)), (.int (83 : Int32)), (.int (90 : Int32)), (.int (76 : Int32)), (.int (91 : Int32)), (.int (86 : Int32))] (.int (0 : Int32)) := V34
  obtain ⟨LL35, XL35, NL35⟩ : ∃ LL, Stand p l e room_1 s m #[(.int p1), (.int p2)] below meth c T34 LL 1 11 ∧ Fr n0 LL := ⟨_, X34, N34⟩
  obtain ⟨T36, h36, k36, X36, e36, E36, A36, st36⟩ := newP XL35 hx hZ (hw _ (List.mem_of_getElem? (i := 1) rfl)) e34 (g := (mkF m 67 #[.val (.int p1), .val (.int p2), .val (.ref b12), .unset, .unset, .unset, .unset] [(.int (11 : Int32))])) rfl (hb hby at_67) rfl (by decide) (cap := 11) (by decide) (by decide) (by decide) (by decide)
  obtain ⟨b36, g36⟩ : ∃ z, z = h34.size := ⟨_, rfl⟩
  rw [← g36] at A36 st36
  have g_b36 : n0 ≤ b36 := Nat.le_trans Z34 (Nat.le_of_eq g36.symm)
  have sz_b36 : h0.size ≤ b36 := Nat.le_trans K34.1 (Nat.le_of_eq g36.symm)
  have ne_b12_b36 : b12 ≠ b36 := Nat.ne_of_lt (Nat.lt_of_lt_of_le VL.lt (Nat.le_of_eq g36.symm))
  have Z36 := Nat.le_trans Z34 E36.1
  have K36 := K34.ext E36
  have V36 : Arv Z h36 b36 k36 .int (11 : Int32) [(.int (0 : Int32)), (.int (0 : Int32)), (.int (0 : Int32)), (.int (0 : Int32)), (.int (0 : Int32)), (.int (0 : Int32)), (.int (0 : Int32)), (.int (0 : Int32)), (.int (0 : Int32)), (.int (0 : Int32)), (.int (0 : Int32))] (.int (0 : Int32)) := (Arv.new A36 (by decide)).pad (pad_rep [] (.int (0 : Int32)) 11)
  obtain ⟨c37, Ar37, q37, S37, M37, H37, G37⟩ := id V36
  have hin37 : ¬ ((0 : Int32) < 0 ∨ c37.slots.size ≤ ((0 : Int32)).toNatClampNeg) := inb_of S37 ⟨by decide, by decide⟩
  obtain ⟨T38, h38, X38, e38, W38, st38⟩ := stI X36 hx hZ e36 Ar37 (j := (0 : Int32)) hin37 (g := (mkF m 72 #[.val (.int p1), .val (.int p2), .val (.ref b12), .unset, .unset, .unset, .unset] [(.int (1 : Int32)), (.int (0 : Int32)), (.ref b36), (.ref b36)])) rfl rfl (hb hby at_72)
  have N38 := Fr.snoc X38 NL35 g_b36
  have Z38 := Nat.le_trans Z36 (Keep.of_wr W38).1
  have K38 := K36.wr W38 (Or.inr sz_b36)
  have V38 : Arv Z h38 b36 k36 .int (11 : Int32) [(.int (1 : Int32)), (.int (0 : Int32)), (.int (0 : Int32)), (.int (0 : Int32)), (.int (0 : Int32)), (.int (0 : Int32)), (.int (0 : Int32)), (.int (0 : Int32)), (.int (0 : Int32)), (.int (0 : Int32)), (.int (0 : Int32))] (.int (0 : Int32)) := Arv.set Ar37 q37 S37 M37 H37 G37 rfl W38 0 rfl (Nat.le_of_ble_eq_true rfl)
  obtain ⟨c39, Ar39, q39, S39, M39, H39, G39⟩ := id V38
  have hin39 : ¬ ((1 : Int32) < 0 ∨ c39.slots.size ≤ ((1 : Int32)).toNatClampNeg) := inb_of S39 ⟨by decide, by decide⟩
  obtain ⟨T40, h40, X40, e40, W40, st40⟩ := stI X38 hx hZ e38 Ar39 (j := (1 : Int32)) hin39 (g := (mkF m 76 #[.val (.int p1), .val (.int p2), .val (.ref b12), .unset, .unset, .unset, .unset] [(.int (1 : Int32)), (.int (1 : Int32)), (.ref b36), (.ref b36)])) rfl rfl (hb hby at_76)
  have N40 := Fr.snoc X40 N38 g_b36
  have Z40 := Nat.le_trans Z38 (Keep.of_wr W40).1
  have K40 := K38.wr W40 (Or.inr sz_b36)
  have V40 : Arv Z h40 b36 k36 .int (11 : Int32) [(.int (1 : Int32)), (.int (1 : Int32)), (.int (0 : Int32)), (.int (0 : Int32)), (.int (0 : Int32)), (.int (0 : Int32)), (.int (0 : Int32)), (.int (0 : Int32)), (.int (0 : Int32)), (.int (0 : Int32)), (.int (0 : Int32))] (.int (0 : Int32)) := Arv.set Ar39 q39 S39 M39 H39 G39 rfl W40 1 rfl (Nat.le_of_ble_eq_true rfl)
  obtain ⟨c41, Ar41, q41, S41, M41, H41, G41⟩ := id V40
  have hin41 : ¬ ((2 : Int32) < 0 ∨ c41.slots.size ≤ ((2 : Int32)).toNatClampNeg) := inb_of S41 ⟨by decide, by decide⟩
  obtain ⟨T42, h42, X42, e42, W42, st42⟩ := stI X40 hx hZ e40 Ar41 (j := (2 : Int32)) hin41 (g := (mkF m 80 #[.val (.int p1), .val (.int p2), .val (.ref b12), .unset, .unset, .unset, .unset] [(.int (2 : Int32)), (.int (2 : Int32)), (.ref b36), (.ref b36)])) rfl rfl (hb hby at_80)
  have N42 := Fr.snoc X42 N40 g_b36
  have Z42 := Nat.le_trans Z40 (Keep.of_wr W42).1
  have K42 := K40.wr W42 (Or.inr sz_b36)
  have V42 : Arv Z h42 b36 k36 .int (11 : Int32) [(.int (1 : Int32)), (.int (1 : Int32)), (.int (2 : Int32)), (.int (0 : Int32)), (.int (0 : Int32)), (.int (0 : Int32)), (.int (0 : Int32)), (.int (0 : Int32)), (.int (0 : Int32)), (.int (0 : Int32)), (.int (0 : Int32))] (.int (0 : Int32)) := Arv.set Ar41 q41 S41 M41 H41 G41 rfl W42 2 rfl (Nat.le_of_ble_eq_true rfl)
  obtain ⟨c43, Ar43, q43, S43, M43, H43, G43⟩ := id V42
  have hin43 : ¬ ((3 : Int32) < 0 ∨ c43.slots.size ≤ ((3 : Int32)).toNatClampNeg) := inb_of S43 ⟨by decide, by decide⟩
  obtain ⟨T44, h44, X44, e44, W44, st44⟩ := stI X42 hx hZ e42 Ar43 (j := (3 : Int32)) hin43 (g := (mkF m 84 #[.val (.int p1), .val (.int p2), .val (.ref b12), .unset, .unset, .unset, .unset] [(.int (1 : Int32)), (.int (3 : Int32)), (.ref b36), (.ref b36)])) rfl rfl (hb hby at_84)
  have N44 := Fr.snoc X44 N42 g_b36
  have Z44 := Nat.le_trans Z42 (Keep.of_wr W44).1
  have K44 := K42.wr W44 (Or.inr sz_b36)
  have V44 : Arv Z h44 b36 k36 .int (11 : Int32) [(.int (1 : Int32)), (.int (1 : Int32)), (.int (2 : Int32)), (.int (1 : Int32)), (.int (0 : Int32)), (.int (0 : Int32)), (.int (0 : Int32)), (.int (0 : Int32)), (.int (0 : Int32)), (.int (0 : Int32)), (.int (0 : Int32))] (.int (0 : Int32)) := Arv.set Ar43 q43 S43 M43 H43 G43 rfl W44 3 rfl (Nat.le_of_ble_eq_true rfl)
  obtain ⟨c45, Ar45, q45, S45, M45, H45, G45⟩ := id V44
  have hin45 : ¬ ((4 : Int32) < 0 ∨ c45.slots.size ≤ ((4 : Int32)).toNatClampNeg) := inb_of S45 ⟨by decide, by decide⟩
  obtain ⟨T46, h46, X46, e46, W46, st46⟩ := stI X44 hx hZ e44 Ar45 (j := (4 : Int32)) hin45 (g := (mkF m 88 #[.val (.int p1), .val (.int p2), .val (.ref b12), .unset, .unset, .unset, .unset] [(.int (1 : Int32)), (.int (4 : Int32)), (.ref b36), (.ref b36)])) rfl rfl (hb hby at_88)
  have N46 := Fr.snoc X46 N44 g_b36
  have Z46 := Nat.le_trans Z44 (Keep.of_wr W46).1
  have K46 := K44.wr W46 (Or.inr sz_b36)
  have V46 : Arv Z h46 b36 k36 .int (11 : Int32) [(.int (1 : Int32)), (.int (1 : Int32)), (.int (2 : Int32)), (.int (1 : Int32)), (.int (1 : Int32)), (.int (0 : Int32)), (.int (0 : Int32)), (.int (0 : Int32)), (.int (0 : Int32)), (.int (0 : Int32)), (.int (0 : Int32))] (.int (0 : Int32)) := Arv.set Ar45 q45 S45 M45 H45 G45 rfl W46 4 rfl (Nat.le_of_ble_eq_true rfl)
  obtain ⟨c47, Ar47, q47, S47, M47, H47, G47⟩ := id V46
  have hin47 : ¬ ((5 : Int32) < 0 ∨ c47.slots.size ≤ ((5 : Int32)).toNatClampNeg) := inb_of S47 ⟨by decide, by decide⟩
  obtain ⟨T48, h48, X48, e48, W48, st48⟩ := stI X46 hx hZ e46 Ar47 (j := (5 : Int32)) hin47 (g := (mkF m 92 #[.val (.int p1), .val (.int p2), .val (.ref b12), .unset, .unset, .unset, .unset] [(.int (2 : Int32)), (.int (5 : Int32)), (.ref b36), (.ref b36)])) rfl rfl (hb hby at_92)
  have N48 := Fr.snoc X48 N46 g_b36
  have Z48 := Nat.le_trans Z46 (Keep.of_wr W48).1
  have K48 := K46.wr W48 (Or.inr sz_b36)
  have V48 : Arv Z h48 b36 k36 .int (11 : Int32) [(.int (1 : Int32)), (.int (1 : Int32)), (.int (2 : Int32)), (.int (1 : Int32)), (.int (1 : Int32)), (.int (2 : Int32)), (.int (0 : Int32)), (.int (0 : Int32)), (.int (0 : Int32)), (.int (0 : Int32)), (.int (0 : Int32))] (.int (0 : Int32)) := Arv.set Ar47 q47 S47 M47 H47 G47 rfl W48 5 rfl (Nat.le_of_ble_eq_true rfl)
  obtain ⟨c49, Ar49, q49, S49, M49, H49, G49⟩ := id V48
  have hin49 : ¬ ((6 : Int32) < 0 ∨ c49.slots.size ≤ ((6 : Int32)).toNatClampNeg) := inb_of S49 ⟨by decide, by decide⟩
  obtain ⟨T50, h50, X50, e50, W50, st50⟩ := stI X48 hx hZ e48 Ar49 (j := (6 : Int32)) hin49 (g := (mkF m 97 #[.val (.int p1), .val (.int p2), .val (.ref b12), .unset, .unset, .unset, .unset] [(.int (1 : Int32)), (.int (6 : Int32)), (.ref b36), (.ref b36)])) rfl rfl (hb hby at_97)
  have N50 := Fr.snoc X50 N48 g_b36
  have Z50 := Nat.le_trans Z48 (Keep.of_wr W50).1
  have K50 := K48.wr W50 (Or.inr sz_b36)
  have V50 : Arv Z h50 b36 k36 .int (11 : Int32) [(.int (1 : Int32)), (.int (1 : Int32)), (.int (2 : Int32)), (.int (1 : Int32)), (.int (1 : Int32)), (.int (2 : Int32)), (.int (1 : Int32)), (.int (0 : Int32)), (.int (0 : Int32)), (.int (0 : Int32)), (.int (0 : Int32))] (.int (0 : Int32)) := Arv.set Ar49 q49 S49 M49 H49 G49 rfl W50 6 rfl (Nat.le_of_ble_eq_true rfl)
  obtain ⟨c51, Ar51, q51, S51, M51, H51, G51⟩ := id V50
  have hin51 : ¬ ((7 : Int32) < 0 ∨ c51.slots.size ≤ ((7 : Int32)).toNatClampNeg) := inb_of S51 ⟨by decide, by decide⟩
  obtain ⟨T52, h52, X52, e52, W52, st52⟩ := stI X50 hx hZ e50 Ar51 (j := (7 : Int32)) hin51 (g := (mkF m 102 #[.val (.int p1), .val (.int p2), .val (.ref b12), .unset, .unset, .unset, .unset] [(.int (1 : Int32)), (.int (7 : Int32)), (.ref b36), (.ref b36)])) rfl rfl (hb hby at_102)
  have N52 := Fr.snoc X52 N50 g_b36
  have Z52 := Nat.le_trans Z50 (Keep.of_wr W52).1
  have K52 := K50.wr W52 (Or.inr sz_b36)
  have V52 : Arv Z h52 b36 k36 .int (11 : Int32) [(.int (1 : Int32)), (.int (1 : Int32)), (.int (2 : Int32)), (.int (1 : Int32)), (.int (1 : Int32)), (.int (2 : Int32)), (.int (1 : Int32)), (.int (1 : Int32)), (.int (0 : Int32)), (.int (0 : Int32)), (.int (0 : Int32))] (.int (0 : Int32)) := Arv.set Ar51 q51 S51 M51 H51 G51 rfl W52 7 rfl (Nat.le_of_ble_eq_true rfl)
  obtain ⟨c53, Ar53, q53, S53, M53, H53, G53⟩ := id V52
  have hin53 : ¬ ((8 : Int32) < 0 ∨ c53.slots.size ≤ ((8 : Int32)).toNatClampNeg) := inb_of S53 ⟨by decide, by decide⟩
  obtain ⟨T54, h54, X54, e54, W54, st54⟩ := stI X52 hx hZ e52 Ar53 (j := (8 : Int32)) hin53 (g := (mkF m 107 #[.val (.int p1), .val (.int p2), .val (.ref b12), .unset, .unset, .unset, .unset] [(.int (1 : Int32)), (.int (8 : Int32)), (.ref b36), (.ref b36)])) rfl rfl (hb hby at_107)
  have N54 := Fr.snoc X54 N52 g_b36
  have Z54 := Nat.le_trans Z52 (Keep.of_wr W54).1
  have K54 := K52.wr W54 (Or.inr sz_b36)
  have V54 : Arv Z h54 b36 k36 .int (11 : Int32) [(.int (1 : Int32)), (.int (1 : Int32)), (.int (2 : Int32)), (.int (1 : Int32)), (.int (1 : Int32)), (.int (2 : Int32)), (.int (1 : Int32)), (.int (1 : Int32)), (.int (1 : Int32)), (.int (0 : Int32)), (.int (0 : Int32))] (.int (0 : Int32)) := Arv.set Ar53 q53 S53 M53 H53 G53 rfl W54 8 rfl (Nat.le_of_ble_eq_true rfl)
  obtain ⟨c55, Ar55, q55, S55, M55, H55, G55⟩ := id V54
  have hin55 : ¬ ((9 : Int32) < 0 ∨ c55.slots.size ≤ ((9 : Int32)).toNatClampNeg) := inb_of S55 ⟨by decide, by decide⟩
  obtain ⟨T56, h56, X56, e56, W56, st56⟩ := stI X54 hx hZ e54 Ar55 (j := (9 : Int32)) hin55 (g := (mkF m 112 #[.val (.int p1), .val (.int p2), .val (.ref b12), .unset, .unset, .unset, .unset] [(.int (1 : Int32)), (.int (9 : Int32)), (.ref b36), (.ref b36)])) rfl rfl (hb hby at_112)
  have N56 := Fr.snoc X56 N54 g_b36
  have Z56 := Nat.le_trans Z54 (Keep.of_wr W56).1
  have K56 := K54.wr W56 (Or.inr sz_b36)
  have V56 : Arv Z h56 b36 k36 .int (11 : Int32) [(.int (1 : Int32)), (.int (1 : Int32)), (.int (2 : Int32)), (.int (1 : Int32)), (.int (1 : Int32)), (.int (2 : Int32)), (.int (1 : Int32)), (.int (1 : Int32)), (.int (1 : Int32)), (.int (1 : Int32)), (.int (0 : Int32))] (.int (0 : Int32)) := Arv.set Ar55 q55 S55 M55 H55 G55 rfl W56 9 rfl (Nat.le_of_ble_eq_true rfl)
  obtain ⟨c57, Ar57, q57, S57, M57, H57, G57⟩ := id V56
  have hin57 : ¬ ((10 : Int32) < 0 ∨ c57.slots.size ≤ ((10 : Int32)).toNatClampNeg) := inb_of S57 ⟨by decide, by decide⟩
  obtain ⟨T58, h58, X58, e58, W58, st58⟩ := stI X56 hx hZ e56 Ar57 (j := (10 : Int32)) hin57 (g := (mkF m 117 #[.val (.int p1), .val (.int p2), .val (.ref b12), .unset, .unset, .unset, .unset] [(.int (0 : Int32)), (.int (10 : Int32)), (.ref b36), (.ref b36)])) rfl rfl (hb hby at_117)
  have N58 := Fr.snoc X58 N56 g_b36
  have Z58 := Nat.le_trans Z56 (Keep.of_wr W58).1
  have K58 := K56.wr W58 (Or.inr sz_b36)
  have V58 : Arv Z h58 b36 k36 .int (11 : Int32) [(.int (1 : Int32)), (.int (1 : Int32)), (.int (2 : Int32)), (.int (1 : Int32)), (.int (1 : Int32)), (.int (2 : Int32)), (.int (1 : Int32)), (.int (1 : Int32)), (.int (1 : Int32)), (.int (1 : Int32)), (.int (0 : Int32))] (.int (0 : Int32)) := Arv.set Ar57 q57 S57 M57 H57 G57 rfl W58 10 rfl (Nat.le_of_ble_eq_true rfl)
  have VS : Arv Z h58 b36 k36 .int (11 : Int32) [(.int (1 : Int32)), (.int (1 : Int32)), (.int (2 : Int32)), (.int (1 : Int32)), (.int (1 : Int32)), (.int (2 : Int32)), (.int (1 : Int32)), (.int (1 : Int32)), (.int (1 : Int32)), (.int (1 : Int32)), (.int (0 : Int32))] (.int (0 : Int32)) := V58
  obtain ⟨LL59, XL59, NL59⟩ : ∃ LL, Stand p l e room_1 s m #[(.int p1), (.int p2)] below meth c T58 LL 2 22 ∧ Fr n0 LL := ⟨_, X58, N58⟩
  obtain ⟨k, hk⟩ : ∃ z, ((p1 &&& (2147483647 : Int32)) % (11 : Int32)) = z := ⟨_, rfl⟩
  have hkr : 0 ≤ k.toInt ∧ k.toInt < 11 := hk ▸ own_k p1
  obtain ⟨hk1, hk2⟩ := own_in hkr
  obtain ⟨lv, hlv⟩ : ∃ z, own_let k.toNatClampNeg = z := ⟨_, rfl⟩
  obtain ⟨sv, hsv⟩ : ∃ z, own_sz k.toNatClampNeg = z := ⟨_, rfl⟩
  have hpin : own_sl lv = sv := by rw [← hlv, ← hsv]; exact own_pin hk2
  have f60 := ((((((((((((VL.ext E36).other W38 ne_b12_b36).other W40 ne_b12_b36).other W42 ne_b12_b36).other W44 ne_b12_b36).other W46 ne_b12_b36).other W48 ne_b12_b36).other W50 ne_b12_b36).other W52 ne_b12_b36).other W54 ne_b12_b36).other W56 ne_b12_b36).other W58 ne_b12_b36)
  obtain ⟨c61, Ar61, q61, S61, M61, H61, G61⟩ := id f60
  have hin61 : ¬ (k < 0 ∨ c61.slots.size ≤ (k).toNatClampNeg) := inb_of S61 hk1
  have hat61 : c61.slots[(k).toNatClampNeg]? = some (.int lv) := (H61 _ (by rw [S61]; exact hk2)).trans (congrArg some ((own_atL hk2).trans (congrArg Value.int hlv)))
  obtain ⟨_, _, ⟨T62, L62, k62, n62⟩, -, X62, ⟨Lc62, hQ62, l62, y62, z62⟩, st62⟩ := Jvm.LawKit.callS XL59 hx (y := (⟨"com/example/corvid/corvid/classfile/Descriptors", "slots", "(C)I"⟩ : MethodName)) hown (mvT hZ (hw _ (List.mem_of_getElem? (i := 3) rfl))) (mvT hZ (hw _ (List.mem_of_getElem? (i := 4) rfl))) (mvT hZ (hw _ (List.mem_of_getElem? (i := 5) rfl))) (mvT hZ (hw _ (List.mem_of_getElem? (i := 6) rfl))) (by decide) (backOf (W := 0) (rm1 l Z a0 hw [] lv h58 n0 Z58) hZ (hw _ (List.mem_of_getElem? (i := 6) rfl)) (hw _ (List.mem_of_getElem? (i := 5) rfl)) (by decide) (by decide)) (g := (mkF m 132 #[.val (.int p1), .val (.int p2), .val (.ref b12), .val (.ref b36), .val (.int k), .unset, .unset] [(.int lv)])) rfl (by rw [hml]; rfl) (argsL := [(.int lv)]) (rest := []) (lenOf pd__C_I rfl) rfl (by show 2 * 0 + _ ≤ _; exact Nat.le_of_eq rfl) (hb hby at_132) (fun _ _ => ⟨rfl, e58, (by decide : 2 + 0 ≤ _), (by decide : 22 + 0 ≤ _)⟩)
  dsimp only [Pt.U, Pt.locs, Pt.cells, Pt.slots] at X62 l62 y62 z62 st62 hQ62
  subst l62 y62 z62
  obtain ⟨rfl, N62q, EQ62⟩ := hQ62
  have N62 := Fr.app NL59 N62q
  have Z62 : n0 ≤ T62.heap.size := by rw [EQ62]; exact Z58
  have K62 := own_keq EQ62 K58
  have f63 := (EQ62 ▸ VS)
  obtain ⟨c64, Ar64, q64, S64, M64, H64, G64⟩ := id f63
  have hin64 : ¬ (k < 0 ∨ c64.slots.size ≤ (k).toNatClampNeg) := inb_of S64 hk1
  have hat64 : c64.slots[(k).toNatClampNeg]? = some (.int sv) := (H64 _ (by rw [S64]; exact hk2)).trans (congrArg some ((own_atS hk2).trans (congrArg Value.int hsv)))
  obtain ⟨cv, hcv⟩ : ∃ y, ((p2 &&& (65535 : Int32)).toUInt32.toUInt16.toUInt32.toInt32) = y := ⟨_, rfl⟩
  obtain ⟨_, _, ⟨T65, L65, k65, n65⟩, -, X65, ⟨Lc65, hQ65, l65, y65, z65⟩, st65⟩ := Jvm.LawKit.callS X62 hx (y := (⟨"com/example/corvid/corvid/classfile/Descriptors", "slots", "(C)I"⟩ : MethodName)) hown (mvT hZ (hw _ (List.mem_of_getElem? (i := 3) rfl))) (mvT hZ (hw _ (List.mem_of_getElem? (i := 4) rfl))) (mvT hZ (hw _ (List.mem_of_getElem? (i := 5) rfl))) (mvT hZ (hw _ (List.mem_of_getElem? (i := 6) rfl))) (by decide) (backOf (W := 0) (rm1 l Z a0 hw [] cv T62.heap n0 Z62) hZ (hw _ (List.mem_of_getElem? (i := 6) rfl)) (hw _ (List.mem_of_getElem? (i := 5) rfl)) (by decide) (by decide)) (g := (mkF m 154 #[.val (.int p1), .val (.int p2), .val (.ref b12), .val (.ref b36), .val (.int k), .val (.int (1 : Int32)), .unset] [(.int cv)])) rfl (by rw [hml]; rfl) (argsL := [(.int cv)]) (rest := []) (lenOf pd__C_I rfl) rfl (by show 2 * 0 + _ ≤ _; exact Nat.le_of_eq rfl) (hb hby at_154) (fun _ _ => ⟨rfl, rfl, (by decide : 2 + 0 ≤ _), (by decide : 22 + 0 ≤ _)⟩)
  dsimp only [Pt.U, Pt.locs, Pt.cells, Pt.slots] at X65 l65 y65 z65 st65 hQ65
  subst l65 y65 z65
  obtain ⟨rfl, N65q, EQ65⟩ := hQ65
  have N65 := Fr.app N62 N65q
  have Z65 : n0 ≤ T65.heap.size := by rw [EQ65]; exact Z62
  have K65 := own_keq EQ65 K62
  have pre66 : ∀ t, Steps p.tables e below (T65.setTop (mkF m 180 #[.val (.int p1), .val (.int p2), .val (.ref b12), .val (.ref b36), .val (.int k), .val (.int (1 : Int32)), .val (.int (own_sl cv))] [(.int (1 : Int32))])) t → Steps p.tables e below (s₁.setTop (mkF m 0 #[.val (.int p1), .val (.int p2), .unset, .unset, .unset, .unset, .unset] [])) t := by
    intro t kt
    show Steps p.tables e below (s₁.setTop (mkF m 0 #[.val (.int p1), .val (.int p2), .unset, .unset, .unset, .unset, .unset] [])) _
    refine XS.bipush X0.here hx rfl (hb hby at_0) ?_
    show Steps p.tables e below (s₁.setTop (mkF m 2 #[.val (.int p1), .val (.int p2), .unset, .unset, .unset, .unset, .unset] [(.int (11 : Int32))])) _
    refine st12 _ ?_
    show Steps p.tables e below (T12.setTop (mkF m 4 #[.val (.int p1), .val (.int p2), .unset, .unset, .unset, .unset, .unset] [(.ref b12)])) _
    refine XS.dup X12.here hx rfl (hb hby at_4) rfl rfl ?_
    show Steps p.tables e below (T12.setTop (mkF m 5 #[.val (.int p1), .val (.int p2), .unset, .unset, .unset, .unset, .unset] [(.ref b12), (.ref b12)])) _
    refine XS.iconst X12.here hx rfl (hb hby at_5) ?_
    show Steps p.tables e below (T12.setTop (mkF m 6 #[.val (.int p1), .val (.int p2), .unset, .unset, .unset, .unset, .unset] [(.int (0 : Int32)), (.ref b12), (.ref b12)])) _
    refine XS.bipush X12.here hx rfl (hb hby at_6) ?_
    show Steps p.tables e below (T12.setTop (mkF m 8 #[.val (.int p1), .val (.int p2), .unset, .unset, .unset, .unset, .unset] [(.int (66 : Int32)), (.int (0 : Int32)), (.ref b12), (.ref b12)])) _
    refine st14 _ ?_
    show Steps p.tables e below (T14.setTop (mkF m 9 #[.val (.int p1), .val (.int p2), .unset, .unset, .unset, .unset, .unset] [(.ref b12)])) _
    refine XS.dup X14.here hx rfl (hb hby at_9) rfl rfl ?_
    show Steps p.tables e below (T14.setTop (mkF m 10 #[.val (.int p1), .val (.int p2), .unset, .unset, .unset, .unset, .unset] [(.ref b12), (.ref b12)])) _
    refine XS.iconst X14.here hx rfl (hb hby at_10) ?_
    show Steps p.tables e below (T14.setTop (mkF m 11 #[.val (.int p1), .val (.int p2), .unset, .unset, .unset, .unset, .unset] [(.int (1 : Int32)), (.ref b12), (.ref b12)])) _
    refine XS.bipush X14.here hx rfl (hb hby at_11) ?_
    show Steps p.tables e below (T14.setTop (mkF m 13 #[.val (.int p1), .val (.int p2), .unset, .unset, .unset, .unset, .unset] [(.int (67 : Int32)), (.int (1 : Int32)), (.ref b12), (.ref b12)])) _
    refine st16 _ ?_
    show Steps p.tables e below (T16.setTop (mkF m 14 #[.val (.int p1), .val (.int p2), .unset, .unset, .unset, .unset, .unset] [(.ref b12)])) _
    refine XS.dup X16.here hx rfl (hb hby at_14) rfl rfl ?_
    show Steps p.tables e below (T16.setTop (mkF m 15 #[.val (.int p1), .val (.int p2), .unset, .unset, .unset, .unset, .unset] [(.ref b12), (.ref b12)])) _
    refine XS.iconst X16.here hx rfl (hb hby at_15) ?_
    show Steps p.tables e below (T16.setTop (mkF m 16 #[.val (.int p1), .val (.int p2), .unset, .unset, .unset, .unset, .unset] [(.int (2 : Int32)), (.ref b12), (.ref b12)])) _
    refine XS.bipush X16.here hx rfl (hb hby at_16) ?_
    show Steps p.tables e below (T16.setTop (mkF m 18 #[.val (.int p1), .val (.int p2), .unset, .unset, .unset, .unset, .unset] [(.int (68 : Int32)), (.int (2 : Int32)), (.ref b12), (.ref b12)])) _
    refine st18 _ ?_
    show Steps p.tables e below (T18.setTop (mkF m 19 #[.val (.int p1), .val (.int p2), .unset, .unset, .unset, .unset, .unset] [(.ref b12)])) _
    refine XS.dup X18.here hx rfl (hb hby at_19) rfl rfl ?_
    show Steps p.tables e below (T18.setTop (mkF m 20 #[.val (.int p1), .val (.int p2), .unset, .unset, .unset, .unset, .unset] [(.ref b12), (.ref b12)])) _
    refine XS.iconst X18.here hx rfl (hb hby at_20) ?_
    show Steps p.tables e below (T18.setTop (mkF m 21 #[.val (.int p1), .val (.int p2), .unset, .unset, .unset, .unset, .unset] [(.int (3 : Int32)), (.ref b12), (.ref b12)])) _
    refine XS.bipush X18.here hx rfl (hb hby at_21) ?_
    show Steps p.tables e below (T18.setTop (mkF m 23 #[.val (.int p1), .val (.int p2), .unset, .unset, .unset, .unset, .unset] [(.int (70 : Int32)), (.int (3 : Int32)), (.ref b12), (.ref b12)])) _
    refine st20 _ ?_
    show Steps p.tables e below (T20.setTop (mkF m 24 #[.val (.int p1), .val (.int p2), .unset, .unset, .unset, .unset, .unset] [(.ref b12)])) _
    refine XS.dup X20.here hx rfl (hb hby at_24) rfl rfl ?_
    show Steps p.tables e below (T20.setTop (mkF m 25 #[.val (.int p1), .val (.int p2), .unset, .unset, .unset, .unset, .unset] [(.ref b12), (.ref b12)])) _
    refine XS.iconst X20.here hx rfl (hb hby at_25) ?_
    show Steps p.tables e below (T20.setTop (mkF m 26 #[.val (.int p1), .val (.int p2), .unset, .unset, .unset, .unset, .unset] [(.int (4 : Int32)), (.ref b12), (.ref b12)])) _
    refine XS.bipush X20.here hx rfl (hb hby at_26) ?_
    show Steps p.tables e below (T20.setTop (mkF m 28 #[.val (.int p1), .val (.int p2), .unset, .unset, .unset, .unset, .unset] [(.int (73 : Int32)), (.int (4 : Int32)), (.ref b12), (.ref b12)])) _
    refine st22 _ ?_
    show Steps p.tables e below (T22.setTop (mkF m 29 #[.val (.int p1), .val (.int p2), .unset, .unset, .unset, .unset, .unset] [(.ref b12)])) _
    refine XS.dup X22.here hx rfl (hb hby at_29) rfl rfl ?_
    show Steps p.tables e below (T22.setTop (mkF m 30 #[.val (.int p1), .val (.int p2), .unset, .unset, .unset, .unset, .unset] [(.ref b12), (.ref b12)])) _
    refine XS.iconst X22.here hx rfl (hb hby at_30) ?_
    show Steps p.tables e below (T22.setTop (mkF m 31 #[.val (.int p1), .val (.int p2), .unset, .unset, .unset, .unset, .unset] [(.int (5 : Int32)), (.ref b12), (.ref b12)])) _
    refine XS.bipush X22.here hx rfl (hb hby at_31) ?_
    show Steps p.tables e below (T22.setTop (mkF m 33 #[.val (.int p1), .val (.int p2), .unset, .unset, .unset, .unset, .unset] [(.int (74 : Int32)), (.int (5 : Int32)), (.ref b12), (.ref b12)])) _
    refine st24 _ ?_
    show Steps p.tables e below (T24.setTop (mkF m 34 #[.val (.int p1), .val (.int p2), .unset, .unset, .unset, .unset, .unset] [(.ref b12)])) _
    refine XS.dup X24.here hx rfl (hb hby at_34) rfl rfl ?_
    show Steps p.tables e below (T24.setTop (mkF m 35 #[.val (.int p1), .val (.int p2), .unset, .unset, .unset, .unset, .unset] [(.ref b12), (.ref b12)])) _
    refine XS.bipush X24.here hx rfl (hb hby at_35) ?_
    show Steps p.tables e below (T24.setTop (mkF m 37 #[.val (.int p1), .val (.int p2), .unset, .unset, .unset, .unset, .unset] [(.int (6 : Int32)), (.ref b12), (.ref b12)])) _
    refine XS.bipush X24.here hx rfl (hb hby at_37) ?_
    show Steps p.tables e below (T24.setTop (mkF m 39 #[.val (.int p1), .val (.int p2), .unset, .unset, .unset, .unset, .unset] [(.int (83 : Int32)), (.int (6 : Int32)), (.ref b12), (.ref b12)])) _
    refine st26 _ ?_
    show Steps p.tables e below (T26.setTop (mkF m 40 #[.val (.int p1), .val (.int p2), .unset, .unset, .unset, .unset, .unset] [(.ref b12)])) _
    refine XS.dup X26.here hx rfl (hb hby at_40) rfl rfl ?_
    show Steps p.tables e below (T26.setTop (mkF m 41 #[.val (.int p1), .val (.int p2), .unset, .unset, .unset, .unset, .unset] [(.ref b12), (.ref b12)])) _
    refine XS.bipush X26.here hx rfl (hb hby at_41) ?_
    show Steps p.tables e below (T26.setTop (mkF m 43 #[.val (.int p1), .val (.int p2), .unset, .unset, .unset, .unset, .unset] [(.int (7 : Int32)), (.ref b12), (.ref b12)])) _
    refine XS.bipush X26.here hx rfl (hb hby at_43) ?_
    show Steps p.tables e below (T26.setTop (mkF m 45 #[.val (.int p1), .val (.int p2), .unset, .unset, .unset, .unset, .unset] [(.int (90 : Int32)), (.int (7 : Int32)), (.ref b12), (.ref b12)])) _
    refine st28 _ ?_
    show Steps p.tables e below (T28.setTop (mkF m 46 #[.val (.int p1), .val (.int p2), .unset, .unset, .unset, .unset, .unset] [(.ref b12)])) _
    refine XS.dup X28.here hx rfl (hb hby at_46) rfl rfl ?_
    show Steps p.tables e below (T28.setTop (mkF m 47 #[.val (.int p1), .val (.int p2), .unset, .unset, .unset, .unset, .unset] [(.ref b12), (.ref b12)])) _
    refine XS.bipush X28.here hx rfl (hb hby at_47) ?_
    show Steps p.tables e below (T28.setTop (mkF m 49 #[.val (.int p1), .val (.int p2), .unset, .unset, .unset, .unset, .unset] [(.int (8 : Int32)), (.ref b12), (.ref b12)])) _
    refine XS.bipush X28.here hx rfl (hb hby at_49) ?_
    show Steps p.tables e below (T28.setTop (mkF m 51 #[.val (.int p1), .val (.int p2), .unset, .unset, .unset, .unset, .unset] [(.int (76 : Int32)), (.int (8 : Int32)), (.ref b12), (.ref b12)])) _
    refine st30 _ ?_
    show Steps p.tables e below (T30.setTop (mkF m 52 #[.val (.int p1), .val (.int p2), .unset, .unset, .unset, .unset, .unset] [(.ref b12)])) _
    refine XS.dup X30.here hx rfl (hb hby at_52) rfl rfl ?_
    show Steps p.tables e below (T30.setTop (mkF m 53 #[.val (.int p1), .val (.int p2), .unset, .unset, .unset, .unset, .unset] [(.ref b12), (.ref b12)])) _
    refine XS.bipush X30.here hx rfl (hb hby at_53) ?_
    show Steps p.tables e below (T30.setTop (mkF m 55 #[.val (.int p1), .val (.int p2), .unset, .unset, .unset, .unset, .unset] [(.int (9 : Int32)), (.ref b12), (.ref b12)])) _
    refine XS.bipush X30.here hx rfl (hb hby at_55) ?_
    show Steps p.tables e below (T30.setTop (mkF m 57 #[.val (.int p1), .val (.int p2), .unset, .unset, .unset, .unset, .unset] [(.int (91 : Int32)), (.int (9 : Int32)), (.ref b12), (.ref b12)])) _
    refine st32 _ ?_
    show Steps p.tables e below (T32.setTop (mkF m 58 #[.val (.int p1), .val (.int p2), .unset, .unset, .unset, .unset, .unset] [(.ref b12)])) _
    refine XS.dup X32.here hx rfl (hb hby at_58) rfl rfl ?_
    show Steps p.tables e below (T32.setTop (mkF m 59 #[.val (.int p1), .val (.int p2), .unset, .unset, .unset, .unset, .unset] [(.ref b12), (.ref b12)])) _
    refine XS.bipush X32.here hx rfl (hb hby at_59) ?_
    show Steps p.tables e below (T32.setTop (mkF m 61 #[.val (.int p1), .val (.int p2), .unset, .unset, .unset, .unset, .unset] [(.int (10 : Int32)), (.ref b12), (.ref b12)])) _
    refine XS.bipush X32.here hx rfl (hb hby at_61) ?_
    show Steps p.tables e below (T32.setTop (mkF m 63 #[.val (.int p1), .val (.int p2), .unset, .unset, .unset, .unset, .unset] [(.int (86 : Int32)), (.int (10 : Int32)), (.ref b12), (.ref b12)])) _
    refine st34 _ ?_
    show Steps p.tables e below (T34.setTop (mkF m 64 #[.val (.int p1), .val (.int p2), .unset, .unset, .unset, .unset, .unset] [(.ref b12)])) _
    refine XS.astoreN XL35.here hx rfl (hb hby at_64) rfl rfl (l' := #[.val (.int p1), .val (.int p2), .val (.ref b12), .unset, .unset, .unset, .unset]) rfl ?_
    show Steps p.tables e below (T34.setTop (mkF m 65 #[.val (.int p1), .val (.int p2), .val (.ref b12), .unset, .unset, .unset, .unset] [])) _
    refine XS.bipush XL35.here hx rfl (hb hby at_65) ?_
    show Steps p.tables e below (T34.setTop (mkF m 67 #[.val (.int p1), .val (.int p2), .val (.ref b12), .unset, .unset, .unset, .unset] [(.int (11 : Int32))])) _
    refine st36 _ ?_
    show Steps p.tables e below (T36.setTop (mkF m 69 #[.val (.int p1), .val (.int p2), .val (.ref b12), .unset, .unset, .unset, .unset] [(.ref b36)])) _
    refine XS.dup X36.here hx rfl (hb hby at_69) rfl rfl ?_
    show Steps p.tables e below (T36.setTop (mkF m 70 #[.val (.int p1), .val (.int p2), .val (.ref b12), .unset, .unset, .unset, .unset] [(.ref b36), (.ref b36)])) _
    refine XS.iconst X36.here hx rfl (hb hby at_70) ?_
    show Steps p.tables e below (T36.setTop (mkF m 71 #[.val (.int p1), .val (.int p2), .val (.ref b12), .unset, .unset, .unset, .unset] [(.int (0 : Int32)), (.ref b36), (.ref b36)])) _
    refine XS.iconst X36.here hx rfl (hb hby at_71) ?_
    show Steps p.tables e below (T36.setTop (mkF m 72 #[.val (.int p1), .val (.int p2), .val (.ref b12), .unset, .unset, .unset, .unset] [(.int (1 : Int32)), (.int (0 : Int32)), (.ref b36), (.ref b36)])) _
    refine st38 _ ?_
    show Steps p.tables e below (T38.setTop (mkF m 73 #[.val (.int p1), .val (.int p2), .val (.ref b12), .unset, .unset, .unset, .unset] [(.ref b36)])) _
    refine XS.dup X38.here hx rfl (hb hby at_73) rfl rfl ?_
    show Steps p.tables e below (T38.setTop (mkF m 74 #[.val (.int p1), .val (.int p2), .val (.ref b12), .unset, .unset, .unset, .unset] [(.ref b36), (.ref b36)])) _
    refine XS.iconst X38.here hx rfl (hb hby at_74) ?_
    show Steps p.tables e below (T38.setTop (mkF m 75 #[.val (.int p1), .val (.int p2), .val (.ref b12), .unset, .unset, .unset, .unset] [(.int (1 : Int32)), (.ref b36), (.ref b36)])) _
    refine XS.iconst X38.here hx rfl (hb hby at_75) ?_
    show Steps p.tables e below (T38.setTop (mkF m 76 #[.val (.int p1), .val (.int p2), .val (.ref b12), .unset, .unset, .unset, .unset] [(.int (1 : Int32)), (.int (1 : Int32)), (.ref b36), (.ref b36)])) _
    refine st40 _ ?_
    show Steps p.tables e below (T40.setTop (mkF m 77 #[.val (.int p1), .val (.int p2), .val (.ref b12), .unset, .unset, .unset, .unset] [(.ref b36)])) _
    refine XS.dup X40.here hx rfl (hb hby at_77) rfl rfl ?_
    show Steps p.tables e below (T40.setTop (mkF m 78 #[.val (.int p1), .val (.int p2), .val (.ref b12), .unset, .unset, .unset, .unset] [(.ref b36), (.ref b36)])) _
    refine XS.iconst X40.here hx rfl (hb hby at_78) ?_
    show Steps p.tables e below (T40.setTop (mkF m 79 #[.val (.int p1), .val (.int p2), .val (.ref b12), .unset, .unset, .unset, .unset] [(.int (2 : Int32)), (.ref b36), (.ref b36)])) _
    refine XS.iconst X40.here hx rfl (hb hby at_79) ?_
    show Steps p.tables e below (T40.setTop (mkF m 80 #[.val (.int p1), .val (.int p2), .val (.ref b12), .unset, .unset, .unset, .unset] [(.int (2 : Int32)), (.int (2 : Int32)), (.ref b36), (.ref b36)])) _
    refine st42 _ ?_
    show Steps p.tables e below (T42.setTop (mkF m 81 #[.val (.int p1), .val (.int p2), .val (.ref b12), .unset, .unset, .unset, .unset] [(.ref b36)])) _
    refine XS.dup X42.here hx rfl (hb hby at_81) rfl rfl ?_
    show Steps p.tables e below (T42.setTop (mkF m 82 #[.val (.int p1), .val (.int p2), .val (.ref b12), .unset, .unset, .unset, .unset] [(.ref b36), (.ref b36)])) _
    refine XS.iconst X42.here hx rfl (hb hby at_82) ?_
    show Steps p.tables e below (T42.setTop (mkF m 83 #[.val (.int p1), .val (.int p2), .val (.ref b12), .unset, .unset, .unset, .unset] [(.int (3 : Int32)), (.ref b36), (.ref b36)])) _
    refine XS.iconst X42.here hx rfl (hb hby at_83) ?_
    show Steps p.tables e below (T42.setTop (mkF m 84 #[.val (.int p1), .val (.int p2), .val (.ref b12), .unset, .unset, .unset, .unset] [(.int (1 : Int32)), (.int (3 : Int32)), (.ref b36), (.ref b36)])) _
    refine st44 _ ?_
    show Steps p.tables e below (T44.setTop (mkF m 85 #[.val (.int p1), .val (.int p2), .val (.ref b12), .unset, .unset, .unset, .unset] [(.ref b36)])) _
    refine XS.dup X44.here hx rfl (hb hby at_85) rfl rfl ?_
    show Steps p.tables e below (T44.setTop (mkF m 86 #[.val (.int p1), .val (.int p2), .val (.ref b12), .unset, .unset, .unset, .unset] [(.ref b36), (.ref b36)])) _
    refine XS.iconst X44.here hx rfl (hb hby at_86) ?_
    show Steps p.tables e below (T44.setTop (mkF m 87 #[.val (.int p1), .val (.int p2), .val (.ref b12), .unset, .unset, .unset, .unset] [(.int (4 : Int32)), (.ref b36), (.ref b36)])) _
    refine XS.iconst X44.here hx rfl (hb hby at_87) ?_
    show Steps p.tables e below (T44.setTop (mkF m 88 #[.val (.int p1), .val (.int p2), .val (.ref b12), .unset, .unset, .unset, .unset] [(.int (1 : Int32)), (.int (4 : Int32)), (.ref b36), (.ref b36)])) _
    refine st46 _ ?_
    show Steps p.tables e below (T46.setTop (mkF m 89 #[.val (.int p1), .val (.int p2), .val (.ref b12), .unset, .unset, .unset, .unset] [(.ref b36)])) _
    refine XS.dup X46.here hx rfl (hb hby at_89) rfl rfl ?_
    show Steps p.tables e below (T46.setTop (mkF m 90 #[.val (.int p1), .val (.int p2), .val (.ref b12), .unset, .unset, .unset, .unset] [(.ref b36), (.ref b36)])) _
    refine XS.iconst X46.here hx rfl (hb hby at_90) ?_
    show Steps p.tables e below (T46.setTop (mkF m 91 #[.val (.int p1), .val (.int p2), .val (.ref b12), .unset, .unset, .unset, .unset] [(.int (5 : Int32)), (.ref b36), (.ref b36)])) _
    refine XS.iconst X46.here hx rfl (hb hby at_91) ?_
    show Steps p.tables e below (T46.setTop (mkF m 92 #[.val (.int p1), .val (.int p2), .val (.ref b12), .unset, .unset, .unset, .unset] [(.int (2 : Int32)), (.int (5 : Int32)), (.ref b36), (.ref b36)])) _
    refine st48 _ ?_
    show Steps p.tables e below (T48.setTop (mkF m 93 #[.val (.int p1), .val (.int p2), .val (.ref b12), .unset, .unset, .unset, .unset] [(.ref b36)])) _
    refine XS.dup X48.here hx rfl (hb hby at_93) rfl rfl ?_
    show Steps p.tables e below (T48.setTop (mkF m 94 #[.val (.int p1), .val (.int p2), .val (.ref b12), .unset, .unset, .unset, .unset] [(.ref b36), (.ref b36)])) _
    refine XS.bipush X48.here hx rfl (hb hby at_94) ?_
    show Steps p.tables e below (T48.setTop (mkF m 96 #[.val (.int p1), .val (.int p2), .val (.ref b12), .unset, .unset, .unset, .unset] [(.int (6 : Int32)), (.ref b36), (.ref b36)])) _
    refine XS.iconst X48.here hx rfl (hb hby at_96) ?_
    show Steps p.tables e below (T48.setTop (mkF m 97 #[.val (.int p1), .val (.int p2), .val (.ref b12), .unset, .unset, .unset, .unset] [(.int (1 : Int32)), (.int (6 : Int32)), (.ref b36), (.ref b36)])) _
    refine st50 _ ?_
    show Steps p.tables e below (T50.setTop (mkF m 98 #[.val (.int p1), .val (.int p2), .val (.ref b12), .unset, .unset, .unset, .unset] [(.ref b36)])) _
    refine XS.dup X50.here hx rfl (hb hby at_98) rfl rfl ?_
    show Steps p.tables e below (T50.setTop (mkF m 99 #[.val (.int p1), .val (.int p2), .val (.ref b12), .unset, .unset, .unset, .unset] [(.ref b36), (.ref b36)])) _
    refine XS.bipush X50.here hx rfl (hb hby at_99) ?_
    show Steps p.tables e below (T50.setTop (mkF m 101 #[.val (.int p1), .val (.int p2), .val (.ref b12), .unset, .unset, .unset, .unset] [(.int (7 : Int32)), (.ref b36), (.ref b36)])) _
    refine XS.iconst X50.here hx rfl (hb hby at_101) ?_
    show Steps p.tables e below (T50.setTop (mkF m 102 #[.val (.int p1), .val (.int p2), .val (.ref b12), .unset, .unset, .unset, .unset] [(.int (1 : Int32)), (.int (7 : Int32)), (.ref b36), (.ref b36)])) _
    refine st52 _ ?_
    show Steps p.tables e below (T52.setTop (mkF m 103 #[.val (.int p1), .val (.int p2), .val (.ref b12), .unset, .unset, .unset, .unset] [(.ref b36)])) _
    refine XS.dup X52.here hx rfl (hb hby at_103) rfl rfl ?_
    show Steps p.tables e below (T52.setTop (mkF m 104 #[.val (.int p1), .val (.int p2), .val (.ref b12), .unset, .unset, .unset, .unset] [(.ref b36), (.ref b36)])) _
    refine XS.bipush X52.here hx rfl (hb hby at_104) ?_
    show Steps p.tables e below (T52.setTop (mkF m 106 #[.val (.int p1), .val (.int p2), .val (.ref b12), .unset, .unset, .unset, .unset] [(.int (8 : Int32)), (.ref b36), (.ref b36)])) _
    refine XS.iconst X52.here hx rfl (hb hby at_106) ?_
    show Steps p.tables e below (T52.setTop (mkF m 107 #[.val (.int p1), .val (.int p2), .val (.ref b12), .unset, .unset, .unset, .unset] [(.int (1 : Int32)), (.int (8 : Int32)), (.ref b36), (.ref b36)])) _
    refine st54 _ ?_
    show Steps p.tables e below (T54.setTop (mkF m 108 #[.val (.int p1), .val (.int p2), .val (.ref b12), .unset, .unset, .unset, .unset] [(.ref b36)])) _
    refine XS.dup X54.here hx rfl (hb hby at_108) rfl rfl ?_
    show Steps p.tables e below (T54.setTop (mkF m 109 #[.val (.int p1), .val (.int p2), .val (.ref b12), .unset, .unset, .unset, .unset] [(.ref b36), (.ref b36)])) _
    refine XS.bipush X54.here hx rfl (hb hby at_109) ?_
    show Steps p.tables e below (T54.setTop (mkF m 111 #[.val (.int p1), .val (.int p2), .val (.ref b12), .unset, .unset, .unset, .unset] [(.int (9 : Int32)), (.ref b36), (.ref b36)])) _
    refine XS.iconst X54.here hx rfl (hb hby at_111) ?_
    show Steps p.tables e below (T54.setTop (mkF m 112 #[.val (.int p1), .val (.int p2), .val (.ref b12), .unset, .unset, .unset, .unset] [(.int (1 : Int32)), (.int (9 : Int32)), (.ref b36), (.ref b36)])) _
    refine st56 _ ?_
    show Steps p.tables e below (T56.setTop (mkF m 113 #[.val (.int p1), .val (.int p2), .val (.ref b12), .unset, .unset, .unset, .unset] [(.ref b36)])) _
    refine XS.dup X56.here hx rfl (hb hby at_113) rfl rfl ?_
    show Steps p.tables e below (T56.setTop (mkF m 114 #[.val (.int p1), .val (.int p2), .val (.ref b12), .unset, .unset, .unset, .unset] [(.ref b36), (.ref b36)])) _
    refine XS.bipush X56.here hx rfl (hb hby at_114) ?_
    show Steps p.tables e below (T56.setTop (mkF m 116 #[.val (.int p1), .val (.int p2), .val (.ref b12), .unset, .unset, .unset, .unset] [(.int (10 : Int32)), (.ref b36), (.ref b36)])) _
    refine XS.iconst X56.here hx rfl (hb hby at_116) ?_
    show Steps p.tables e below (T56.setTop (mkF m 117 #[.val (.int p1), .val (.int p2), .val (.ref b12), .unset, .unset, .unset, .unset] [(.int (0 : Int32)), (.int (10 : Int32)), (.ref b36), (.ref b36)])) _
    refine st58 _ ?_
    show Steps p.tables e below (T58.setTop (mkF m 118 #[.val (.int p1), .val (.int p2), .val (.ref b12), .unset, .unset, .unset, .unset] [(.ref b36)])) _
    refine XS.astoreN XL59.here hx rfl (hb hby at_118) rfl rfl (l' := #[.val (.int p1), .val (.int p2), .val (.ref b12), .val (.ref b36), .unset, .unset, .unset]) rfl ?_
    show Steps p.tables e below (T58.setTop (mkF m 119 #[.val (.int p1), .val (.int p2), .val (.ref b12), .val (.ref b36), .unset, .unset, .unset] [])) _
    refine XS.iloadN XL59.here hx rfl (hb hby at_119) rfl ?_
    show Steps p.tables e below (T58.setTop (mkF m 120 #[.val (.int p1), .val (.int p2), .val (.ref b12), .val (.ref b36), .unset, .unset, .unset] [(.int p1)])) _
    refine XL59.ldcInt hx hown (mvT hZ (hw _ (List.mem_of_getElem? (i := 2) rfl))) (g := (mkF m 120 #[.val (.int p1), .val (.int p2), .val (.ref b12), .val (.ref b36), .unset, .unset, .unset] [(.int p1)])) rfl (hb hby at_120) _ ?_
    show Steps p.tables e below (T58.setTop (mkF m 122 #[.val (.int p1), .val (.int p2), .val (.ref b12), .val (.ref b36), .unset, .unset, .unset] [(.int (2147483647 : Int32)), (.int p1)])) _
    refine XS.iand XL59.here hx rfl (hb hby at_122) rfl ?_
    show Steps p.tables e below (T58.setTop (mkF m 123 #[.val (.int p1), .val (.int p2), .val (.ref b12), .val (.ref b36), .unset, .unset, .unset] [(.int (p1 &&& (2147483647 : Int32)))])) _
    refine XS.bipush XL59.here hx rfl (hb hby at_123) ?_
    show Steps p.tables e below (T58.setTop (mkF m 125 #[.val (.int p1), .val (.int p2), .val (.ref b12), .val (.ref b36), .unset, .unset, .unset] [(.int (11 : Int32)), (.int (p1 &&& (2147483647 : Int32)))])) _
    refine iremM XL59 hx rfl (hb hby at_125) rfl (by decide) ?_
    show Steps p.tables e below (T58.setTop (mkF m 126 #[.val (.int p1), .val (.int p2), .val (.ref b12), .val (.ref b36), .unset, .unset, .unset] [(.int ((p1 &&& (2147483647 : Int32)) % (11 : Int32)))])) _
    rw [hk]
    show Steps p.tables e below (T58.setTop (mkF m 126 #[.val (.int p1), .val (.int p2), .val (.ref b12), .val (.ref b36), .unset, .unset, .unset] [(.int k)])) _
    refine XS.istore XL59.here hx rfl (hb hby at_126) rfl (l' := #[.val (.int p1), .val (.int p2), .val (.ref b12), .val (.ref b36), .val (.int k), .unset, .unset]) rfl ?_
    show Steps p.tables e below (T58.setTop (mkF m 128 #[.val (.int p1), .val (.int p2), .val (.ref b12), .val (.ref b36), .val (.int k), .unset, .unset] [])) _
    refine XS.aloadN XL59.here hx rfl (hb hby at_128) rfl rfl ?_
    show Steps p.tables e below (T58.setTop (mkF m 129 #[.val (.int p1), .val (.int p2), .val (.ref b12), .val (.ref b36), .val (.int k), .unset, .unset] [(.ref b12)])) _
    refine XS.iload XL59.here hx rfl (hb hby at_129) rfl ?_
    show Steps p.tables e below (T58.setTop (mkF m 131 #[.val (.int p1), .val (.int p2), .val (.ref b12), .val (.ref b36), .val (.int k), .unset, .unset] [(.int k), (.ref b12)])) _
    refine XL59.caload hx (j := k) (v := (.int lv)) (by rw [e58]; exact Ar61.1) (State.isArrayOf_alike hZ.alike Ar61.2.1) Ar61.2.2 hin61 hat61 (g := (mkF m 131 #[.val (.int p1), .val (.int p2), .val (.ref b12), .val (.ref b36), .val (.int k), .unset, .unset] [(.int k), (.ref b12)])) rfl rfl (hb hby at_131) _ ?_
    show Steps p.tables e below (T58.setTop (mkF m 132 #[.val (.int p1), .val (.int p2), .val (.ref b12), .val (.ref b36), .val (.int k), .unset, .unset] [(.int lv)])) _
    refine st62 _ ?_
    show Steps p.tables e below (T62.setTop (mkF m 135 #[.val (.int p1), .val (.int p2), .val (.ref b12), .val (.ref b36), .val (.int k), .unset, .unset] [(.int (own_sl lv))])) _
    refine XS.aloadN X62.here hx rfl (hb hby at_135) rfl rfl ?_
    show Steps p.tables e below (T62.setTop (mkF m 136 #[.val (.int p1), .val (.int p2), .val (.ref b12), .val (.ref b36), .val (.int k), .unset, .unset] [(.ref b36), (.int (own_sl lv))])) _
    refine XS.iload X62.here hx rfl (hb hby at_136) rfl ?_
    show Steps p.tables e below (T62.setTop (mkF m 138 #[.val (.int p1), .val (.int p2), .val (.ref b12), .val (.ref b36), .val (.int k), .unset, .unset] [(.int k), (.ref b36), (.int (own_sl lv))])) _
    refine X62.iaload hx (j := k) (v := (.int sv)) Ar64.1 (State.isArrayOf_alike hZ.alike Ar64.2.1) Ar64.2.2 hin64 hat64 (g := (mkF m 138 #[.val (.int p1), .val (.int p2), .val (.ref b12), .val (.ref b36), .val (.int k), .unset, .unset] [(.int k), (.ref b36), (.int (own_sl lv))])) rfl rfl (hb hby at_138) _ ?_
    show Steps p.tables e below (T62.setTop (mkF m 139 #[.val (.int p1), .val (.int p2), .val (.ref b12), .val (.ref b36), .val (.int k), .unset, .unset] [(.int sv), (.int (own_sl lv))])) _
    refine XS.icmpNo X62.here hx rfl (hb hby at_139) rfl (teq (hpin : (own_sl lv) = sv)).2 ?_
    show Steps p.tables e below (T62.setTop (mkF m 142 #[.val (.int p1), .val (.int p2), .val (.ref b12), .val (.ref b36), .val (.int k), .unset, .unset] [])) _
    refine XS.iconst X62.here hx rfl (hb hby at_142) ?_
    show Steps p.tables e below (T62.setTop (mkF m 143 #[.val (.int p1), .val (.int p2), .val (.ref b12), .val (.ref b36), .val (.int k), .unset, .unset] [(.int (1 : Int32))])) _
    refine XS.goto X62.here hx rfl (pc0 := 143) (pc' := 147) rfl (hb hby at_143) (by decide) (by decide) ?_
    show Steps p.tables e below (T62.setTop (mkF m 147 #[.val (.int p1), .val (.int p2), .val (.ref b12), .val (.ref b36), .val (.int k), .unset, .unset] [(.int (1 : Int32))])) _
    refine XS.istore X62.here hx rfl (hb hby at_147) rfl (l' := #[.val (.int p1), .val (.int p2), .val (.ref b12), .val (.ref b36), .val (.int k), .val (.int (1 : Int32)), .unset]) rfl ?_
    show Steps p.tables e below (T62.setTop (mkF m 149 #[.val (.int p1), .val (.int p2), .val (.ref b12), .val (.ref b36), .val (.int k), .val (.int (1 : Int32)), .unset] [])) _
    refine XS.iloadN X62.here hx rfl (hb hby at_149) rfl ?_
    show Steps p.tables e below (T62.setTop (mkF m 150 #[.val (.int p1), .val (.int p2), .val (.ref b12), .val (.ref b36), .val (.int k), .val (.int (1 : Int32)), .unset] [(.int p2)])) _
    refine X62.ldcInt hx hown (mvT hZ (hw _ (List.mem_of_getElem? (i := 7) rfl))) (g := (mkF m 150 #[.val (.int p1), .val (.int p2), .val (.ref b12), .val (.ref b36), .val (.int k), .val (.int (1 : Int32)), .unset] [(.int p2)])) rfl (hb hby at_150) _ ?_
    show Steps p.tables e below (T62.setTop (mkF m 152 #[.val (.int p1), .val (.int p2), .val (.ref b12), .val (.ref b36), .val (.int k), .val (.int (1 : Int32)), .unset] [(.int (65535 : Int32)), (.int p2)])) _
    refine XS.iand X62.here hx rfl (hb hby at_152) rfl ?_
    show Steps p.tables e below (T62.setTop (mkF m 153 #[.val (.int p1), .val (.int p2), .val (.ref b12), .val (.ref b36), .val (.int k), .val (.int (1 : Int32)), .unset] [(.int (p2 &&& (65535 : Int32)))])) _
    refine XS.i2c X62.here hx rfl (hb hby at_153) rfl ?_
    show Steps p.tables e below (T62.setTop (mkF m 154 #[.val (.int p1), .val (.int p2), .val (.ref b12), .val (.ref b36), .val (.int k), .val (.int (1 : Int32)), .unset] [(.int ((p2 &&& (65535 : Int32)).toUInt32.toUInt16.toUInt32.toInt32))])) _
    rw [hcv]
    show Steps p.tables e below (T62.setTop (mkF m 154 #[.val (.int p1), .val (.int p2), .val (.ref b12), .val (.ref b36), .val (.int k), .val (.int (1 : Int32)), .unset] [(.int cv)])) _
    refine st65 _ ?_
    show Steps p.tables e below (T65.setTop (mkF m 157 #[.val (.int p1), .val (.int p2), .val (.ref b12), .val (.ref b36), .val (.int k), .val (.int (1 : Int32)), .unset] [(.int (own_sl cv))])) _
    refine XS.istore X65.here hx rfl (hb hby at_157) rfl (l' := #[.val (.int p1), .val (.int p2), .val (.ref b12), .val (.ref b36), .val (.int k), .val (.int (1 : Int32)), .val (.int (own_sl cv))]) rfl ?_
    show Steps p.tables e below (T65.setTop (mkF m 159 #[.val (.int p1), .val (.int p2), .val (.ref b12), .val (.ref b36), .val (.int k), .val (.int (1 : Int32)), .val (.int (own_sl cv))] [])) _
    refine XS.iload X65.here hx rfl (hb hby at_159) rfl ?_
    show Steps p.tables e below (T65.setTop (mkF m 161 #[.val (.int p1), .val (.int p2), .val (.ref b12), .val (.ref b36), .val (.int k), .val (.int (1 : Int32)), .val (.int (own_sl cv))] [(.int (1 : Int32))])) _
    refine XS.ifNo X65.here hx rfl (hb hby at_161) rfl ((if0 _ _).trans (feq ((by decide) : ¬ ((1 : Int32) = (0 : Int32)))).1) ?_
    show Steps p.tables e below (T65.setTop (mkF m 164 #[.val (.int p1), .val (.int p2), .val (.ref b12), .val (.ref b36), .val (.int k), .val (.int (1 : Int32)), .val (.int (own_sl cv))] [])) _
    refine XS.iload X65.here hx rfl (hb hby at_164) rfl ?_
    show Steps p.tables e below (T65.setTop (mkF m 166 #[.val (.int p1), .val (.int p2), .val (.ref b12), .val (.ref b36), .val (.int k), .val (.int (1 : Int32)), .val (.int (own_sl cv))] [(.int (own_sl cv))])) _
    refine XS.ifNo X65.here hx rfl (hb hby at_166) rfl ((if0 _ _).trans (flt ((own_rng _).1 : ¬ ((own_sl cv) < (0 : Int32)))).1) ?_
    show Steps p.tables e below (T65.setTop (mkF m 169 #[.val (.int p1), .val (.int p2), .val (.ref b12), .val (.ref b36), .val (.int k), .val (.int (1 : Int32)), .val (.int (own_sl cv))] [])) _
    refine XS.iload X65.here hx rfl (hb hby at_169) rfl ?_
    show Steps p.tables e below (T65.setTop (mkF m 171 #[.val (.int p1), .val (.int p2), .val (.ref b12), .val (.ref b36), .val (.int k), .val (.int (1 : Int32)), .val (.int (own_sl cv))] [(.int (own_sl cv))])) _
    refine XS.iconst X65.here hx rfl (hb hby at_171) ?_
    show Steps p.tables e below (T65.setTop (mkF m 172 #[.val (.int p1), .val (.int p2), .val (.ref b12), .val (.ref b36), .val (.int k), .val (.int (1 : Int32)), .val (.int (own_sl cv))] [(.int (2 : Int32)), (.int (own_sl cv))])) _
    refine XS.icmpNo X65.here hx rfl (hb hby at_172) rfl (flt ((own_rng _).2 : ¬ ((2 : Int32) < (own_sl cv)))).2.2.1 ?_
    show Steps p.tables e below (T65.setTop (mkF m 175 #[.val (.int p1), .val (.int p2), .val (.ref b12), .val (.ref b36), .val (.int k), .val (.int (1 : Int32)), .val (.int (own_sl cv))] [])) _
    refine XS.iconst X65.here hx rfl (hb hby at_175) ?_
    show Steps p.tables e below (T65.setTop (mkF m 176 #[.val (.int p1), .val (.int p2), .val (.ref b12), .val (.ref b36), .val (.int k), .val (.int (1 : Int32)), .val (.int (own_sl cv))] [(.int (1 : Int32))])) _
    refine XS.goto X65.here hx rfl (pc0 := 176) (pc' := 180) rfl (hb hby at_176) (by decide) (by decide) ?_
    exact kt
  obtain ⟨fs, hr, hrun, hended, hW, hsame⟩ := X65.leave (v := some (.int (1 : Int32))) (fun h => by rw [Bd.returns] at h; cases h)
  refine ⟨_, _, (pre0 _ (pre66 _ ?_)), hrun, hended, _, _, rfl, ?_, ⟨_, rfl⟩, hW, hsame.mono (by decide) (by decide)⟩
  · show Steps p.tables e below (T65.setTop (mkF m 180 #[.val (.int p1), .val (.int p2), .val (.ref b12), .val (.ref b36), .val (.int k), .val (.int (1 : Int32)), .val (.int (own_sl cv))] [(.int (1 : Int32))])) _
    exact retN X65 hx (t := .boolean) Bd.returns (by simp) (hb hby at_180) hr
  · show Q0 Z p1 p2 h0 n0 _ T65.heap _
    exact ⟨rfl, N65⟩
set_option maxRecDepth 65536 in
set_option maxHeartbeats 40000000 in
theorem comes_1 {Post : Tables → Env → Array Value → State → Outcome → State → Prop} (hpost : ∀ tb e args s v u, (limb_1_1.after args s (.returned v) u = true ∧ limb_1_2.after args s (.returned v) u = true ∧ True) → FrameEnd s (.returned v) u (Jvm.fieldLocs frame_1_writes args s ++ Jvm.arrayLocs frame_1_arrays args s ++ Jvm.staticLocs frame_1_statics s) 16 128 → Post tb e args s (.returned v) u) :
    ArmFor flags0 classFile x code maxLocals ret World_1 tables_1 room_1 Calls_1 rest_1 Pre_1 Post := by
  intro l hfl _ _ p e ha hc hk s m args below hf hA hF happ hP
  obtain ⟨hcalls, hrest, hpre⟩ := hP
  obtain ⟨-, -, -, hnamed, -, -, -, hat⟩ := (Spec.applies_iff hf).mp happ
  obtain ⟨hg, hn⟩ := and_e (Cond.before_iff.mp (show (Jvm.Cond.and given_1 narrow_1).before args s = true from hpre))
  obtain ⟨gc, g0⟩ := and_e hg
  obtain ⟨ga0, g1⟩ := and_e g0
  obtain ⟨w0, w1, rfl⟩ : ∃ w0 w1 : Value, args = #[w0, w1] := by
    have hs : args.size = 2 := by simpa [Cond.value, given_1] using gc
    obtain ⟨L⟩ := args
    match L, hs with
    | [w0, w1], _ => exact ⟨w0, w1, rfl⟩
  have hw := fun d (hd : d ∈ tables_1) => atoms_spec (ws := Jvm.Cond.code x code maxLocals ret :: tables_1) hat d (List.mem_cons_of_mem _ hd)
  have hfit : Fit s := fun {y c} hc i hi => by
    obtain ⟨ha, rfl⟩ := Array.getElem?_eq_some_iff.mp hc
    have q := List.all_eq_true.mp ((Array.all_eq_true_iff_forall_mem.mp hF) _ (Array.getElem_mem ha)) i (List.mem_range.mpr hi)
    simpa [Array.getElem?_eq_getElem hi] using q
  obtain ⟨i0, ei0⟩ := is_v ga0
  obtain rfl : w0 = (.int i0) := Option.some.inj ei0
  obtain ⟨i1, ei1⟩ := is_v g1
  obtain rfl : w1 = (.int i1) := Option.some.inj ei1
  obtain ⟨n, o, h1, h2, h3, _, L, rfl, ⟨rfl, N⟩, hq⟩ := rm0 l s _ hw tables_1 i0 i1 s.heap s.heap.size (Nat.le_refl _) p e ha hc hk s m _ below hf ((Spec.applies_iff_loose hf).mp happ).1 ⟨rfl, State.Warmed39.refl s, rfl⟩ trivial
  refine ⟨n, _, h1, h2, h3, hpost _ _ _ _ _ _ ⟨Cond.after_iff.mpr rfl, Cond.after_iff.mpr (eq_i res_at (Term.int_eval (1)) rfl), trivial⟩ ⟨hq.1, hq.2.1, (hq.2.2.sift fun y hy => Or.inr (N y hy)).mono (by decide) (by decide)⟩⟩
theorem main_1_1 : Claimed_1_1 := comes_1 fun _ _ _ _ _ _ h hF => ⟨h.1, hF⟩
theorem main_1_2 : Claimed_1_2 := comes_1 fun _ _ _ _ _ _ h hF => ⟨h.2.1, hF⟩
end Jvm.Pilot.@@N@@
namespace Jvm.Pilot.@@N@@
open Jvm Jvm.ClassFile Sem Op Lib Jvm.Free Jvm.Stand Jvm.Pilot.@@N@@.Jvm.D
/-! MADE BY PROGRAM (witnessworld.py) out of the Statement's table words and the real class files: 11 classes; the members and pool entries that the words name. The judged class is class 1, her method 1. -/
namespace start1
open Jvm.ClassFile
def u (s : String) : CpInfo := .utf8 (stringToUtf16 s)
/-- a pool by its gaps: so many unusable entries, then the entry; so many at the end -/
def gap : Nat → List CpInfo → List CpInfo
  | 0, r => r
  | n + 1, r => .unusable :: gap n r
def poolList (es : List (Nat × CpInfo)) (last : Nat) : List CpInfo := es.foldr (fun e r => gap e.1 (e.2 :: r)) (gap last [])
def pool (es : List (Nat × CpInfo)) (last : Nat) : Array CpInfo := ⟨poolList es last⟩
def fileOf (pool : Array CpInfo) (this : Nat) (attrs : Array Attribute := #[]) (ms : Array MethodInfo := #[]) (fl : Nat := 33) (sup : Nat := 0) (ifs : Array Nat := #[]) (fds : Array FieldInfo := #[]) : ClassFile where
  minorVersion := 0
  majorVersion := 65
  constantPool := pool
  accessFlags := fl
  thisClass := this
  superClass := sup
  interfaces := ifs
  fields := fds
  methods := ms
  attributes := attrs
def plain (name : String) (sup : Option ClassId) : Class where
  name := name
  kind := .ordinary
  loader := none
  accessFlags := 33
  super := sup
  interfaces := #[]
  cf := none
  fields := #[]
  methods := #[]
  instanceTypes := #[]
  staticTypes := #[]
  resolved := #[]
  callSites := []
  init := .initialized
  statics := none
  mirror := none

def pool0 : Array CpInfo := pool [(5, u "<init>"), (0, u "()V"), (1, .class_ 10), (1, u "java/lang/Object")] 113

def k0m0 : Method := { name := "<init>", desc := "()V", sig := { parameters := [], returnType := none }, accessFlags := 1, code := none }
/-- java/lang/Object -/
def k0 : Class := { plain "java/lang/Object" none with
  accessFlags := 33
  interfaces := #[]
  cf := some (fileOf pool0 8 #[] #[{ accessFlags := 1, nameIndex := 5, descriptorIndex := 6, attributes := #[] }] 33 0 #[] #[])
  fields := #[]
  methods := #[k0m0]
  instanceTypes := #[]
  staticTypes := #[]
  resolved := Array.replicate 124 none
  statics := none }

def pool1 : Array CpInfo := pool [(2, .class_ 4), (1, u "java/lang/Object"), (0, u "<init>"), (0, u "()V"), (0, .integer 2147483647), (0, .methodref 9 10), (0, .class_ 11), (0, .nameAndType 12 13), (0, u "com/example/corvid/corvid/classfile/Descriptors"), (0, u "slots"), (0, u "(C)I"), (0, .integer 65535), (0, .class_ 16), (0, u "com/example/corvid/corvid/classfile/DescriptorsSlotsPinLaw"), (2, u "law"), (0, u "(II)Z")] 7

def k1m0 : Method := { name := "<init>", desc := "()V", sig := { parameters := [], returnType := none }, accessFlags := 1, code := none }
def k1c1 : Code := { maxStack := 4, maxLocals := 7, code := code, exceptionTable := #[], attributes := #[] }
def k1m1 : Method := { name := "law", desc := "(II)Z", sig := { parameters := [.int, .int], returnType := some .boolean }, accessFlags := 9, code := some k1c1 }
/-- com/example/corvid/corvid/classfile/DescriptorsSlotsPinLaw -/
def k1 : Class := { plain "com/example/corvid/corvid/classfile/DescriptorsSlotsPinLaw" (some 0) with
  accessFlags := 49
  interfaces := #[]
  cf := some (fileOf pool1 15 #[] #[{ accessFlags := 1, nameIndex := 5, descriptorIndex := 6, attributes := #[] }, { accessFlags := 9, nameIndex := 19, descriptorIndex := 20, attributes := #[] }] 49 2 #[] #[])
  fields := #[]
  methods := #[k1m0, k1m1]
  instanceTypes := #[]
  staticTypes := #[]
  resolved := Array.replicate 28 none
  statics := none }

def pool2 : Array CpInfo := pool [(2, .class_ 4), (1, u "java/lang/Object"), (0, u "<init>"), (0, u "()V"), (17, .class_ 26), (1, u "com/example/corvid/corvid/classfile/Descriptors"), (47, u "slots"), (0, u "(C)I"), (3, u "MAX_DIMENSIONS"), (0, u "I")] 14

def k2m0 : Method := { name := "<init>", desc := "()V", sig := { parameters := [], returnType := none }, accessFlags := 2, code := none }
def k2c1 : Code := { maxStack := 2, maxLocals := 1, code := prog_15_method_9_code, exceptionTable := #[], attributes := #[] }
def k2m1 : Method := { name := "slots", desc := "(C)I", sig := { parameters := [.char], returnType := some .int }, accessFlags := 8, code := some k2c1 }
/-- com/example/corvid/corvid/classfile/Descriptors -/
def k2 : Class := { plain "com/example/corvid/corvid/classfile/Descriptors" (some 0) with
  accessFlags := 49
  interfaces := #[]
  cf := some (fileOf pool2 24 #[] #[{ accessFlags := 2, nameIndex := 5, descriptorIndex := 6, attributes := #[] }, { accessFlags := 8, nameIndex := 74, descriptorIndex := 75, attributes := #[] }] 49 2 #[] #[{ accessFlags := 25, nameIndex := 79, descriptorIndex := 80, attributes := #[] }])
  fields := #[{ name := "MAX_DIMENSIONS", type := .int, accessFlags := 25, slot := 0, constantValue := 0 }]
  methods := #[k2m0, k2m1]
  instanceTypes := #[]
  staticTypes := #[.int]
  resolved := Array.replicate 95 none
  statics := none }

def pool3 : Array CpInfo := pool [(1, u "java/lang/Cloneable"), (0, .class_ 1), (0, u "java/lang/Object"), (0, .class_ 3)] 3

/-- java/lang/Cloneable -/
def k3 : Class := { plain "java/lang/Cloneable" (some 0) with
  accessFlags := 1537
  interfaces := #[]
  cf := some (fileOf pool3 2 #[] #[] 1537 4 #[] #[])
  fields := #[]
  methods := #[]
  instanceTypes := #[]
  staticTypes := #[]
  resolved := Array.replicate 8 none
  statics := none }

def pool4 : Array CpInfo := pool [(1, u "java/io/Serializable"), (0, .class_ 1), (0, u "java/lang/Object"), (0, .class_ 3)] 3

/-- java/io/Serializable -/
def k4 : Class := { plain "java/io/Serializable" (some 0) with
  accessFlags := 1537
  interfaces := #[]
  cf := some (fileOf pool4 2 #[] #[] 1537 4 #[] #[])
  fields := #[]
  methods := #[]
  instanceTypes := #[]
  staticTypes := #[]
  resolved := Array.replicate 8 none
  statics := none }

/-- the primitive byte -/
def k5 : Class := { plain "byte" none with kind := .primitive 'B', accessFlags := 0x411 }
/-- [B -/
def k6 : Class := { plain "[B" (some 0) with kind := .array 5 .byte, interfaces := #[3, 4], accessFlags := 1041 }

/-- the primitive char -/
def k7 : Class := { plain "char" none with kind := .primitive 'C', accessFlags := 0x411 }
/-- [C -/
def k8 : Class := { plain "[C" (some 0) with kind := .array 7 .char, interfaces := #[3, 4], accessFlags := 1041 }

/-- the primitive int -/
def k9 : Class := { plain "int" none with kind := .primitive 'I', accessFlags := 0x411 }
/-- [I -/
def k10 : Class := { plain "[I" (some 0) with kind := .array 9 .int, interfaces := #[3, 4], accessFlags := 1041 }

def heap : Heap := #[]
def classes : Array Class := #[k0, k1, k2, k3, k4, k5, k6, k7, k8, k9, k10]
def interned : List (Array UInt16 × Addr) := []
def slotsUsed : Nat := 0
def theMethod : MethodId := ⟨1, 1⟩
def args0 : Array Value := #[.int 5, .int 300]
def aboutOver (below : List Frame) : State where
  vm := { classes := classes, interned := interned.toArray }
  heap := heap
  slotsUsed := slotsUsed
  threads := #[{ frames := .invoking theMethod args0 :: below }]
def below0 : List Frame := [.native { method := ⟨0, 0⟩, args := #[] }]
def about1 : State := aboutOver below0
def p0 : Program := .bare "" "" ""
def e0 : Env := launch0.env 0 0 0
theorem w_frames : about1.frames = Frame.invoking theMethod args0 :: below0 := rfl
set_option maxRecDepth 65536 in
theorem w_args : argsFit about1.vm theMethod args0 = true := by decide +kernel
set_option maxRecDepth 65536 in
theorem w_heap : heapFits about1 = true := by decide +kernel
set_option maxRecDepth 65536 in
theorem w_runnable : about1.curStatus? = some .runnable := by decide +kernel
set_option maxRecDepth 65536 in
theorem w_alone : about1.alone = true := by decide +kernel
set_option maxRecDepth 65536 in
theorem w_named : about1.methodNamed? x = some theMethod := by decide +kernel
set_option maxRecDepth 65536 in
theorem w_hears : about1.hears theMethod below0 = true := by decide +kernel
set_option maxRecDepth 65536 in
theorem w_ripe : about1.ripe theMethod args0 below0 = true := by decide +kernel
theorem w_running : about1.status = .running := rfl
set_option maxRecDepth 65536 in
theorem w_room : about1.hasRoom e0.platform room_1 = true :=
  launch0.hasRoom_least _ room_1 (by decide +kernel) (by decide +kernel) (by decide +kernel) (by decide +kernel) (by decide +kernel) (by decide +kernel)
theorem allAtoms_all (ts : List Jvm.Cond) (a : Array Jvm.Value) (st : Jvm.State) : (allAtoms ts).before a st = ts.all (fun c => c.before a st) := by
  induction ts with
  | nil => rfl
  | cons c t ih =>
    show (Jvm.Cond.and c (allAtoms t)).before a st = _
    rw [Jvm.Cond.before_and, ih, List.all_cons]
def words1 : List Jvm.Cond := Jvm.Cond.code x code maxLocals ret :: tables_1
/-- a 'code' word, met by the world's own term for the bytes: nothing is compared byte by byte -/
theorem code_word {y : MethodName} {bytes : ByteArray} {mx : Nat} {rt : Option FieldType} {a : Array Value} {s : State} {m : MethodId} {meth : Method} {c : Code} (h1 : s.methodNamed? y = some m) (h2 : s.vm.method? m = some meth) (h3 : meth.code = some c) (h4 : c.code = bytes)
    (h5 : (c.maxLocals == mx && c.exceptionTable.isEmpty && decide (c.maxStack ≤ mostOperands) && decide (meth.sig.returnType = rt) && !meth.locks && decide (parseMethodDescriptor y.desc = some meth.sig)) = true) : (Jvm.Cond.code y bytes mx rt).before a s = true := by
  simp only [Bool.and_eq_true, beq_iff_eq, Bool.not_eq_true', decide_eq_true_eq] at h5
  obtain ⟨⟨⟨⟨⟨g1, g2⟩, g3⟩, g4⟩, g5⟩, g6⟩ := h5
  simp [Cond.before, Cond.holds, Cond.value, h1, h2, h3, h4, g1, g2, g3, g4, g5, g6]
def isCode : Jvm.Cond → Bool
  | .code _ _ _ _ => true
  | _ => false
theorem all_split {L : List Jvm.Cond} {P : Jvm.Cond → Bool} (h1 : L.all (fun c => isCode c || P c) = true) (h2 : ∀ c ∈ L.filter isCode, P c = true) : L.all P = true := by
  refine List.all_eq_true.mpr fun c hc => ?_
  have h := List.all_eq_true.mp h1 c hc
  rcases Bool.eq_false_or_eq_true (isCode c) with hi | hi
  · exact h2 c (List.mem_filter.mpr ⟨hc, hi⟩)
  · simpa [hi] using h
set_option maxRecDepth 65536 in
theorem w_c0 : (Jvm.Cond.code x code maxLocals ret).before args0 about1 = true := code_word (m := ⟨1, 1⟩) (meth := k1m1) (c := k1c1) (by decide +kernel) rfl rfl rfl (by decide +kernel)
set_option maxRecDepth 65536 in
theorem w_c1 : (Jvm.Cond.code ({ cls := "com/example/corvid/corvid/classfile/Descriptors", name := "slots", desc := "(C)I" } : Jvm.MethodName) prog_15_method_9_code (1 : Nat) (Option.some Jvm.ClassFile.FieldType.int)).before args0 about1 = true := code_word (m := ⟨2, 1⟩) (meth := k2m1) (c := k2c1) (by decide +kernel) rfl rfl rfl (by decide +kernel)
def codes1 : List Jvm.Cond := [Jvm.Cond.code x code maxLocals ret, Jvm.Cond.code ({ cls := "com/example/corvid/corvid/classfile/Descriptors", name := "slots", desc := "(C)I" } : Jvm.MethodName) prog_15_method_9_code (1 : Nat) (Option.some Jvm.ClassFile.FieldType.int)]
set_option maxRecDepth 65536 in
theorem codes_eq : words1.filter isCode = codes1 := rfl
theorem w_codes : ∀ c ∈ words1.filter isCode, c.before args0 about1 = true := by
  rw [codes_eq]
  intro c hc
  simp only [codes1, List.mem_cons, List.not_mem_nil, or_false] at hc
  rcases hc with rfl | rfl
  · exact w_c0
  · exact w_c1
set_option maxRecDepth 65536 in
theorem w_t1 : words1.all (fun c => isCode c || c.before args0 about1) = true := by decide +kernel
theorem w_tables : (allAtoms (Jvm.Cond.code x code maxLocals ret :: tables_1)).before args0 about1 = true := by
  rw [allAtoms_all]
  show words1.all (fun c => c.before args0 about1) = true
  refine all_split ?_ w_codes
  rw [w_t1]
set_option maxRecDepth 65536 in
theorem w_case : (Jvm.Cond.and given_1 narrow_1).before args0 about1 = true := by decide +kernel
theorem w_applies : (headSpec (Jvm.Cond.code x code maxLocals ret :: tables_1) room_1).applies x e0.platform about1 = true :=
  (Spec.applies_iff w_frames).mpr ⟨w_running, w_runnable, w_alone, w_named, w_hears, w_ripe, w_room, w_tables⟩
theorem atStart : AtStart classFile x code maxLocals ret World_1 tables_1 room_1 Calls_1 rest_1 Pre_1 launch0 p0 e0 about1 theMethod args0 below0 :=
  ⟨lists_1, trivial, launch0.admits_env _ _ _, launch0.least_env, fairChoices_fair.cas, fairChoices_fair.clock, w_frames, w_args, w_heap, w_applies, trivial, trivial, w_case⟩
end start1
theorem witness_1 : WitnessClaimed_1 := ⟨start1.p0, start1.e0, start1.about1, start1.theMethod, start1.args0, start1.below0, start1.atStart⟩
end Jvm.Pilot.@@N@@
