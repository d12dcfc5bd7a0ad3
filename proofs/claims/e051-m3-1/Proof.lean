import JvmDerived
import JvmDerived.Pilot.@@N@@Statement
import JvmDerived.Pilot.@@N@@Code
set_option linter.unusedVariables false
set_option linter.unusedSimpArgs false
namespace Jvm.Pilot.@@N@@
open Jvm Jvm.ClassFile Sem Op Lib Jvm.Free Jvm.Stand Jvm.LawKit Jvm.RoadKit Bundle Jvm.Pilot.@@N@@.Jvm.D
theorem own_keq {h0 h h' : Heap} {ws : List Addr} (e : h' = h) (K : Keep h0 h ws) : Keep h0 h' ws := e ▸ K

theorem own_lmul {x y : Int64} (h : -4611686018427387904 ≤ x.toInt * y.toInt ∧ x.toInt * y.toInt < 4611686018427387904) : (x * y).toInt = x.toInt * y.toInt := by
  have h1 := c_lmul x y
  have h2 := rng64 (x * y)
  generalize x.toInt * y.toInt = P at *
  omega
theorem own_ladd {x y : Int64} (h : -4611686018427387904 ≤ x.toInt + y.toInt ∧ x.toInt + y.toInt < 4611686018427387904) : (x + y).toInt = x.toInt + y.toInt := by
  have h1 := c_ladd x y
  have h2 := rng64 (x + y)
  omega
theorem own_lsub {x y : Int64} (h : -4611686018427387904 ≤ x.toInt - y.toInt ∧ x.toInt - y.toInt < 4611686018427387904) : (x - y).toInt = x.toInt - y.toInt := by
  have h1 := c_lsub x y
  have h2 := rng64 (x - y)
  omega
def own_min (a b : Int32) : Int32 := if b < a then b else a
def own_q (p1 p2 : Int32) : Int32 := if 0 < p2 then (((200 : Int64) * p1.toInt64 + p2.toInt64) / ((2 : Int64) * p2.toInt64)).toInt32 else 100
def own_pc (p1 p2 : Int32) : Int32 := if p1 < p2 then own_min (own_q p1 p2) 99 else own_q p1 p2
theorem own_i32 {a b : Int32} (h : a.toInt = b.toInt) : a = b := Int32.toInt_inj.mp h
theorem own_twice (k : Int64) (n : Int) (hk : k.toInt = n) (h0 : 0 ≤ n) (h1 : n ≤ 200) (x : Int32) (hx : 0 ≤ x.toInt) : (k * x.toInt64).toInt = n * x.toInt := by
  have e := c_i2l x
  have r := rng32 x
  have h := own_lmul (x := k) (y := x.toInt64)
  rw [hk, e] at h
  refine h ⟨?_, ?_⟩
  · have := Int.mul_nonneg h0 hx; omega
  · have := Int.mul_le_mul_of_nonneg_right h1 hx; omega
/-- the quotient, as an integer -/
theorem own_qv {p1 p2 : Int32} (h0 : 0 ≤ p1.toInt) (h1 : p1.toInt ≤ p2.toInt) (h2 : 0 < p2.toInt) : (own_q p1 p2).toInt = (200 * p1.toInt + p2.toInt) / (2 * p2.toInt) ∧ 0 ≤ (own_q p1 p2).toInt ∧ (own_q p1 p2).toInt ≤ 100 ∧ 2 * (p2.toInt * (own_q p1 p2).toInt) ≤ 200 * p1.toInt + p2.toInt ∧ 200 * p1.toInt + p2.toInt < 2 * (p2.toInt * (own_q p1 p2).toInt) + 2 * p2.toInt := by
  have r2 := rng32 p2
  have e1 := own_twice 200 200 (by decide) (by omega) (by omega) p1 h0
  have e2 := own_twice 2 2 (by decide) (by omega) (by omega) p2 (by omega)
  have e3 := own_ladd (x := (200 : Int64) * p1.toInt64) (y := p2.toInt64) (by rw [e1, c_i2l]; omega)
  rw [e1, c_i2l] at e3
  have hd := (c_ldiv ((200 : Int64) * p1.toInt64 + p2.toInt64) ((2 : Int64) * p2.toInt64) (2 * p2.toInt) e2 (fun q => by rw [q] at e2; have : (-1 : Int64).toInt = -1 := by decide
                                                                                                                         omega)).1 (by omega)
  rw [e3] at hd
  have hlt : (0 : Int32) < p2 := by rw [Int32.lt_iff_toInt_lt]; exact h2
  have hq : own_q p1 p2 = (((200 : Int64) * p1.toInt64 + p2.toInt64) / ((2 : Int64) * p2.toInt64)).toInt32 := if_pos hlt
  have a1 := Int.mul_ediv_add_emod (200 * p1.toInt + p2.toInt) (2 * p2.toInt)
  have a2 := Int.emod_nonneg (200 * p1.toInt + p2.toInt) (b := 2 * p2.toInt) (by omega)
  have a3 := Int.emod_lt_of_pos (200 * p1.toInt + p2.toInt) (b := 2 * p2.toInt) (by omega)
  have a4 : 0 ≤ (200 * p1.toInt + p2.toInt) / (2 * p2.toInt) := Int.ediv_nonneg (by omega) (by omega)
  have hl := c_l2i (((200 : Int64) * p1.toInt64 + p2.toInt64) / ((2 : Int64) * p2.toInt64))
  rw [hd] at hl
  have hr := rng32 (((200 : Int64) * p1.toInt64 + p2.toInt64) / ((2 : Int64) * p2.toInt64)).toInt32
  rw [← hq] at hl hr
  generalize (200 * p1.toInt + p2.toInt) / (2 * p2.toInt) = qI at *
  rw [Int.mul_assoc] at a1
  have a5 : qI ≤ 100 := Int.not_lt.mp fun z => by
    have := Int.mul_le_mul_of_nonneg_left (show (101 : Int) ≤ qI by omega) (Int.le_of_lt h2)
    omega
  have hv : (own_q p1 p2).toInt = qI := by omega
  rw [hv]
  refine ⟨rfl, a4, a5, by omega, by omega⟩
theorem own_A {p1 p2 : Int32} (h0 : 0 ≤ p1.toInt) (h : p1 = p2) : own_pc p1 p2 = 100 := by
  subst h
  have e : own_pc p1 p1 = own_q p1 p1 := if_neg (by rw [Int32.lt_iff_toInt_lt]; omega)
  rw [e]
  by_cases z : 0 < p1.toInt
  · obtain ⟨-, q0, q1, q2, q3⟩ := own_qv h0 (Int.le_refl _) z
    refine own_i32 ?_
    show (own_q p1 p1).toInt = 100
    refine Int.le_antisymm q1 (Int.not_lt.mp fun y => ?_)
    have := Int.mul_le_mul_of_nonneg_left (show (own_q p1 p1).toInt ≤ 99 by omega) h0
    omega
  · exact if_neg (by rw [Int32.lt_iff_toInt_lt]; exact z)
theorem own_less {p1 p2 : Int32} (h1 : p1.toInt ≤ p2.toInt) (h : ¬ p1 = p2) : p1.toInt < p2.toInt := by
  have : p1.toInt ≠ p2.toInt := fun q => h (own_i32 q)
  omega
theorem own_pv {p1 p2 : Int32} (h0 : 0 ≤ p1.toInt) (h1 : p1.toInt < p2.toInt) : (own_pc p1 p2).toInt = min (own_q p1 p2).toInt 99 := by
  have e : own_pc p1 p2 = own_min (own_q p1 p2) 99 := if_pos (by rw [Int32.lt_iff_toInt_lt]; exact h1)
  rw [e]; unfold own_min; split
  · rename_i z; rw [Int32.lt_iff_toInt_lt] at z; have : (99 : Int32).toInt = 99 := by decide
    rw [this] at z ⊢; omega
  · rename_i z; rw [Int32.lt_iff_toInt_lt] at z; have : (99 : Int32).toInt = 99 := by decide
    rw [this] at z; omega
theorem own_B {p1 p2 : Int32} (h0 : 0 ≤ p1.toInt) (h1 : p1.toInt ≤ p2.toInt) (h : ¬ p1 = p2) : ¬ own_pc p1 p2 < 0 ∧ ¬ 99 < own_pc p1 p2 := by
  have h2 := own_less h1 h
  obtain ⟨-, q0, q1, -, -⟩ := own_qv h0 h1 (by omega)
  have e := own_pv h0 h2
  have e0 : (0 : Int32).toInt = 0 := by decide
  have e9 : (99 : Int32).toInt = 99 := by decide
  rw [Int32.lt_iff_toInt_lt, Int32.lt_iff_toInt_lt, e0, e9, e]
  omega
theorem own_C {p1 p2 : Int32} (h0 : 0 ≤ p1.toInt) (h1 : p1.toInt ≤ p2.toInt) (h : ¬ p1 = p2) (hp : own_pc p1 p2 = 99) : ¬ lcmpW ((200 : Int64) * p1.toInt64) ((197 : Int64) * p2.toInt64) < 0 := by
  have h2 := own_less h1 h
  obtain ⟨-, q0, q1, q2, q3⟩ := own_qv h0 h1 (by omega)
  have e := own_pv h0 h2
  have e9 : (99 : Int32).toInt = 99 := by decide
  rw [hp, e9] at e
  rw [lw_lt, Int64.lt_iff_toInt_lt, own_twice 200 200 (by decide) (by omega) (by omega) p1 h0, own_twice 197 197 (by decide) (by omega) (by omega) p2 (by omega)]
  have := Int.mul_le_mul_of_nonneg_left (show (99 : Int) ≤ (own_q p1 p2).toInt by omega) (show 0 ≤ p2.toInt by omega)
  omega
theorem own_D {p1 p2 : Int32} (h0 : 0 ≤ p1.toInt) (h1 : p1.toInt ≤ p2.toInt) (h : ¬ p1 = p2) (hp : ¬ own_pc p1 p2 = 99) :
    ¬ 0 < lcmpW (((2 : Int64) * (own_pc p1 p2).toInt64 - 1) * p2.toInt64) ((200 : Int64) * p1.toInt64) ∧ lcmpW ((200 : Int64) * p1.toInt64) (((2 : Int64) * (own_pc p1 p2).toInt64 + 1) * p2.toInt64) < 0 := by
  have h2 := own_less h1 h
  obtain ⟨-, q0, q1, q2, q3⟩ := own_qv h0 h1 (by omega)
  have e := own_pv h0 h2
  have e9 : (99 : Int32).toInt = 99 := by decide
  have ne : (own_pc p1 p2).toInt ≠ 99 := fun q => hp (own_i32 (by rw [e9]; exact q))
  have eq : (own_pc p1 p2).toInt = (own_q p1 p2).toInt := by omega
  generalize own_pc p1 p2 = P at *
  rw [← eq] at q0 q1 q2 q3
  have r2 := rng32 p2
  have w1 := own_twice 2 2 (by decide) (by omega) (by omega) P q0
  have one : (1 : Int64).toInt = 1 := by decide
  have w2 := own_lsub (x := (2 : Int64) * P.toInt64) (y := 1) (by rw [w1, one]; omega)
  have w3 := own_ladd (x := (2 : Int64) * P.toInt64) (y := 1) (by rw [w1, one]; omega)
  rw [w1, one] at w2 w3
  have m1 : (2 * P.toInt - 1) * p2.toInt = 2 * (p2.toInt * P.toInt) - p2.toInt := by rw [Int.sub_mul, Int.mul_assoc, Int.one_mul, Int.mul_comm P.toInt]
  have m2 : (2 * P.toInt + 1) * p2.toInt = 2 * (p2.toInt * P.toInt) + p2.toInt := by rw [Int.add_mul, Int.mul_assoc, Int.one_mul, Int.mul_comm P.toInt]
  have m0 := Int.mul_nonneg (show 0 ≤ p2.toInt by omega) q0
  have w4 := own_lmul (x := (2 : Int64) * P.toInt64 - 1) (y := p2.toInt64) (by rw [w2, c_i2l, m1]; omega)
  have w5 := own_lmul (x := (2 : Int64) * P.toInt64 + 1) (y := p2.toInt64) (by rw [w3, c_i2l, m2]; omega)
  rw [w2, c_i2l, m1] at w4
  rw [w3, c_i2l, m2] at w5
  rw [lw_gt, lw_lt, Int64.lt_iff_toInt_lt, Int64.lt_iff_toInt_lt, w4, w5, own_twice 200 200 (by decide) (by omega) (by omega) p1 h0]
  omega
theorem own_mask (x : Int32) : 0 ≤ (x &&& 2147483647).toInt := by
  have := c_mask x 2147483647 31 (by decide) (by decide); omega
theorem own_mask8 (x : Int32) : 0 ≤ (x &&& 255).toInt := by
  have := c_mask x 255 8 (by decide) (by decide); omega
theorem own_one {t : Int32} (h : 0 ≤ t.toInt) : (t.toInt64 + 1).toInt = t.toInt + 1 := by
  have r := rng32 t
  have one : (1 : Int64).toInt = 1 := by decide
  have := own_ladd (x := t.toInt64) (y := 1) (by rw [c_i2l, one]; omega)
  rw [this, c_i2l, one]
theorem own_nz {t : Int32} (h : 0 ≤ t.toInt) : (t.toInt64 + 1) ≠ (0 : Int64) := fun q => by
  have := own_one h; rw [q] at this; have z : (0 : Int64).toInt = 0 := by decide
  omega
theorem own_cov (b : Int32) {t : Int32} (h : 0 ≤ t.toInt) : 0 ≤ (((b.toInt64 &&& (2147483647 : Int64)) - (b.toInt64 &&& (2147483647 : Int64)) / (t.toInt64 + (1 : Int64)) * (t.toInt64 + (1 : Int64))).toInt32).toInt ∧ (((b.toInt64 &&& (2147483647 : Int64)) - (b.toInt64 &&& (2147483647 : Int64)) / (t.toInt64 + (1 : Int64)) * (t.toInt64 + (1 : Int64))).toInt32).toInt ≤ t.toInt := by
  have r := rng32 t
  have h1 := c_maskL b.toInt64 2147483647 31 (by decide) (by decide)
  have h2 := (c_lrem (b.toInt64 &&& 2147483647) (t.toInt64 + 1) (t.toInt + 1) (own_one h)).1 (by rw [h1]; omega)
  have a2 := Int.emod_nonneg (b.toInt64 &&& 2147483647).toInt (b := t.toInt + 1) (by omega)
  have a3 := Int.emod_lt_of_pos (b.toInt64 &&& 2147483647).toInt (b := t.toInt + 1) (by omega)
  rw [← h2] at a2 a3
  have h3 := c_l2i ((b.toInt64 &&& (2147483647 : Int64)) - (b.toInt64 &&& (2147483647 : Int64)) / (t.toInt64 + (1 : Int64)) * (t.toInt64 + (1 : Int64)))
  have h4 := rng32 ((b.toInt64 &&& (2147483647 : Int64)) - (b.toInt64 &&& (2147483647 : Int64)) / (t.toInt64 + (1 : Int64)) * (t.toInt64 + (1 : Int64))).toInt32
  generalize (b.toInt64 &&& (2147483647 : Int64)) - (b.toInt64 &&& (2147483647 : Int64)) / (t.toInt64 + (1 : Int64)) * (t.toInt64 + (1 : Int64)) = y at *
  omega
theorem own_dnz {t : Int32} (h : 0 < t) : ((2 : Int64) * t.toInt64) ≠ (0 : Int64) := fun q => by
  rw [Int32.lt_iff_toInt_lt] at h
  have h' : 0 < t.toInt := h
  have := own_twice 2 2 (by decide) (by omega) (by omega) t (by omega)
  rw [q] at this; have z : (0 : Int64).toInt = 0 := by decide
  omega
theorem ef_2 (m : MethodId) (x0 : Int32) (x1 : Int32) : entryFrame m #[(.int x0), (.int x1)] 2 = mkF m 0 #[.val (.int x0), .val (.int x1)] [] := by (first | (simp [entryFrame, mkF, argsToLocals, Value.category]; done) | rfl)
def Q2 (Z : State) (p1 : Int32) (p2 : Int32) (h0 : Heap) (n0 : Nat) (v : Option Value) (h : Heap) (L : List Loc) : Prop := v = some (.int (own_min p1 p2)) ∧ Fr n0 L ∧ h = h0
theorem d2_0 : decode jdk_29_method_69_code 0 = .ok (.iload_n 0, 1) := by decide +kernel
theorem d2_1 : decode jdk_29_method_69_code 1 = .ok (.iload_n 1, 1) := by decide +kernel
theorem d2_2 : decode jdk_29_method_69_code 2 = .ok (.if_icmp .gt 7, 3) := by decide +kernel
theorem d2_9 : decode jdk_29_method_69_code 9 = .ok (.iload_n 1, 1) := by decide +kernel
theorem d2_10 : decode jdk_29_method_69_code 10 = .ok (.ireturn, 1) := by decide +kernel
theorem d2_5 : decode jdk_29_method_69_code 5 = .ok (.iload_n 0, 1) := by decide +kernel
theorem d2_6 : decode jdk_29_method_69_code 6 = .ok (.goto 4, 3) := by decide +kernel
set_option maxRecDepth 65536 in
set_option maxHeartbeats 40000000 in
theorem rm2 (l : Launch) (Z : State) (a0 : Array Value) (hw : ∀ d ∈ tables_1, d.before a0 Z = true) (ws : List Jvm.Cond) (p1 : Int32) (p2 : Int32) (h0 : Heap) (n0 : Nat) (Z0 : n0 ≤ h0.size)  :
    MetFree l (⟨"java/lang/Math", "min", "(II)I"⟩ : MethodName) (head1 (Jvm.Cond.code (⟨"java/lang/Math", "min", "(II)I"⟩ : MethodName) jdk_29_method_69_code 2 (some .int) :: ws) ({ frames := 0, cells := 0, slots := 0, locals := 0 } : Room)) (fun a U => a = #[(.int p1), (.int p2)] ∧ Z.Warmed39 U.vm ∧ U.heap = h0) (fun _ _ _ _ _ => True) (fun _ U o U' => ∃ v L, o = .returned v ∧ Q2 Z p1 p2 h0 n0 v U'.heap L ∧ FrameEnd U o U' L ({ frames := 0, cells := 0, slots := 0, locals := 0 } : Room).cells ({ frames := 0, cells := 0, slots := 0, locals := 0 } : Room).slots) := by
  refine MetFree.of_bodySF (Jvm.Free.JP.mathPlain rfl (by decide +kernel)) hisR ?_
  intro p e s m args below meth c s₁ Bd hml0 hP hK
  obtain ⟨rfl, hZ, hh⟩ := hP
  have hx := Bd.exec
  have hby := Bd.bytes
  have hml : c.maxLocals = 2 := hml0
  have hown : s.vm.findClass "java/lang/Math" = some m.cls := findClass_of_methodNamed Bd.named
  have hnm := (name_of_methodNamed Bd.named Bd.method).1
  have X0 : Stand p l e ({ frames := 0, cells := 0, slots := 0, locals := 0 } : Room) s m #[(.int p1), (.int p2)] below meth c s₁ [] 0 0 := Stand.of_body Bd
  have e0 : s₁.heap = h0 := by rw [← hh, Bd.state]; rfl
  have N0 := Fr.nil n0
  have pre0 : ∀ t, Steps p.tables e below (s₁.setTop (mkF m 0 #[.val (.int p1), .val (.int p2)] [])) t → Steps p.tables e below (s₁.setTop (entryFrame m #[(.int p1), (.int p2)] 2)) t := fun t k => castTop (ef_2 m p1 p2) k
  have pre1 : ∀ t, Steps p.tables e below (s₁.setTop (mkF m 2 #[.val (.int p1), .val (.int p2)] [(.int p2), (.int p1)])) t → Steps p.tables e below (s₁.setTop (mkF m 0 #[.val (.int p1), .val (.int p2)] [])) t := by
    intro t kt
    show Steps p.tables e below (s₁.setTop (mkF m 0 #[.val (.int p1), .val (.int p2)] [])) _
    refine XS.iloadN X0.here hx rfl (hb hby d2_0) rfl ?_
    show Steps p.tables e below (s₁.setTop (mkF m 1 #[.val (.int p1), .val (.int p2)] [(.int p1)])) _
    refine XS.iloadN X0.here hx rfl (hb hby d2_1) rfl ?_
    exact kt
  by_cases c2 : p2 < p1
  · skip
    have pre2 : ∀ t, Steps p.tables e below (s₁.setTop (mkF m 10 #[.val (.int p1), .val (.int p2)] [(.int p2)])) t → Steps p.tables e below (s₁.setTop (mkF m 2 #[.val (.int p1), .val (.int p2)] [(.int p2), (.int p1)])) t := by
      intro t kt
      show Steps p.tables e below (s₁.setTop (mkF m 2 #[.val (.int p1), .val (.int p2)] [(.int p2), (.int p1)])) _
      refine XS.icmpYes X0.here hx rfl (pc0 := 2) (pc' := 9) rfl (hb hby d2_2) rfl (tlt (c2 : p2 < p1)).2.2.1 (by decide) (by decide) ?_
      show Steps p.tables e below (s₁.setTop (mkF m 9 #[.val (.int p1), .val (.int p2)] [])) _
      refine XS.iloadN X0.here hx rfl (hb hby d2_9) rfl ?_
      exact kt
    obtain ⟨fs, hr, hrun, hended, hW, hsame⟩ := X0.leave (v := some (.int p2)) (fun h => by rw [Bd.returns] at h; cases h)
    refine ⟨_, _, (pre0 _ (pre1 _ (pre2 _ ?_))), hrun, hended, _, _, rfl, ?_, ⟨_, rfl⟩, hW, hsame.mono (by decide) (by decide)⟩
    · show Steps p.tables e below (s₁.setTop (mkF m 10 #[.val (.int p1), .val (.int p2)] [(.int p2)])) _
      exact retOut X0 hx (t := .int) Bd.returns rfl (Or.inl ⟨rfl, Or.inl rfl, _, rfl⟩) (hb hby d2_10) hr
    · show Q2 Z p1 p2 h0 n0 _ s₁.heap _
      rw [e0]
      exact ⟨by rw [show own_min p1 p2 = p2 from if_pos c2], N0, rfl⟩
  · skip
    have pre3 : ∀ t, Steps p.tables e below (s₁.setTop (mkF m 10 #[.val (.int p1), .val (.int p2)] [(.int p1)])) t → Steps p.tables e below (s₁.setTop (mkF m 2 #[.val (.int p1), .val (.int p2)] [(.int p2), (.int p1)])) t := by
      intro t kt
      show Steps p.tables e below (s₁.setTop (mkF m 2 #[.val (.int p1), .val (.int p2)] [(.int p2), (.int p1)])) _
      refine XS.icmpNo X0.here hx rfl (hb hby d2_2) rfl (flt (c2 : ¬ (p2 < p1))).2.2.1 ?_
      show Steps p.tables e below (s₁.setTop (mkF m 5 #[.val (.int p1), .val (.int p2)] [])) _
      refine XS.iloadN X0.here hx rfl (hb hby d2_5) rfl ?_
      show Steps p.tables e below (s₁.setTop (mkF m 6 #[.val (.int p1), .val (.int p2)] [(.int p1)])) _
      refine XS.goto X0.here hx rfl (pc0 := 6) (pc' := 10) rfl (hb hby d2_6) (by decide) (by decide) ?_
      exact kt
    obtain ⟨fs, hr, hrun, hended, hW, hsame⟩ := X0.leave (v := some (.int p1)) (fun h => by rw [Bd.returns] at h; cases h)
    refine ⟨_, _, (pre0 _ (pre1 _ (pre3 _ ?_))), hrun, hended, _, _, rfl, ?_, ⟨_, rfl⟩, hW, hsame.mono (by decide) (by decide)⟩
    · show Steps p.tables e below (s₁.setTop (mkF m 10 #[.val (.int p1), .val (.int p2)] [(.int p1)])) _
      exact retOut X0 hx (t := .int) Bd.returns rfl (Or.inl ⟨rfl, Or.inl rfl, _, rfl⟩) (hb hby d2_10) hr
    · show Q2 Z p1 p2 h0 n0 _ s₁.heap _
      rw [e0]
      exact ⟨by rw [show own_min p1 p2 = p1 from if_neg c2], N0, rfl⟩
theorem ef_1 (m : MethodId) (x0 : Int32) (x1 : Int32) : entryFrame m #[(.int x0), (.int x1)] 3 = mkF m 0 #[.val (.int x0), .val (.int x1), .unset] [] := by (first | (simp [entryFrame, mkF, argsToLocals, Value.category]; done) | rfl)
def Q1 (Z : State) (p1 : Int32) (p2 : Int32) (h0 : Heap) (n0 : Nat) (v : Option Value) (h : Heap) (L : List Loc) : Prop := v = some (.int (own_pc p1 p2)) ∧ Fr n0 L ∧ h = h0
theorem pn_com_example_formal_model_bench_formalmodelbench_engine_CoverageTable : plainName "com/example/formal_model_bench/formalmodelbench/engine/CoverageTable" = true := by first | (simp [plainName, overriddenIn]; done) | decide +kernel
theorem d1_0 : decode prog_20_method_4_code 0 = .ok (.bipush 100, 2) := by decide +kernel
theorem d1_2 : decode prog_20_method_4_code 2 = .ok (.istore_n 2, 1) := by decide +kernel
theorem d1_3 : decode prog_20_method_4_code 3 = .ok (.iload_n 1, 1) := by decide +kernel
theorem d1_4 : decode prog_20_method_4_code 4 = .ok (.ifCond .le 21, 3) := by decide +kernel
theorem d1_7 : decode prog_20_method_4_code 7 = .ok (.ldc2_w 184, 3) := by decide +kernel
theorem d1_10 : decode prog_20_method_4_code 10 = .ok (.iload_n 0, 1) := by decide +kernel
theorem d1_11 : decode prog_20_method_4_code 11 = .ok (.i2l, 1) := by decide +kernel
theorem d1_12 : decode prog_20_method_4_code 12 = .ok (.lmul, 1) := by decide +kernel
theorem d1_13 : decode prog_20_method_4_code 13 = .ok (.iload_n 1, 1) := by decide +kernel
theorem d1_14 : decode prog_20_method_4_code 14 = .ok (.i2l, 1) := by decide +kernel
theorem d1_15 : decode prog_20_method_4_code 15 = .ok (.ladd, 1) := by decide +kernel
theorem d1_16 : decode prog_20_method_4_code 16 = .ok (.ldc2_w 186, 3) := by decide +kernel
theorem d1_19 : decode prog_20_method_4_code 19 = .ok (.iload_n 1, 1) := by decide +kernel
theorem d1_20 : decode prog_20_method_4_code 20 = .ok (.i2l, 1) := by decide +kernel
theorem d1_21 : decode prog_20_method_4_code 21 = .ok (.lmul, 1) := by decide +kernel
theorem d1_22 : decode prog_20_method_4_code 22 = .ok (.ldiv, 1) := by decide +kernel
theorem d1_23 : decode prog_20_method_4_code 23 = .ok (.l2i, 1) := by decide +kernel
theorem d1_24 : decode prog_20_method_4_code 24 = .ok (.istore_n 2, 1) := by decide +kernel
theorem d1_25 : decode prog_20_method_4_code 25 = .ok (.iload_n 0, 1) := by decide +kernel
theorem d1_26 : decode prog_20_method_4_code 26 = .ok (.iload_n 1, 1) := by decide +kernel
theorem d1_27 : decode prog_20_method_4_code 27 = .ok (.if_icmp .ge 10, 3) := by decide +kernel
theorem d1_30 : decode prog_20_method_4_code 30 = .ok (.iload_n 2, 1) := by decide +kernel
theorem d1_31 : decode prog_20_method_4_code 31 = .ok (.bipush 99, 2) := by decide +kernel
theorem d1_33 : decode prog_20_method_4_code 33 = .ok (.invokestatic 188, 3) := by decide +kernel
theorem pd__II_I : parseMethodDescriptor "(II)I" = some ⟨[.int, .int], some .int⟩ := by decide +kernel
theorem d1_36 : decode prog_20_method_4_code 36 = .ok (.istore_n 2, 1) := by decide +kernel
theorem d1_37 : decode prog_20_method_4_code 37 = .ok (.iload_n 2, 1) := by decide +kernel
theorem d1_38 : decode prog_20_method_4_code 38 = .ok (.ireturn, 1) := by decide +kernel
set_option maxRecDepth 65536 in
set_option maxHeartbeats 40000000 in
theorem rm1 (l : Launch) (Z : State) (a0 : Array Value) (hw : ∀ d ∈ tables_1, d.before a0 Z = true) (ws : List Jvm.Cond) (p1 : Int32) (p2 : Int32) (h0 : Heap) (n0 : Nat) (Z0 : n0 ≤ h0.size)  :
    MetFree l (⟨"com/example/formal_model_bench/formalmodelbench/engine/CoverageTable", "percent", "(II)I"⟩ : MethodName) (head1 (Jvm.Cond.code (⟨"com/example/formal_model_bench/formalmodelbench/engine/CoverageTable", "percent", "(II)I"⟩ : MethodName) prog_20_method_4_code 3 (some .int) :: ws) ({ frames := 1, cells := 0, slots := 0, locals := 16 } : Room)) (fun a U => a = #[(.int p1), (.int p2)] ∧ Z.Warmed39 U.vm ∧ U.heap = h0) (fun _ _ _ _ _ => True) (fun _ U o U' => ∃ v L, o = .returned v ∧ Q1 Z p1 p2 h0 n0 v U'.heap L ∧ FrameEnd U o U' L ({ frames := 1, cells := 0, slots := 0, locals := 16 } : Room).cells ({ frames := 1, cells := 0, slots := 0, locals := 16 } : Room).slots) := by
  refine MetFree.of_bodySF (plainFor_of_name pn_com_example_formal_model_bench_formalmodelbench_engine_CoverageTable) hisR ?_
  intro p e s m args below meth c s₁ Bd hml0 hP hK
  obtain ⟨rfl, hZ, hh⟩ := hP
  have hx := Bd.exec
  have hby := Bd.bytes
  have hml : c.maxLocals = 3 := hml0
  have hown : s.vm.findClass "com/example/formal_model_bench/formalmodelbench/engine/CoverageTable" = some m.cls := findClass_of_methodNamed Bd.named
  have hnm := (name_of_methodNamed Bd.named Bd.method).1
  have X0 : Stand p l e ({ frames := 1, cells := 0, slots := 0, locals := 16 } : Room) s m #[(.int p1), (.int p2)] below meth c s₁ [] 0 0 := Stand.of_body Bd
  have e0 : s₁.heap = h0 := by rw [← hh, Bd.state]; rfl
  have N0 := Fr.nil n0
  have pre0 : ∀ t, Steps p.tables e below (s₁.setTop (mkF m 0 #[.val (.int p1), .val (.int p2), .unset] [])) t → Steps p.tables e below (s₁.setTop (entryFrame m #[(.int p1), (.int p2)] 3)) t := fun t k => castTop (ef_1 m p1 p2) k
  have pre4 : ∀ t, Steps p.tables e below (s₁.setTop (mkF m 4 #[.val (.int p1), .val (.int p2), .val (.int (100 : Int32))] [(.int p2)])) t → Steps p.tables e below (s₁.setTop (mkF m 0 #[.val (.int p1), .val (.int p2), .unset] [])) t := by
    intro t kt
    show Steps p.tables e below (s₁.setTop (mkF m 0 #[.val (.int p1), .val (.int p2), .unset] [])) _
    refine XS.bipush X0.here hx rfl (hb hby d1_0) ?_
    show Steps p.tables e below (s₁.setTop (mkF m 2 #[.val (.int p1), .val (.int p2), .unset] [(.int (100 : Int32))])) _
    refine XS.istoreN X0.here hx rfl (hb hby d1_2) rfl (l' := #[.val (.int p1), .val (.int p2), .val (.int (100 : Int32))]) rfl ?_
    show Steps p.tables e below (s₁.setTop (mkF m 3 #[.val (.int p1), .val (.int p2), .val (.int (100 : Int32))] [])) _
    refine XS.iloadN X0.here hx rfl (hb hby d1_3) rfl ?_
    exact kt
  by_cases c4 : (0 : Int32) < p2
  · skip
    have eq : own_q p1 p2 = (((((200 : Int64) * (p1.toInt64)) + (p2.toInt64)) / ((2 : Int64) * (p2.toInt64))).toInt32) := if_pos c4
    have pre5 : ∀ t, Steps p.tables e below (s₁.setTop (mkF m 27 #[.val (.int p1), .val (.int p2), .val (.int (((((200 : Int64) * (p1.toInt64)) + (p2.toInt64)) / ((2 : Int64) * (p2.toInt64))).toInt32))] [(.int p2), (.int p1)])) t → Steps p.tables e below (s₁.setTop (mkF m 4 #[.val (.int p1), .val (.int p2), .val (.int (100 : Int32))] [(.int p2)])) t := by
      intro t kt
      show Steps p.tables e below (s₁.setTop (mkF m 4 #[.val (.int p1), .val (.int p2), .val (.int (100 : Int32))] [(.int p2)])) _
      refine XS.ifNo X0.here hx rfl (hb hby d1_4) rfl ((if0 _ _).trans (tlt (c4 : (0 : Int32) < p2)).2.2.2) ?_
      show Steps p.tables e below (s₁.setTop (mkF m 7 #[.val (.int p1), .val (.int p2), .val (.int (100 : Int32))] [])) _
      refine X0.ldc2Long hx hown (mvT hZ (hw _ (List.mem_of_getElem? (i := 6) rfl))) (g := (mkF m 7 #[.val (.int p1), .val (.int p2), .val (.int (100 : Int32))] [])) rfl (hb hby d1_7) _ ?_
      show Steps p.tables e below (s₁.setTop (mkF m 10 #[.val (.int p1), .val (.int p2), .val (.int (100 : Int32))] [(.long (200 : Int64))])) _
      refine XS.iloadN X0.here hx rfl (hb hby d1_10) rfl ?_
      show Steps p.tables e below (s₁.setTop (mkF m 11 #[.val (.int p1), .val (.int p2), .val (.int (100 : Int32))] [(.int p1), (.long (200 : Int64))])) _
      refine XS.i2l X0.here hx rfl (hb hby d1_11) rfl ?_
      show Steps p.tables e below (s₁.setTop (mkF m 12 #[.val (.int p1), .val (.int p2), .val (.int (100 : Int32))] [(.long (p1.toInt64)), (.long (200 : Int64))])) _
      refine XS.lmul X0.here hx rfl (hb hby d1_12) rfl ?_
      show Steps p.tables e below (s₁.setTop (mkF m 13 #[.val (.int p1), .val (.int p2), .val (.int (100 : Int32))] [(.long ((200 : Int64) * (p1.toInt64)))])) _
      refine XS.iloadN X0.here hx rfl (hb hby d1_13) rfl ?_
      show Steps p.tables e below (s₁.setTop (mkF m 14 #[.val (.int p1), .val (.int p2), .val (.int (100 : Int32))] [(.int p2), (.long ((200 : Int64) * (p1.toInt64)))])) _
      refine XS.i2l X0.here hx rfl (hb hby d1_14) rfl ?_
      show Steps p.tables e below (s₁.setTop (mkF m 15 #[.val (.int p1), .val (.int p2), .val (.int (100 : Int32))] [(.long (p2.toInt64)), (.long ((200 : Int64) * (p1.toInt64)))])) _
      refine XS.ladd X0.here hx rfl (hb hby d1_15) rfl ?_
      show Steps p.tables e below (s₁.setTop (mkF m 16 #[.val (.int p1), .val (.int p2), .val (.int (100 : Int32))] [(.long (((200 : Int64) * (p1.toInt64)) + (p2.toInt64)))])) _
      refine X0.ldc2Long hx hown (mvT hZ (hw _ (List.mem_of_getElem? (i := 7) rfl))) (g := (mkF m 16 #[.val (.int p1), .val (.int p2), .val (.int (100 : Int32))] [(.long (((200 : Int64) * (p1.toInt64)) + (p2.toInt64)))])) rfl (hb hby d1_16) _ ?_
      show Steps p.tables e below (s₁.setTop (mkF m 19 #[.val (.int p1), .val (.int p2), .val (.int (100 : Int32))] [(.long (2 : Int64)), (.long (((200 : Int64) * (p1.toInt64)) + (p2.toInt64)))])) _
      refine XS.iloadN X0.here hx rfl (hb hby d1_19) rfl ?_
      show Steps p.tables e below (s₁.setTop (mkF m 20 #[.val (.int p1), .val (.int p2), .val (.int (100 : Int32))] [(.int p2), (.long (2 : Int64)), (.long (((200 : Int64) * (p1.toInt64)) + (p2.toInt64)))])) _
      refine XS.i2l X0.here hx rfl (hb hby d1_20) rfl ?_
      show Steps p.tables e below (s₁.setTop (mkF m 21 #[.val (.int p1), .val (.int p2), .val (.int (100 : Int32))] [(.long (p2.toInt64)), (.long (2 : Int64)), (.long (((200 : Int64) * (p1.toInt64)) + (p2.toInt64)))])) _
      refine XS.lmul X0.here hx rfl (hb hby d1_21) rfl ?_
      show Steps p.tables e below (s₁.setTop (mkF m 22 #[.val (.int p1), .val (.int p2), .val (.int (100 : Int32))] [(.long ((2 : Int64) * (p2.toInt64))), (.long (((200 : Int64) * (p1.toInt64)) + (p2.toInt64)))])) _
      refine XS.ldiv X0.here hx rfl (hb hby d1_22) rfl (own_dnz c4) ?_
      show Steps p.tables e below (s₁.setTop (mkF m 23 #[.val (.int p1), .val (.int p2), .val (.int (100 : Int32))] [(.long ((((200 : Int64) * (p1.toInt64)) + (p2.toInt64)) / ((2 : Int64) * (p2.toInt64))))])) _
      refine XS.l2i X0.here hx rfl (hb hby d1_23) rfl ?_
      show Steps p.tables e below (s₁.setTop (mkF m 24 #[.val (.int p1), .val (.int p2), .val (.int (100 : Int32))] [(.int (((((200 : Int64) * (p1.toInt64)) + (p2.toInt64)) / ((2 : Int64) * (p2.toInt64))).toInt32))])) _
      refine XS.istoreN X0.here hx rfl (hb hby d1_24) rfl (l' := #[.val (.int p1), .val (.int p2), .val (.int (((((200 : Int64) * (p1.toInt64)) + (p2.toInt64)) / ((2 : Int64) * (p2.toInt64))).toInt32))]) rfl ?_
      show Steps p.tables e below (s₁.setTop (mkF m 25 #[.val (.int p1), .val (.int p2), .val (.int (((((200 : Int64) * (p1.toInt64)) + (p2.toInt64)) / ((2 : Int64) * (p2.toInt64))).toInt32))] [])) _
      refine XS.iloadN X0.here hx rfl (hb hby d1_25) rfl ?_
      show Steps p.tables e below (s₁.setTop (mkF m 26 #[.val (.int p1), .val (.int p2), .val (.int (((((200 : Int64) * (p1.toInt64)) + (p2.toInt64)) / ((2 : Int64) * (p2.toInt64))).toInt32))] [(.int p1)])) _
      refine XS.iloadN X0.here hx rfl (hb hby d1_26) rfl ?_
      exact kt
    by_cases c27 : p1 < p2
    · skip
      obtain ⟨_, _, ⟨T6, L6, k6, n6⟩, -, X6, ⟨Lc6, hQ6, l6, y6, z6⟩, st6⟩ := Jvm.LawKit.callS X0 hx (y := (⟨"java/lang/Math", "min", "(II)I"⟩ : MethodName)) hown (mvT hZ (hw _ (List.mem_of_getElem? (i := 8) rfl))) (mvT hZ (hw _ (List.mem_of_getElem? (i := 9) rfl))) (mvT hZ (hw _ (List.mem_of_getElem? (i := 10) rfl))) (mvT hZ (hw _ (List.mem_of_getElem? (i := 11) rfl))) (by decide) (backOf (W := 0) (rm2 l Z a0 hw [] (((((200 : Int64) * (p1.toInt64)) + (p2.toInt64)) / ((2 : Int64) * (p2.toInt64))).toInt32) (99 : Int32) h0 n0 Z0) hZ (hw _ (List.mem_of_getElem? (i := 11) rfl)) (hw _ (List.mem_of_getElem? (i := 10) rfl)) (by decide) (by decide)) (g := (mkF m 33 #[.val (.int p1), .val (.int p2), .val (.int (((((200 : Int64) * (p1.toInt64)) + (p2.toInt64)) / ((2 : Int64) * (p2.toInt64))).toInt32))] [(.int (99 : Int32)), (.int (((((200 : Int64) * (p1.toInt64)) + (p2.toInt64)) / ((2 : Int64) * (p2.toInt64))).toInt32))])) rfl (by rw [hml]; rfl) (argsL := [(.int (((((200 : Int64) * (p1.toInt64)) + (p2.toInt64)) / ((2 : Int64) * (p2.toInt64))).toInt32)), (.int (99 : Int32))]) (rest := []) (lenOf pd__II_I rfl) rfl (by show 2 * 0 + _ ≤ _; exact Nat.le_of_eq rfl) (hb hby d1_33) (fun _ _ => ⟨rfl, e0, (by decide : 0 + 0 ≤ _), (by decide : 0 + 0 ≤ _)⟩)
      dsimp only [Pt.U, Pt.locs, Pt.cells, Pt.slots] at X6 l6 y6 z6 st6 hQ6
      subst l6 y6 z6
      obtain ⟨rfl, N6q, EQ6⟩ := hQ6
      have N6 := Fr.app N0 N6q
      have Z6 : n0 ≤ T6.heap.size := by rw [EQ6]; exact Z0
      have K6 := own_keq EQ6 (Keep.refl h0 [])
      have ev : own_pc p1 p2 = own_min (((((200 : Int64) * (p1.toInt64)) + (p2.toInt64)) / ((2 : Int64) * (p2.toInt64))).toInt32) (99 : Int32) := (if_pos c27).trans (by rw [eq])
      have pre7 : ∀ t, Steps p.tables e below (T6.setTop (mkF m 38 #[.val (.int p1), .val (.int p2), .val (.int (own_min (((((200 : Int64) * (p1.toInt64)) + (p2.toInt64)) / ((2 : Int64) * (p2.toInt64))).toInt32) (99 : Int32)))] [(.int (own_min (((((200 : Int64) * (p1.toInt64)) + (p2.toInt64)) / ((2 : Int64) * (p2.toInt64))).toInt32) (99 : Int32)))])) t → Steps p.tables e below (s₁.setTop (mkF m 27 #[.val (.int p1), .val (.int p2), .val (.int (((((200 : Int64) * (p1.toInt64)) + (p2.toInt64)) / ((2 : Int64) * (p2.toInt64))).toInt32))] [(.int p2), (.int p1)])) t := by
        intro t kt
        show Steps p.tables e below (s₁.setTop (mkF m 27 #[.val (.int p1), .val (.int p2), .val (.int (((((200 : Int64) * (p1.toInt64)) + (p2.toInt64)) / ((2 : Int64) * (p2.toInt64))).toInt32))] [(.int p2), (.int p1)])) _
        refine XS.icmpNo X0.here hx rfl (hb hby d1_27) rfl (tlt (c27 : p1 < p2)).2.1 ?_
        show Steps p.tables e below (s₁.setTop (mkF m 30 #[.val (.int p1), .val (.int p2), .val (.int (((((200 : Int64) * (p1.toInt64)) + (p2.toInt64)) / ((2 : Int64) * (p2.toInt64))).toInt32))] [])) _
        refine XS.iloadN X0.here hx rfl (hb hby d1_30) rfl ?_
        show Steps p.tables e below (s₁.setTop (mkF m 31 #[.val (.int p1), .val (.int p2), .val (.int (((((200 : Int64) * (p1.toInt64)) + (p2.toInt64)) / ((2 : Int64) * (p2.toInt64))).toInt32))] [(.int (((((200 : Int64) * (p1.toInt64)) + (p2.toInt64)) / ((2 : Int64) * (p2.toInt64))).toInt32))])) _
        refine XS.bipush X0.here hx rfl (hb hby d1_31) ?_
        show Steps p.tables e below (s₁.setTop (mkF m 33 #[.val (.int p1), .val (.int p2), .val (.int (((((200 : Int64) * (p1.toInt64)) + (p2.toInt64)) / ((2 : Int64) * (p2.toInt64))).toInt32))] [(.int (99 : Int32)), (.int (((((200 : Int64) * (p1.toInt64)) + (p2.toInt64)) / ((2 : Int64) * (p2.toInt64))).toInt32))])) _
        refine st6 _ ?_
        show Steps p.tables e below (T6.setTop (mkF m 36 #[.val (.int p1), .val (.int p2), .val (.int (((((200 : Int64) * (p1.toInt64)) + (p2.toInt64)) / ((2 : Int64) * (p2.toInt64))).toInt32))] [(.int (own_min (((((200 : Int64) * (p1.toInt64)) + (p2.toInt64)) / ((2 : Int64) * (p2.toInt64))).toInt32) (99 : Int32)))])) _
        refine XS.istoreN X6.here hx rfl (hb hby d1_36) rfl (l' := #[.val (.int p1), .val (.int p2), .val (.int (own_min (((((200 : Int64) * (p1.toInt64)) + (p2.toInt64)) / ((2 : Int64) * (p2.toInt64))).toInt32) (99 : Int32)))]) rfl ?_
        show Steps p.tables e below (T6.setTop (mkF m 37 #[.val (.int p1), .val (.int p2), .val (.int (own_min (((((200 : Int64) * (p1.toInt64)) + (p2.toInt64)) / ((2 : Int64) * (p2.toInt64))).toInt32) (99 : Int32)))] [])) _
        refine XS.iloadN X6.here hx rfl (hb hby d1_37) rfl ?_
        exact kt
      obtain ⟨fs, hr, hrun, hended, hW, hsame⟩ := X6.leave (v := some (.int (own_min (((((200 : Int64) * (p1.toInt64)) + (p2.toInt64)) / ((2 : Int64) * (p2.toInt64))).toInt32) (99 : Int32)))) (fun h => by rw [Bd.returns] at h; cases h)
      refine ⟨_, _, (pre0 _ (pre4 _ (pre5 _ (pre7 _ ?_)))), hrun, hended, _, _, rfl, ?_, ⟨_, rfl⟩, hW, hsame.mono (by decide) (by decide)⟩
      · show Steps p.tables e below (T6.setTop (mkF m 38 #[.val (.int p1), .val (.int p2), .val (.int (own_min (((((200 : Int64) * (p1.toInt64)) + (p2.toInt64)) / ((2 : Int64) * (p2.toInt64))).toInt32) (99 : Int32)))] [(.int (own_min (((((200 : Int64) * (p1.toInt64)) + (p2.toInt64)) / ((2 : Int64) * (p2.toInt64))).toInt32) (99 : Int32)))])) _
        exact retOut X6 hx (t := .int) Bd.returns rfl (Or.inl ⟨rfl, Or.inl rfl, _, rfl⟩) (hb hby d1_38) hr
      · show Q1 Z p1 p2 h0 n0 _ T6.heap _
        exact ⟨by rw [ev], N6, EQ6⟩
    · skip
      have ev : own_pc p1 p2 = (((((200 : Int64) * (p1.toInt64)) + (p2.toInt64)) / ((2 : Int64) * (p2.toInt64))).toInt32) := (if_neg c27).trans (by rw [eq])
      have pre8 : ∀ t, Steps p.tables e below (s₁.setTop (mkF m 38 #[.val (.int p1), .val (.int p2), .val (.int (((((200 : Int64) * (p1.toInt64)) + (p2.toInt64)) / ((2 : Int64) * (p2.toInt64))).toInt32))] [(.int (((((200 : Int64) * (p1.toInt64)) + (p2.toInt64)) / ((2 : Int64) * (p2.toInt64))).toInt32))])) t → Steps p.tables e below (s₁.setTop (mkF m 27 #[.val (.int p1), .val (.int p2), .val (.int (((((200 : Int64) * (p1.toInt64)) + (p2.toInt64)) / ((2 : Int64) * (p2.toInt64))).toInt32))] [(.int p2), (.int p1)])) t := by
        intro t kt
        show Steps p.tables e below (s₁.setTop (mkF m 27 #[.val (.int p1), .val (.int p2), .val (.int (((((200 : Int64) * (p1.toInt64)) + (p2.toInt64)) / ((2 : Int64) * (p2.toInt64))).toInt32))] [(.int p2), (.int p1)])) _
        refine XS.icmpYes X0.here hx rfl (pc0 := 27) (pc' := 37) rfl (hb hby d1_27) rfl (flt (c27 : ¬ (p1 < p2))).2.1 (by decide) (by decide) ?_
        show Steps p.tables e below (s₁.setTop (mkF m 37 #[.val (.int p1), .val (.int p2), .val (.int (((((200 : Int64) * (p1.toInt64)) + (p2.toInt64)) / ((2 : Int64) * (p2.toInt64))).toInt32))] [])) _
        refine XS.iloadN X0.here hx rfl (hb hby d1_37) rfl ?_
        exact kt
      obtain ⟨fs, hr, hrun, hended, hW, hsame⟩ := X0.leave (v := some (.int (((((200 : Int64) * (p1.toInt64)) + (p2.toInt64)) / ((2 : Int64) * (p2.toInt64))).toInt32))) (fun h => by rw [Bd.returns] at h; cases h)
      refine ⟨_, _, (pre0 _ (pre4 _ (pre5 _ (pre8 _ ?_)))), hrun, hended, _, _, rfl, ?_, ⟨_, rfl⟩, hW, hsame.mono (by decide) (by decide)⟩
      · show Steps p.tables e below (s₁.setTop (mkF m 38 #[.val (.int p1), .val (.int p2), .val (.int (((((200 : Int64) * (p1.toInt64)) + (p2.toInt64)) / ((2 : Int64) * (p2.toInt64))).toInt32))] [(.int (((((200 : Int64) * (p1.toInt64)) + (p2.toInt64)) / ((2 : Int64) * (p2.toInt64))).toInt32))])) _
        exact retOut X0 hx (t := .int) Bd.returns rfl (Or.inl ⟨rfl, Or.inl rfl, _, rfl⟩) (hb hby d1_38) hr
      · show Q1 Z p1 p2 h0 n0 _ s₁.heap _
        rw [e0]
        exact ⟨by rw [ev], N0, rfl⟩
  · skip
    have eq : own_q p1 p2 = (100 : Int32) := if_neg c4
    have pre9 : ∀ t, Steps p.tables e below (s₁.setTop (mkF m 27 #[.val (.int p1), .val (.int p2), .val (.int (100 : Int32))] [(.int p2), (.int p1)])) t → Steps p.tables e below (s₁.setTop (mkF m 4 #[.val (.int p1), .val (.int p2), .val (.int (100 : Int32))] [(.int p2)])) t := by
      intro t kt
      show Steps p.tables e below (s₁.setTop (mkF m 4 #[.val (.int p1), .val (.int p2), .val (.int (100 : Int32))] [(.int p2)])) _
      refine XS.ifYes X0.here hx rfl (pc0 := 4) (pc' := 25) rfl (hb hby d1_4) rfl ((if0 _ _).trans (flt (c4 : ¬ ((0 : Int32) < p2))).2.2.2) (by decide) (by decide) ?_
      show Steps p.tables e below (s₁.setTop (mkF m 25 #[.val (.int p1), .val (.int p2), .val (.int (100 : Int32))] [])) _
      refine XS.iloadN X0.here hx rfl (hb hby d1_25) rfl ?_
      show Steps p.tables e below (s₁.setTop (mkF m 26 #[.val (.int p1), .val (.int p2), .val (.int (100 : Int32))] [(.int p1)])) _
      refine XS.iloadN X0.here hx rfl (hb hby d1_26) rfl ?_
      exact kt
    by_cases c27 : p1 < p2
    · skip
      obtain ⟨_, _, ⟨T10, L10, k10, n10⟩, -, X10, ⟨Lc10, hQ10, l10, y10, z10⟩, st10⟩ := Jvm.LawKit.callS X0 hx (y := (⟨"java/lang/Math", "min", "(II)I"⟩ : MethodName)) hown (mvT hZ (hw _ (List.mem_of_getElem? (i := 8) rfl))) (mvT hZ (hw _ (List.mem_of_getElem? (i := 9) rfl))) (mvT hZ (hw _ (List.mem_of_getElem? (i := 10) rfl))) (mvT hZ (hw _ (List.mem_of_getElem? (i := 11) rfl))) (by decide) (backOf (W := 0) (rm2 l Z a0 hw [] (100 : Int32) (99 : Int32) h0 n0 Z0) hZ (hw _ (List.mem_of_getElem? (i := 11) rfl)) (hw _ (List.mem_of_getElem? (i := 10) rfl)) (by decide) (by decide)) (g := (mkF m 33 #[.val (.int p1), .val (.int p2), .val (.int (100 : Int32))] [(.int (99 : Int32)), (.int (100 : Int32))])) rfl (by rw [hml]; rfl) (argsL := [(.int (100 : Int32)), (.int (99 : Int32))]) (rest := []) (lenOf pd__II_I rfl) rfl (by show 2 * 0 + _ ≤ _; exact Nat.le_of_eq rfl) (hb hby d1_33) (fun _ _ => ⟨rfl, e0, (by decide : 0 + 0 ≤ _), (by decide : 0 + 0 ≤ _)⟩)
      dsimp only [Pt.U, Pt.locs, Pt.cells, Pt.slots] at X10 l10 y10 z10 st10 hQ10
      subst l10 y10 z10
      obtain ⟨rfl, N10q, EQ10⟩ := hQ10
      have N10 := Fr.app N0 N10q
      have Z10 : n0 ≤ T10.heap.size := by rw [EQ10]; exact Z0
      have K10 := own_keq EQ10 (Keep.refl h0 [])
      have ev : own_pc p1 p2 = own_min (100 : Int32) (99 : Int32) := (if_pos c27).trans (by rw [eq])
      have pre11 : ∀ t, Steps p.tables e below (T10.setTop (mkF m 38 #[.val (.int p1), .val (.int p2), .val (.int (own_min (100 : Int32) (99 : Int32)))] [(.int (own_min (100 : Int32) (99 : Int32)))])) t → Steps p.tables e below (s₁.setTop (mkF m 27 #[.val (.int p1), .val (.int p2), .val (.int (100 : Int32))] [(.int p2), (.int p1)])) t := by
        intro t kt
        show Steps p.tables e below (s₁.setTop (mkF m 27 #[.val (.int p1), .val (.int p2), .val (.int (100 : Int32))] [(.int p2), (.int p1)])) _
        refine XS.icmpNo X0.here hx rfl (hb hby d1_27) rfl (tlt (c27 : p1 < p2)).2.1 ?_
        show Steps p.tables e below (s₁.setTop (mkF m 30 #[.val (.int p1), .val (.int p2), .val (.int (100 : Int32))] [])) _
        refine XS.iloadN X0.here hx rfl (hb hby d1_30) rfl ?_
        show Steps p.tables e below (s₁.setTop (mkF m 31 #[.val (.int p1), .val (.int p2), .val (.int (100 : Int32))] [(.int (100 : Int32))])) _
        refine XS.bipush X0.here hx rfl (hb hby d1_31) ?_
        show Steps p.tables e below (s₁.setTop (mkF m 33 #[.val (.int p1), .val (.int p2), .val (.int (100 : Int32))] [(.int (99 : Int32)), (.int (100 : Int32))])) _
        refine st10 _ ?_
        show Steps p.tables e below (T10.setTop (mkF m 36 #[.val (.int p1), .val (.int p2), .val (.int (100 : Int32))] [(.int (own_min (100 : Int32) (99 : Int32)))])) _
        refine XS.istoreN X10.here hx rfl (hb hby d1_36) rfl (l' := #[.val (.int p1), .val (.int p2), .val (.int (own_min (100 : Int32) (99 : Int32)))]) rfl ?_
        show Steps p.tables e below (T10.setTop (mkF m 37 #[.val (.int p1), .val (.int p2), .val (.int (own_min (100 : Int32) (99 : Int32)))] [])) _
        refine XS.iloadN X10.here hx rfl (hb hby d1_37) rfl ?_
        exact kt
      obtain ⟨fs, hr, hrun, hended, hW, hsame⟩ := X10.leave (v := some (.int (own_min (100 : Int32) (99 : Int32)))) (fun h => by rw [Bd.returns] at h; cases h)
      refine ⟨_, _, (pre0 _ (pre4 _ (pre9 _ (pre11 _ ?_)))), hrun, hended, _, _, rfl, ?_, ⟨_, rfl⟩, hW, hsame.mono (by decide) (by decide)⟩
      · show Steps p.tables e below (T10.setTop (mkF m 38 #[.val (.int p1), .val (.int p2), .val (.int (own_min (100 : Int32) (99 : Int32)))] [(.int (own_min (100 : Int32) (99 : Int32)))])) _
        exact retOut X10 hx (t := .int) Bd.returns rfl (Or.inl ⟨rfl, Or.inl rfl, _, rfl⟩) (hb hby d1_38) hr
      · show Q1 Z p1 p2 h0 n0 _ T10.heap _
        exact ⟨by rw [ev], N10, EQ10⟩
    · skip
      have ev : own_pc p1 p2 = (100 : Int32) := (if_neg c27).trans (by rw [eq])
      have pre12 : ∀ t, Steps p.tables e below (s₁.setTop (mkF m 38 #[.val (.int p1), .val (.int p2), .val (.int (100 : Int32))] [(.int (100 : Int32))])) t → Steps p.tables e below (s₁.setTop (mkF m 27 #[.val (.int p1), .val (.int p2), .val (.int (100 : Int32))] [(.int p2), (.int p1)])) t := by
        intro t kt
        show Steps p.tables e below (s₁.setTop (mkF m 27 #[.val (.int p1), .val (.int p2), .val (.int (100 : Int32))] [(.int p2), (.int p1)])) _
        refine XS.icmpYes X0.here hx rfl (pc0 := 27) (pc' := 37) rfl (hb hby d1_27) rfl (flt (c27 : ¬ (p1 < p2))).2.1 (by decide) (by decide) ?_
        show Steps p.tables e below (s₁.setTop (mkF m 37 #[.val (.int p1), .val (.int p2), .val (.int (100 : Int32))] [])) _
        refine XS.iloadN X0.here hx rfl (hb hby d1_37) rfl ?_
        exact kt
      obtain ⟨fs, hr, hrun, hended, hW, hsame⟩ := X0.leave (v := some (.int (100 : Int32))) (fun h => by rw [Bd.returns] at h; cases h)
      refine ⟨_, _, (pre0 _ (pre4 _ (pre9 _ (pre12 _ ?_)))), hrun, hended, _, _, rfl, ?_, ⟨_, rfl⟩, hW, hsame.mono (by decide) (by decide)⟩
      · show Steps p.tables e below (s₁.setTop (mkF m 38 #[.val (.int p1), .val (.int p2), .val (.int (100 : Int32))] [(.int (100 : Int32))])) _
        exact retOut X0 hx (t := .int) Bd.returns rfl (Or.inl ⟨rfl, Or.inl rfl, _, rfl⟩) (hb hby d1_38) hr
      · show Q1 Z p1 p2 h0 n0 _ s₁.heap _
        rw [e0]
        exact ⟨by rw [ev], N0, rfl⟩
theorem ef_0 (m : MethodId) (x0 : Int32) (x1 : Int32) (x2 : Int32) : entryFrame m #[(.int x0), (.int x1), (.int x2)] maxLocals = mkF m 0 #[.val (.int x0), .val (.int x1), .val (.int x2), .unset, .unset, .unset, .unset, .unset, .unset, .unset] [] := by (first | (simp [entryFrame, mkF, argsToLocals, Value.category, maxLocals]; done) | rfl)
def Q0 (Z : State) (p1 : Int32) (p2 : Int32) (p3 : Int32) (h0 : Heap) (n0 : Nat) (v : Option Value) (h : Heap) (L : List Loc) : Prop := v = some (.int (1 : Int32)) ∧ Fr n0 L
theorem pn_com_example_formal_model_bench_formalmodelbench_engine_CoverageTablePercentPinLaw : plainName "com/example/formal_model_bench/formalmodelbench/engine/CoverageTablePercentPinLaw" = true := by first | (simp [plainName, overriddenIn]; done) | decide +kernel
set_option maxRecDepth 65536 in
set_option maxHeartbeats 40000000 in
theorem rm0 (l : Launch) (Z : State) (a0 : Array Value) (hw : ∀ d ∈ tables_1, d.before a0 Z = true) (ws : List Jvm.Cond) (p1 : Int32) (p2 : Int32) (p3 : Int32) (h0 : Heap) (n0 : Nat) (Z0 : n0 ≤ h0.size)  :
    MetFree l x (head1 (Jvm.Cond.code x code maxLocals ret :: ws) room_1) (fun a U => a = #[(.int p1), (.int p2), (.int p3)] ∧ Z.Warmed39 U.vm ∧ U.heap = h0) (fun _ _ _ _ _ => True) (fun _ U o U' => ∃ v L, o = .returned v ∧ Q0 Z p1 p2 p3 h0 n0 v U'.heap L ∧ FrameEnd U o U' L room_1.cells room_1.slots) := by
  refine MetFree.of_bodySF (plainFor_of_name pn_com_example_formal_model_bench_formalmodelbench_engine_CoverageTablePercentPinLaw) hisR ?_
  intro p e s m args below meth c s₁ Bd hml0 hP hK
  obtain ⟨rfl, hZ, hh⟩ := hP
  have hx := Bd.exec
  have hby := Bd.bytes
  have hml : c.maxLocals = 10 := hml0
  have hown : s.vm.findClass "com/example/formal_model_bench/formalmodelbench/engine/CoverageTablePercentPinLaw" = some m.cls := findClass_of_methodNamed Bd.named
  have hnm := (name_of_methodNamed Bd.named Bd.method).1
  have X0 : Stand p l e room_1 s m #[(.int p1), (.int p2), (.int p3)] below meth c s₁ [] 0 0 := Stand.of_body Bd
  have e0 : s₁.heap = h0 := by rw [← hh, Bd.state]; rfl
  have N0 := Fr.nil n0
  have pre0 : ∀ t, Steps p.tables e below (s₁.setTop (mkF m 0 #[.val (.int p1), .val (.int p2), .val (.int p3), .unset, .unset, .unset, .unset, .unset, .unset, .unset] [])) t → Steps p.tables e below (s₁.setTop (entryFrame m #[(.int p1), (.int p2), (.int p3)] maxLocals)) t := fun t k => castTop (ef_0 m p1 p2 p3) k
  have pre13 : ∀ t, Steps p.tables e below (s₁.setTop (mkF m 8 #[.val (.int p1), .val (.int p2), .val (.int p3), .val (.int (p1 &&& (2147483647 : Int32))), .unset, .unset, .unset, .unset, .unset, .unset] [(.int (p3 &&& (2 : Int32)))])) t → Steps p.tables e below (s₁.setTop (mkF m 0 #[.val (.int p1), .val (.int p2), .val (.int p3), .unset, .unset, .unset, .unset, .unset, .unset, .unset] [])) t := by
    intro t kt
    show Steps p.tables e below (s₁.setTop (mkF m 0 #[.val (.int p1), .val (.int p2), .val (.int p3), .unset, .unset, .unset, .unset, .unset, .unset, .unset] [])) _
    refine XS.iloadN X0.here hx rfl (hb hby at_0) rfl ?_
    show Steps p.tables e below (s₁.setTop (mkF m 1 #[.val (.int p1), .val (.int p2), .val (.int p3), .unset, .unset, .unset, .unset, .unset, .unset, .unset] [(.int p1)])) _
    refine X0.ldcInt hx hown (mvT hZ (hw _ (List.mem_of_getElem? (i := 0) rfl))) (g := (mkF m 1 #[.val (.int p1), .val (.int p2), .val (.int p3), .unset, .unset, .unset, .unset, .unset, .unset, .unset] [(.int p1)])) rfl (hb hby at_1) _ ?_
    show Steps p.tables e below (s₁.setTop (mkF m 3 #[.val (.int p1), .val (.int p2), .val (.int p3), .unset, .unset, .unset, .unset, .unset, .unset, .unset] [(.int (2147483647 : Int32)), (.int p1)])) _
    refine XS.iand X0.here hx rfl (hb hby at_3) rfl ?_
    show Steps p.tables e below (s₁.setTop (mkF m 4 #[.val (.int p1), .val (.int p2), .val (.int p3), .unset, .unset, .unset, .unset, .unset, .unset, .unset] [(.int (p1 &&& (2147483647 : Int32)))])) _
    refine XS.istoreN X0.here hx rfl (hb hby at_4) rfl (l' := #[.val (.int p1), .val (.int p2), .val (.int p3), .val (.int (p1 &&& (2147483647 : Int32))), .unset, .unset, .unset, .unset, .unset, .unset]) rfl ?_
    show Steps p.tables e below (s₁.setTop (mkF m 5 #[.val (.int p1), .val (.int p2), .val (.int p3), .val (.int (p1 &&& (2147483647 : Int32))), .unset, .unset, .unset, .unset, .unset, .unset] [])) _
    refine XS.iloadN X0.here hx rfl (hb hby at_5) rfl ?_
    show Steps p.tables e below (s₁.setTop (mkF m 6 #[.val (.int p1), .val (.int p2), .val (.int p3), .val (.int (p1 &&& (2147483647 : Int32))), .unset, .unset, .unset, .unset, .unset, .unset] [(.int p3)])) _
    refine XS.iconst X0.here hx rfl (hb hby at_6) ?_
    show Steps p.tables e below (s₁.setTop (mkF m 7 #[.val (.int p1), .val (.int p2), .val (.int p3), .val (.int (p1 &&& (2147483647 : Int32))), .unset, .unset, .unset, .unset, .unset, .unset] [(.int (2 : Int32)), (.int p3)])) _
    refine XS.iand X0.here hx rfl (hb hby at_7) rfl ?_
    exact kt
  have j14 : ∃ tt : Int32, (0 ≤ tt.toInt) ∧ ∀ t, Steps p.tables e below (s₁.setTop (mkF m 17 #[.val (.int p1), .val (.int p2), .val (.int p3), .val (.int tt), .unset, .unset, .unset, .unset, .unset, .unset] [])) t → Steps p.tables e below (s₁.setTop (mkF m 8 #[.val (.int p1), .val (.int p2), .val (.int p3), .val (.int (p1 &&& (2147483647 : Int32))), .unset, .unset, .unset, .unset, .unset, .unset] [(.int (p3 &&& (2 : Int32)))])) t := by
    by_cases c8 : (p3 &&& (2 : Int32)) = (0 : Int32)
    · skip
      refine ⟨(p1 &&& (2147483647 : Int32)), own_mask p1, fun t kt => ?_⟩
      show Steps p.tables e below (s₁.setTop (mkF m 8 #[.val (.int p1), .val (.int p2), .val (.int p3), .val (.int (p1 &&& (2147483647 : Int32))), .unset, .unset, .unset, .unset, .unset, .unset] [(.int (p3 &&& (2 : Int32)))])) _
      refine XS.ifYes X0.here hx rfl (pc0 := 8) (pc' := 17) rfl (hb hby at_8) rfl ((if0 _ _).trans (teq (c8 : (p3 &&& (2 : Int32)) = (0 : Int32))).1) (by decide) (by decide) ?_
      exact kt
    · skip
      refine ⟨((p1 &&& (2147483647 : Int32)) &&& (255 : Int32)), own_mask8 _, fun t kt => ?_⟩
      show Steps p.tables e below (s₁.setTop (mkF m 8 #[.val (.int p1), .val (.int p2), .val (.int p3), .val (.int (p1 &&& (2147483647 : Int32))), .unset, .unset, .unset, .unset, .unset, .unset] [(.int (p3 &&& (2 : Int32)))])) _
      refine XS.ifNo X0.here hx rfl (hb hby at_8) rfl ((if0 _ _).trans (feq (c8 : ¬ ((p3 &&& (2 : Int32)) = (0 : Int32)))).1) ?_
      show Steps p.tables e below (s₁.setTop (mkF m 11 #[.val (.int p1), .val (.int p2), .val (.int p3), .val (.int (p1 &&& (2147483647 : Int32))), .unset, .unset, .unset, .unset, .unset, .unset] [])) _
      refine XS.iloadN X0.here hx rfl (hb hby at_11) rfl ?_
      show Steps p.tables e below (s₁.setTop (mkF m 12 #[.val (.int p1), .val (.int p2), .val (.int p3), .val (.int (p1 &&& (2147483647 : Int32))), .unset, .unset, .unset, .unset, .unset, .unset] [(.int (p1 &&& (2147483647 : Int32)))])) _
      refine XS.sipush X0.here hx rfl (hb hby at_12) ?_
      show Steps p.tables e below (s₁.setTop (mkF m 15 #[.val (.int p1), .val (.int p2), .val (.int p3), .val (.int (p1 &&& (2147483647 : Int32))), .unset, .unset, .unset, .unset, .unset, .unset] [(.int (255 : Int32)), (.int (p1 &&& (2147483647 : Int32)))])) _
      refine XS.iand X0.here hx rfl (hb hby at_15) rfl ?_
      show Steps p.tables e below (s₁.setTop (mkF m 16 #[.val (.int p1), .val (.int p2), .val (.int p3), .val (.int (p1 &&& (2147483647 : Int32))), .unset, .unset, .unset, .unset, .unset, .unset] [(.int ((p1 &&& (2147483647 : Int32)) &&& (255 : Int32)))])) _
      refine XS.istoreN X0.here hx rfl (hb hby at_16) rfl (l' := #[.val (.int p1), .val (.int p2), .val (.int p3), .val (.int ((p1 &&& (2147483647 : Int32)) &&& (255 : Int32))), .unset, .unset, .unset, .unset, .unset, .unset]) rfl ?_
      exact kt
  obtain ⟨tt, htt, pre14⟩ := j14
  have pre15 : ∀ t, Steps p.tables e below (s₁.setTop (mkF m 20 #[.val (.int p1), .val (.int p2), .val (.int p3), .val (.int tt), .unset, .unset, .unset, .unset, .unset, .unset] [(.int (p3 &&& (1 : Int32)))])) t → Steps p.tables e below (s₁.setTop (mkF m 17 #[.val (.int p1), .val (.int p2), .val (.int p3), .val (.int tt), .unset, .unset, .unset, .unset, .unset, .unset] [])) t := by
    intro t kt
    show Steps p.tables e below (s₁.setTop (mkF m 17 #[.val (.int p1), .val (.int p2), .val (.int p3), .val (.int tt), .unset, .unset, .unset, .unset, .unset, .unset] [])) _
    refine XS.iloadN X0.here hx rfl (hb hby at_17) rfl ?_
    show Steps p.tables e below (s₁.setTop (mkF m 18 #[.val (.int p1), .val (.int p2), .val (.int p3), .val (.int tt), .unset, .unset, .unset, .unset, .unset, .unset] [(.int p3)])) _
    refine XS.iconst X0.here hx rfl (hb hby at_18) ?_
    show Steps p.tables e below (s₁.setTop (mkF m 19 #[.val (.int p1), .val (.int p2), .val (.int p3), .val (.int tt), .unset, .unset, .unset, .unset, .unset, .unset] [(.int (1 : Int32)), (.int p3)])) _
    refine XS.iand X0.here hx rfl (hb hby at_19) rfl ?_
    exact kt
  have j16 : ∃ cv : Int32, (0 ≤ cv.toInt ∧ cv.toInt ≤ tt.toInt) ∧ ∀ t, Steps p.tables e below (s₁.setTop (mkF m 43 #[.val (.int p1), .val (.int p2), .val (.int p3), .val (.int tt), .val (.int cv), .unset, .unset, .unset, .unset, .unset] [])) t → Steps p.tables e below (s₁.setTop (mkF m 20 #[.val (.int p1), .val (.int p2), .val (.int p3), .val (.int tt), .unset, .unset, .unset, .unset, .unset, .unset] [(.int (p3 &&& (1 : Int32)))])) t := by
    by_cases c20 : (p3 &&& (1 : Int32)) = (0 : Int32)
    · skip
      refine ⟨((((p2.toInt64) &&& (2147483647 : Int64)) - ((p2.toInt64) &&& (2147483647 : Int64)) / ((tt.toInt64) + (1 : Int64)) * ((tt.toInt64) + (1 : Int64))).toInt32), own_cov p2 htt, fun t kt => ?_⟩
      show Steps p.tables e below (s₁.setTop (mkF m 20 #[.val (.int p1), .val (.int p2), .val (.int p3), .val (.int tt), .unset, .unset, .unset, .unset, .unset, .unset] [(.int (p3 &&& (1 : Int32)))])) _
      refine XS.ifYes X0.here hx rfl (pc0 := 20) (pc' := 29) rfl (hb hby at_20) rfl ((if0 _ _).trans (teq (c20 : (p3 &&& (1 : Int32)) = (0 : Int32))).1) (by decide) (by decide) ?_
      show Steps p.tables e below (s₁.setTop (mkF m 29 #[.val (.int p1), .val (.int p2), .val (.int p3), .val (.int tt), .unset, .unset, .unset, .unset, .unset, .unset] [])) _
      refine XS.iloadN X0.here hx rfl (hb hby at_29) rfl ?_
      show Steps p.tables e below (s₁.setTop (mkF m 30 #[.val (.int p1), .val (.int p2), .val (.int p3), .val (.int tt), .unset, .unset, .unset, .unset, .unset, .unset] [(.int p2)])) _
      refine XS.i2l X0.here hx rfl (hb hby at_30) rfl ?_
      show Steps p.tables e below (s₁.setTop (mkF m 31 #[.val (.int p1), .val (.int p2), .val (.int p3), .val (.int tt), .unset, .unset, .unset, .unset, .unset, .unset] [(.long (p2.toInt64))])) _
      refine X0.ldc2Long hx hown (mvT hZ (hw _ (List.mem_of_getElem? (i := 1) rfl))) (g := (mkF m 31 #[.val (.int p1), .val (.int p2), .val (.int p3), .val (.int tt), .unset, .unset, .unset, .unset, .unset, .unset] [(.long (p2.toInt64))])) rfl (hb hby at_31) _ ?_
      show Steps p.tables e below (s₁.setTop (mkF m 34 #[.val (.int p1), .val (.int p2), .val (.int p3), .val (.int tt), .unset, .unset, .unset, .unset, .unset, .unset] [(.long (2147483647 : Int64)), (.long (p2.toInt64))])) _
      refine XS.land X0.here hx rfl (hb hby at_34) rfl ?_
      show Steps p.tables e below (s₁.setTop (mkF m 35 #[.val (.int p1), .val (.int p2), .val (.int p3), .val (.int tt), .unset, .unset, .unset, .unset, .unset, .unset] [(.long ((p2.toInt64) &&& (2147483647 : Int64)))])) _
      refine XS.iloadN X0.here hx rfl (hb hby at_35) rfl ?_
      show Steps p.tables e below (s₁.setTop (mkF m 36 #[.val (.int p1), .val (.int p2), .val (.int p3), .val (.int tt), .unset, .unset, .unset, .unset, .unset, .unset] [(.int tt), (.long ((p2.toInt64) &&& (2147483647 : Int64)))])) _
      refine XS.i2l X0.here hx rfl (hb hby at_36) rfl ?_
      show Steps p.tables e below (s₁.setTop (mkF m 37 #[.val (.int p1), .val (.int p2), .val (.int p3), .val (.int tt), .unset, .unset, .unset, .unset, .unset, .unset] [(.long (tt.toInt64)), (.long ((p2.toInt64) &&& (2147483647 : Int64)))])) _
      refine XS.lconst X0.here hx rfl (hb hby at_37) ?_
      show Steps p.tables e below (s₁.setTop (mkF m 38 #[.val (.int p1), .val (.int p2), .val (.int p3), .val (.int tt), .unset, .unset, .unset, .unset, .unset, .unset] [(.long (1 : Int64)), (.long (tt.toInt64)), (.long ((p2.toInt64) &&& (2147483647 : Int64)))])) _
      refine XS.ladd X0.here hx rfl (hb hby at_38) rfl ?_
      show Steps p.tables e below (s₁.setTop (mkF m 39 #[.val (.int p1), .val (.int p2), .val (.int p3), .val (.int tt), .unset, .unset, .unset, .unset, .unset, .unset] [(.long ((tt.toInt64) + (1 : Int64))), (.long ((p2.toInt64) &&& (2147483647 : Int64)))])) _
      refine XS.lrem X0.here hx rfl (hb hby at_39) rfl (own_nz htt) ?_
      show Steps p.tables e below (s₁.setTop (mkF m 40 #[.val (.int p1), .val (.int p2), .val (.int p3), .val (.int tt), .unset, .unset, .unset, .unset, .unset, .unset] [(.long (((p2.toInt64) &&& (2147483647 : Int64)) - ((p2.toInt64) &&& (2147483647 : Int64)) / ((tt.toInt64) + (1 : Int64)) * ((tt.toInt64) + (1 : Int64))))])) _
      refine XS.l2i X0.here hx rfl (hb hby at_40) rfl ?_
      show Steps p.tables e below (s₁.setTop (mkF m 41 #[.val (.int p1), .val (.int p2), .val (.int p3), .val (.int tt), .unset, .unset, .unset, .unset, .unset, .unset] [(.int ((((p2.toInt64) &&& (2147483647 : Int64)) - ((p2.toInt64) &&& (2147483647 : Int64)) / ((tt.toInt64) + (1 : Int64)) * ((tt.toInt64) + (1 : Int64))).toInt32))])) _
      refine XS.istore X0.here hx rfl (hb hby at_41) rfl (l' := #[.val (.int p1), .val (.int p2), .val (.int p3), .val (.int tt), .val (.int ((((p2.toInt64) &&& (2147483647 : Int64)) - ((p2.toInt64) &&& (2147483647 : Int64)) / ((tt.toInt64) + (1 : Int64)) * ((tt.toInt64) + (1 : Int64))).toInt32)), .unset, .unset, .unset, .unset, .unset]) rfl ?_
      exact kt
    · skip
      refine ⟨tt, ⟨htt, Int.le_refl _⟩, fun t kt => ?_⟩
      show Steps p.tables e below (s₁.setTop (mkF m 20 #[.val (.int p1), .val (.int p2), .val (.int p3), .val (.int tt), .unset, .unset, .unset, .unset, .unset, .unset] [(.int (p3 &&& (1 : Int32)))])) _
      refine XS.ifNo X0.here hx rfl (hb hby at_20) rfl ((if0 _ _).trans (feq (c20 : ¬ ((p3 &&& (1 : Int32)) = (0 : Int32)))).1) ?_
      show Steps p.tables e below (s₁.setTop (mkF m 23 #[.val (.int p1), .val (.int p2), .val (.int p3), .val (.int tt), .unset, .unset, .unset, .unset, .unset, .unset] [])) _
      refine XS.iloadN X0.here hx rfl (hb hby at_23) rfl ?_
      show Steps p.tables e below (s₁.setTop (mkF m 24 #[.val (.int p1), .val (.int p2), .val (.int p3), .val (.int tt), .unset, .unset, .unset, .unset, .unset, .unset] [(.int tt)])) _
      refine XS.istore X0.here hx rfl (hb hby at_24) rfl (l' := #[.val (.int p1), .val (.int p2), .val (.int p3), .val (.int tt), .val (.int tt), .unset, .unset, .unset, .unset, .unset]) rfl ?_
      show Steps p.tables e below (s₁.setTop (mkF m 26 #[.val (.int p1), .val (.int p2), .val (.int p3), .val (.int tt), .val (.int tt), .unset, .unset, .unset, .unset, .unset] [])) _
      refine XS.goto X0.here hx rfl (pc0 := 26) (pc' := 43) rfl (hb hby at_26) (by decide) (by decide) ?_
      exact kt
  obtain ⟨cv, ⟨hcv, hct⟩, pre16⟩ := j16
  obtain ⟨_, _, ⟨T17, L17, k17, n17⟩, -, X17, ⟨Lc17, hQ17, l17, y17, z17⟩, st17⟩ := Jvm.LawKit.callS X0 hx (y := (⟨"com/example/formal_model_bench/formalmodelbench/engine/CoverageTable", "percent", "(II)I"⟩ : MethodName)) hown (mvT hZ (hw _ (List.mem_of_getElem? (i := 2) rfl))) (mvT hZ (hw _ (List.mem_of_getElem? (i := 3) rfl))) (mvT hZ (hw _ (List.mem_of_getElem? (i := 4) rfl))) (mvT hZ (hw _ (List.mem_of_getElem? (i := 5) rfl))) (by decide) (backOf (W := 0) (rm1 l Z a0 hw [] cv tt h0 n0 Z0) hZ (hw _ (List.mem_of_getElem? (i := 5) rfl)) (hw _ (List.mem_of_getElem? (i := 4) rfl)) (by decide) (by decide)) (g := (mkF m 46 #[.val (.int p1), .val (.int p2), .val (.int p3), .val (.int tt), .val (.int cv), .unset, .unset, .unset, .unset, .unset] [(.int tt), (.int cv)])) rfl (by rw [hml]; rfl) (argsL := [(.int cv), (.int tt)]) (rest := []) (lenOf pd__II_I rfl) rfl (by show 2 * 0 + _ ≤ _; exact Nat.le_of_eq rfl) (hb hby at_46) (fun _ _ => ⟨rfl, e0, (by decide : 0 + 0 ≤ _), (by decide : 0 + 0 ≤ _)⟩)
  dsimp only [Pt.U, Pt.locs, Pt.cells, Pt.slots] at X17 l17 y17 z17 st17 hQ17
  subst l17 y17 z17
  obtain ⟨rfl, N17q, EQ17⟩ := hQ17
  have N17 := Fr.app N0 N17q
  have Z17 : n0 ≤ T17.heap.size := by rw [EQ17]; exact Z0
  have K17 := own_keq EQ17 (Keep.refl h0 [])
  have pre18 : ∀ t, Steps p.tables e below (T17.setTop (mkF m 54 #[.val (.int p1), .val (.int p2), .val (.int p3), .val (.int tt), .val (.int cv), .val (.int (own_pc cv tt)), .unset, .unset, .unset, .unset] [(.int tt), (.int cv)])) t → Steps p.tables e below (s₁.setTop (mkF m 43 #[.val (.int p1), .val (.int p2), .val (.int p3), .val (.int tt), .val (.int cv), .unset, .unset, .unset, .unset, .unset] [])) t := by
    intro t kt
    show Steps p.tables e below (s₁.setTop (mkF m 43 #[.val (.int p1), .val (.int p2), .val (.int p3), .val (.int tt), .val (.int cv), .unset, .unset, .unset, .unset, .unset] [])) _
    refine XS.iload X0.here hx rfl (hb hby at_43) rfl ?_
    show Steps p.tables e below (s₁.setTop (mkF m 45 #[.val (.int p1), .val (.int p2), .val (.int p3), .val (.int tt), .val (.int cv), .unset, .unset, .unset, .unset, .unset] [(.int cv)])) _
    refine XS.iloadN X0.here hx rfl (hb hby at_45) rfl ?_
    show Steps p.tables e below (s₁.setTop (mkF m 46 #[.val (.int p1), .val (.int p2), .val (.int p3), .val (.int tt), .val (.int cv), .unset, .unset, .unset, .unset, .unset] [(.int tt), (.int cv)])) _
    refine st17 _ ?_
    show Steps p.tables e below (T17.setTop (mkF m 49 #[.val (.int p1), .val (.int p2), .val (.int p3), .val (.int tt), .val (.int cv), .unset, .unset, .unset, .unset, .unset] [(.int (own_pc cv tt))])) _
    refine XS.istore X17.here hx rfl (hb hby at_49) rfl (l' := #[.val (.int p1), .val (.int p2), .val (.int p3), .val (.int tt), .val (.int cv), .val (.int (own_pc cv tt)), .unset, .unset, .unset, .unset]) rfl ?_
    show Steps p.tables e below (T17.setTop (mkF m 51 #[.val (.int p1), .val (.int p2), .val (.int p3), .val (.int tt), .val (.int cv), .val (.int (own_pc cv tt)), .unset, .unset, .unset, .unset] [])) _
    refine XS.iload X17.here hx rfl (hb hby at_51) rfl ?_
    show Steps p.tables e below (T17.setTop (mkF m 53 #[.val (.int p1), .val (.int p2), .val (.int p3), .val (.int tt), .val (.int cv), .val (.int (own_pc cv tt)), .unset, .unset, .unset, .unset] [(.int cv)])) _
    refine XS.iloadN X17.here hx rfl (hb hby at_53) rfl ?_
    exact kt
  by_cases c54 : cv = tt
  · skip
    have pre19 : ∀ t, Steps p.tables e below (T17.setTop (mkF m 69 #[.val (.int p1), .val (.int p2), .val (.int p3), .val (.int tt), .val (.int cv), .val (.int (own_pc cv tt)), .unset, .unset, .unset, .unset] [(.int (1 : Int32))])) t → Steps p.tables e below (T17.setTop (mkF m 54 #[.val (.int p1), .val (.int p2), .val (.int p3), .val (.int tt), .val (.int cv), .val (.int (own_pc cv tt)), .unset, .unset, .unset, .unset] [(.int tt), (.int cv)])) t := by
      intro t kt
      show Steps p.tables e below (T17.setTop (mkF m 54 #[.val (.int p1), .val (.int p2), .val (.int p3), .val (.int tt), .val (.int cv), .val (.int (own_pc cv tt)), .unset, .unset, .unset, .unset] [(.int tt), (.int cv)])) _
      refine XS.icmpNo X17.here hx rfl (hb hby at_54) rfl (teq (c54 : cv = tt)).2 ?_
      show Steps p.tables e below (T17.setTop (mkF m 57 #[.val (.int p1), .val (.int p2), .val (.int p3), .val (.int tt), .val (.int cv), .val (.int (own_pc cv tt)), .unset, .unset, .unset, .unset] [])) _
      refine XS.iload X17.here hx rfl (hb hby at_57) rfl ?_
      show Steps p.tables e below (T17.setTop (mkF m 59 #[.val (.int p1), .val (.int p2), .val (.int p3), .val (.int tt), .val (.int cv), .val (.int (own_pc cv tt)), .unset, .unset, .unset, .unset] [(.int (own_pc cv tt))])) _
      refine XS.bipush X17.here hx rfl (hb hby at_59) ?_
      show Steps p.tables e below (T17.setTop (mkF m 61 #[.val (.int p1), .val (.int p2), .val (.int p3), .val (.int tt), .val (.int cv), .val (.int (own_pc cv tt)), .unset, .unset, .unset, .unset] [(.int (100 : Int32)), (.int (own_pc cv tt))])) _
      refine XS.icmpNo X17.here hx rfl (hb hby at_61) rfl (teq (own_A hcv c54 : (own_pc cv tt) = (100 : Int32))).2 ?_
      show Steps p.tables e below (T17.setTop (mkF m 64 #[.val (.int p1), .val (.int p2), .val (.int p3), .val (.int tt), .val (.int cv), .val (.int (own_pc cv tt)), .unset, .unset, .unset, .unset] [])) _
      refine XS.iconst X17.here hx rfl (hb hby at_64) ?_
      show Steps p.tables e below (T17.setTop (mkF m 65 #[.val (.int p1), .val (.int p2), .val (.int p3), .val (.int tt), .val (.int cv), .val (.int (own_pc cv tt)), .unset, .unset, .unset, .unset] [(.int (1 : Int32))])) _
      refine XS.goto X17.here hx rfl (pc0 := 65) (pc' := 69) rfl (hb hby at_65) (by decide) (by decide) ?_
      exact kt
    obtain ⟨fs, hr, hrun, hended, hW, hsame⟩ := X17.leave (v := some (.int (1 : Int32))) (fun h => by rw [Bd.returns] at h; cases h)
    refine ⟨_, _, (pre0 _ (pre13 _ (pre14 _ (pre15 _ (pre16 _ (pre18 _ (pre19 _ ?_))))))), hrun, hended, _, _, rfl, ?_, ⟨_, rfl⟩, hW, hsame.mono (by decide) (by decide)⟩
    · show Steps p.tables e below (T17.setTop (mkF m 69 #[.val (.int p1), .val (.int p2), .val (.int p3), .val (.int tt), .val (.int cv), .val (.int (own_pc cv tt)), .unset, .unset, .unset, .unset] [(.int (1 : Int32))])) _
      exact retN X17 hx (t := .boolean) Bd.returns (by simp) (hb hby at_69) hr
    · show Q0 Z p1 p2 p3 h0 n0 _ T17.heap _
      exact ⟨rfl, N17⟩
  · skip
    have pre20 : ∀ t, Steps p.tables e below (T17.setTop (mkF m 101 #[.val (.int p1), .val (.int p2), .val (.int p3), .val (.int tt), .val (.int cv), .val (.int (own_pc cv tt)), .val (.long ((200 : Int64) * (cv.toInt64))), .second, .val (.long (tt.toInt64)), .second] [(.int (99 : Int32)), (.int (own_pc cv tt))])) t → Steps p.tables e below (T17.setTop (mkF m 54 #[.val (.int p1), .val (.int p2), .val (.int p3), .val (.int tt), .val (.int cv), .val (.int (own_pc cv tt)), .unset, .unset, .unset, .unset] [(.int tt), (.int cv)])) t := by
      intro t kt
      show Steps p.tables e below (T17.setTop (mkF m 54 #[.val (.int p1), .val (.int p2), .val (.int p3), .val (.int tt), .val (.int cv), .val (.int (own_pc cv tt)), .unset, .unset, .unset, .unset] [(.int tt), (.int cv)])) _
      refine XS.icmpYes X17.here hx rfl (pc0 := 54) (pc' := 70) rfl (hb hby at_54) rfl (feq (c54 : ¬ (cv = tt))).2 (by decide) (by decide) ?_
      show Steps p.tables e below (T17.setTop (mkF m 70 #[.val (.int p1), .val (.int p2), .val (.int p3), .val (.int tt), .val (.int cv), .val (.int (own_pc cv tt)), .unset, .unset, .unset, .unset] [])) _
      refine XS.iload X17.here hx rfl (hb hby at_70) rfl ?_
      show Steps p.tables e below (T17.setTop (mkF m 72 #[.val (.int p1), .val (.int p2), .val (.int p3), .val (.int tt), .val (.int cv), .val (.int (own_pc cv tt)), .unset, .unset, .unset, .unset] [(.int (own_pc cv tt))])) _
      refine XS.ifNo X17.here hx rfl (hb hby at_72) rfl ((if0 _ _).trans (flt ((own_B hcv hct c54).1 : ¬ ((own_pc cv tt) < (0 : Int32)))).1) ?_
      show Steps p.tables e below (T17.setTop (mkF m 75 #[.val (.int p1), .val (.int p2), .val (.int p3), .val (.int tt), .val (.int cv), .val (.int (own_pc cv tt)), .unset, .unset, .unset, .unset] [])) _
      refine XS.iload X17.here hx rfl (hb hby at_75) rfl ?_
      show Steps p.tables e below (T17.setTop (mkF m 77 #[.val (.int p1), .val (.int p2), .val (.int p3), .val (.int tt), .val (.int cv), .val (.int (own_pc cv tt)), .unset, .unset, .unset, .unset] [(.int (own_pc cv tt))])) _
      refine XS.bipush X17.here hx rfl (hb hby at_77) ?_
      show Steps p.tables e below (T17.setTop (mkF m 79 #[.val (.int p1), .val (.int p2), .val (.int p3), .val (.int tt), .val (.int cv), .val (.int (own_pc cv tt)), .unset, .unset, .unset, .unset] [(.int (99 : Int32)), (.int (own_pc cv tt))])) _
      refine XS.icmpYes X17.here hx rfl (pc0 := 79) (pc' := 84) rfl (hb hby at_79) rfl (flt ((own_B hcv hct c54).2 : ¬ ((99 : Int32) < (own_pc cv tt)))).2.2.2 (by decide) (by decide) ?_
      show Steps p.tables e below (T17.setTop (mkF m 84 #[.val (.int p1), .val (.int p2), .val (.int p3), .val (.int tt), .val (.int cv), .val (.int (own_pc cv tt)), .unset, .unset, .unset, .unset] [])) _
      refine X17.ldc2Long hx hown (mvT hZ (hw _ (List.mem_of_getElem? (i := 12) rfl))) (g := (mkF m 84 #[.val (.int p1), .val (.int p2), .val (.int p3), .val (.int tt), .val (.int cv), .val (.int (own_pc cv tt)), .unset, .unset, .unset, .unset] [])) rfl (hb hby at_84) _ ?_
      show Steps p.tables e below (T17.setTop (mkF m 87 #[.val (.int p1), .val (.int p2), .val (.int p3), .val (.int tt), .val (.int cv), .val (.int (own_pc cv tt)), .unset, .unset, .unset, .unset] [(.long (200 : Int64))])) _
      refine XS.iload X17.here hx rfl (hb hby at_87) rfl ?_
      show Steps p.tables e below (T17.setTop (mkF m 89 #[.val (.int p1), .val (.int p2), .val (.int p3), .val (.int tt), .val (.int cv), .val (.int (own_pc cv tt)), .unset, .unset, .unset, .unset] [(.int cv), (.long (200 : Int64))])) _
      refine XS.i2l X17.here hx rfl (hb hby at_89) rfl ?_
      show Steps p.tables e below (T17.setTop (mkF m 90 #[.val (.int p1), .val (.int p2), .val (.int p3), .val (.int tt), .val (.int cv), .val (.int (own_pc cv tt)), .unset, .unset, .unset, .unset] [(.long (cv.toInt64)), (.long (200 : Int64))])) _
      refine XS.lmul X17.here hx rfl (hb hby at_90) rfl ?_
      show Steps p.tables e below (T17.setTop (mkF m 91 #[.val (.int p1), .val (.int p2), .val (.int p3), .val (.int tt), .val (.int cv), .val (.int (own_pc cv tt)), .unset, .unset, .unset, .unset] [(.long ((200 : Int64) * (cv.toInt64)))])) _
      refine XS.lstore X17.here hx rfl (hb hby at_91) rfl (l' := #[.val (.int p1), .val (.int p2), .val (.int p3), .val (.int tt), .val (.int cv), .val (.int (own_pc cv tt)), .val (.long ((200 : Int64) * (cv.toInt64))), .second, .unset, .unset]) rfl ?_
      show Steps p.tables e below (T17.setTop (mkF m 93 #[.val (.int p1), .val (.int p2), .val (.int p3), .val (.int tt), .val (.int cv), .val (.int (own_pc cv tt)), .val (.long ((200 : Int64) * (cv.toInt64))), .second, .unset, .unset] [])) _
      refine XS.iloadN X17.here hx rfl (hb hby at_93) rfl ?_
      show Steps p.tables e below (T17.setTop (mkF m 94 #[.val (.int p1), .val (.int p2), .val (.int p3), .val (.int tt), .val (.int cv), .val (.int (own_pc cv tt)), .val (.long ((200 : Int64) * (cv.toInt64))), .second, .unset, .unset] [(.int tt)])) _
      refine XS.i2l X17.here hx rfl (hb hby at_94) rfl ?_
      show Steps p.tables e below (T17.setTop (mkF m 95 #[.val (.int p1), .val (.int p2), .val (.int p3), .val (.int tt), .val (.int cv), .val (.int (own_pc cv tt)), .val (.long ((200 : Int64) * (cv.toInt64))), .second, .unset, .unset] [(.long (tt.toInt64))])) _
      refine XS.lstore X17.here hx rfl (hb hby at_95) rfl (l' := #[.val (.int p1), .val (.int p2), .val (.int p3), .val (.int tt), .val (.int cv), .val (.int (own_pc cv tt)), .val (.long ((200 : Int64) * (cv.toInt64))), .second, .val (.long (tt.toInt64)), .second]) rfl ?_
      show Steps p.tables e below (T17.setTop (mkF m 97 #[.val (.int p1), .val (.int p2), .val (.int p3), .val (.int tt), .val (.int cv), .val (.int (own_pc cv tt)), .val (.long ((200 : Int64) * (cv.toInt64))), .second, .val (.long (tt.toInt64)), .second] [])) _
      refine XS.iload X17.here hx rfl (hb hby at_97) rfl ?_
      show Steps p.tables e below (T17.setTop (mkF m 99 #[.val (.int p1), .val (.int p2), .val (.int p3), .val (.int tt), .val (.int cv), .val (.int (own_pc cv tt)), .val (.long ((200 : Int64) * (cv.toInt64))), .second, .val (.long (tt.toInt64)), .second] [(.int (own_pc cv tt))])) _
      refine XS.bipush X17.here hx rfl (hb hby at_99) ?_
      exact kt
    by_cases c101 : (own_pc cv tt) = (99 : Int32)
    · skip
      have pre21 : ∀ t, Steps p.tables e below (T17.setTop (mkF m 121 #[.val (.int p1), .val (.int p2), .val (.int p3), .val (.int tt), .val (.int cv), .val (.int (own_pc cv tt)), .val (.long ((200 : Int64) * (cv.toInt64))), .second, .val (.long (tt.toInt64)), .second] [(.int (1 : Int32))])) t → Steps p.tables e below (T17.setTop (mkF m 101 #[.val (.int p1), .val (.int p2), .val (.int p3), .val (.int tt), .val (.int cv), .val (.int (own_pc cv tt)), .val (.long ((200 : Int64) * (cv.toInt64))), .second, .val (.long (tt.toInt64)), .second] [(.int (99 : Int32)), (.int (own_pc cv tt))])) t := by
        intro t kt
        show Steps p.tables e below (T17.setTop (mkF m 101 #[.val (.int p1), .val (.int p2), .val (.int p3), .val (.int tt), .val (.int cv), .val (.int (own_pc cv tt)), .val (.long ((200 : Int64) * (cv.toInt64))), .second, .val (.long (tt.toInt64)), .second] [(.int (99 : Int32)), (.int (own_pc cv tt))])) _
        refine XS.icmpNo X17.here hx rfl (hb hby at_101) rfl (teq (c101 : (own_pc cv tt) = (99 : Int32))).2 ?_
        show Steps p.tables e below (T17.setTop (mkF m 104 #[.val (.int p1), .val (.int p2), .val (.int p3), .val (.int tt), .val (.int cv), .val (.int (own_pc cv tt)), .val (.long ((200 : Int64) * (cv.toInt64))), .second, .val (.long (tt.toInt64)), .second] [])) _
        refine XS.lload X17.here hx rfl (hb hby at_104) rfl ?_
        show Steps p.tables e below (T17.setTop (mkF m 106 #[.val (.int p1), .val (.int p2), .val (.int p3), .val (.int tt), .val (.int cv), .val (.int (own_pc cv tt)), .val (.long ((200 : Int64) * (cv.toInt64))), .second, .val (.long (tt.toInt64)), .second] [(.long ((200 : Int64) * (cv.toInt64)))])) _
        refine X17.ldc2Long hx hown (mvT hZ (hw _ (List.mem_of_getElem? (i := 14) rfl))) (g := (mkF m 106 #[.val (.int p1), .val (.int p2), .val (.int p3), .val (.int tt), .val (.int cv), .val (.int (own_pc cv tt)), .val (.long ((200 : Int64) * (cv.toInt64))), .second, .val (.long (tt.toInt64)), .second] [(.long ((200 : Int64) * (cv.toInt64)))])) rfl (hb hby at_106) _ ?_
        show Steps p.tables e below (T17.setTop (mkF m 109 #[.val (.int p1), .val (.int p2), .val (.int p3), .val (.int tt), .val (.int cv), .val (.int (own_pc cv tt)), .val (.long ((200 : Int64) * (cv.toInt64))), .second, .val (.long (tt.toInt64)), .second] [(.long (197 : Int64)), (.long ((200 : Int64) * (cv.toInt64)))])) _
        refine XS.lload X17.here hx rfl (hb hby at_109) rfl ?_
        show Steps p.tables e below (T17.setTop (mkF m 111 #[.val (.int p1), .val (.int p2), .val (.int p3), .val (.int tt), .val (.int cv), .val (.int (own_pc cv tt)), .val (.long ((200 : Int64) * (cv.toInt64))), .second, .val (.long (tt.toInt64)), .second] [(.long (tt.toInt64)), (.long (197 : Int64)), (.long ((200 : Int64) * (cv.toInt64)))])) _
        refine XS.lmul X17.here hx rfl (hb hby at_111) rfl ?_
        show Steps p.tables e below (T17.setTop (mkF m 112 #[.val (.int p1), .val (.int p2), .val (.int p3), .val (.int tt), .val (.int cv), .val (.int (own_pc cv tt)), .val (.long ((200 : Int64) * (cv.toInt64))), .second, .val (.long (tt.toInt64)), .second] [(.long ((197 : Int64) * (tt.toInt64))), (.long ((200 : Int64) * (cv.toInt64)))])) _
        refine XS.lcmp X17.here hx rfl (hb hby at_112) rfl ?_
        show Steps p.tables e below (T17.setTop (mkF m 113 #[.val (.int p1), .val (.int p2), .val (.int p3), .val (.int tt), .val (.int cv), .val (.int (own_pc cv tt)), .val (.long ((200 : Int64) * (cv.toInt64))), .second, .val (.long (tt.toInt64)), .second] [(.int (lcmpW ((200 : Int64) * (cv.toInt64)) ((197 : Int64) * (tt.toInt64))))])) _
        refine XS.ifNo X17.here hx rfl (hb hby at_113) rfl ((if0 _ _).trans (flt (own_C hcv hct c54 c101 : ¬ ((lcmpW ((200 : Int64) * (cv.toInt64)) ((197 : Int64) * (tt.toInt64))) < (0 : Int32)))).1) ?_
        show Steps p.tables e below (T17.setTop (mkF m 116 #[.val (.int p1), .val (.int p2), .val (.int p3), .val (.int tt), .val (.int cv), .val (.int (own_pc cv tt)), .val (.long ((200 : Int64) * (cv.toInt64))), .second, .val (.long (tt.toInt64)), .second] [])) _
        refine XS.iconst X17.here hx rfl (hb hby at_116) ?_
        show Steps p.tables e below (T17.setTop (mkF m 117 #[.val (.int p1), .val (.int p2), .val (.int p3), .val (.int tt), .val (.int cv), .val (.int (own_pc cv tt)), .val (.long ((200 : Int64) * (cv.toInt64))), .second, .val (.long (tt.toInt64)), .second] [(.int (1 : Int32))])) _
        refine XS.goto X17.here hx rfl (pc0 := 117) (pc' := 121) rfl (hb hby at_117) (by decide) (by decide) ?_
        exact kt
      obtain ⟨fs, hr, hrun, hended, hW, hsame⟩ := X17.leave (v := some (.int (1 : Int32))) (fun h => by rw [Bd.returns] at h; cases h)
      refine ⟨_, _, (pre0 _ (pre13 _ (pre14 _ (pre15 _ (pre16 _ (pre18 _ (pre20 _ (pre21 _ ?_)))))))), hrun, hended, _, _, rfl, ?_, ⟨_, rfl⟩, hW, hsame.mono (by decide) (by decide)⟩
      · show Steps p.tables e below (T17.setTop (mkF m 121 #[.val (.int p1), .val (.int p2), .val (.int p3), .val (.int tt), .val (.int cv), .val (.int (own_pc cv tt)), .val (.long ((200 : Int64) * (cv.toInt64))), .second, .val (.long (tt.toInt64)), .second] [(.int (1 : Int32))])) _
        exact retN X17 hx (t := .boolean) Bd.returns (by simp) (hb hby at_121) hr
      · show Q0 Z p1 p2 p3 h0 n0 _ T17.heap _
        exact ⟨rfl, N17⟩
    · skip
      have pre22 : ∀ t, Steps p.tables e below (T17.setTop (mkF m 163 #[.val (.int p1), .val (.int p2), .val (.int p3), .val (.int tt), .val (.int cv), .val (.int (own_pc cv tt)), .val (.long ((200 : Int64) * (cv.toInt64))), .second, .val (.long (tt.toInt64)), .second] [(.int (1 : Int32))])) t → Steps p.tables e below (T17.setTop (mkF m 101 #[.val (.int p1), .val (.int p2), .val (.int p3), .val (.int tt), .val (.int cv), .val (.int (own_pc cv tt)), .val (.long ((200 : Int64) * (cv.toInt64))), .second, .val (.long (tt.toInt64)), .second] [(.int (99 : Int32)), (.int (own_pc cv tt))])) t := by
        intro t kt
        show Steps p.tables e below (T17.setTop (mkF m 101 #[.val (.int p1), .val (.int p2), .val (.int p3), .val (.int tt), .val (.int cv), .val (.int (own_pc cv tt)), .val (.long ((200 : Int64) * (cv.toInt64))), .second, .val (.long (tt.toInt64)), .second] [(.int (99 : Int32)), (.int (own_pc cv tt))])) _
        refine XS.icmpYes X17.here hx rfl (pc0 := 101) (pc' := 122) rfl (hb hby at_101) rfl (feq (c101 : ¬ ((own_pc cv tt) = (99 : Int32)))).2 (by decide) (by decide) ?_
        show Steps p.tables e below (T17.setTop (mkF m 122 #[.val (.int p1), .val (.int p2), .val (.int p3), .val (.int tt), .val (.int cv), .val (.int (own_pc cv tt)), .val (.long ((200 : Int64) * (cv.toInt64))), .second, .val (.long (tt.toInt64)), .second] [])) _
        refine X17.ldc2Long hx hown (mvT hZ (hw _ (List.mem_of_getElem? (i := 13) rfl))) (g := (mkF m 122 #[.val (.int p1), .val (.int p2), .val (.int p3), .val (.int tt), .val (.int cv), .val (.int (own_pc cv tt)), .val (.long ((200 : Int64) * (cv.toInt64))), .second, .val (.long (tt.toInt64)), .second] [])) rfl (hb hby at_122) _ ?_
        show Steps p.tables e below (T17.setTop (mkF m 125 #[.val (.int p1), .val (.int p2), .val (.int p3), .val (.int tt), .val (.int cv), .val (.int (own_pc cv tt)), .val (.long ((200 : Int64) * (cv.toInt64))), .second, .val (.long (tt.toInt64)), .second] [(.long (2 : Int64))])) _
        refine XS.iload X17.here hx rfl (hb hby at_125) rfl ?_
        show Steps p.tables e below (T17.setTop (mkF m 127 #[.val (.int p1), .val (.int p2), .val (.int p3), .val (.int tt), .val (.int cv), .val (.int (own_pc cv tt)), .val (.long ((200 : Int64) * (cv.toInt64))), .second, .val (.long (tt.toInt64)), .second] [(.int (own_pc cv tt)), (.long (2 : Int64))])) _
        refine XS.i2l X17.here hx rfl (hb hby at_127) rfl ?_
        show Steps p.tables e below (T17.setTop (mkF m 128 #[.val (.int p1), .val (.int p2), .val (.int p3), .val (.int tt), .val (.int cv), .val (.int (own_pc cv tt)), .val (.long ((200 : Int64) * (cv.toInt64))), .second, .val (.long (tt.toInt64)), .second] [(.long ((own_pc cv tt).toInt64)), (.long (2 : Int64))])) _
        refine XS.lmul X17.here hx rfl (hb hby at_128) rfl ?_
        show Steps p.tables e below (T17.setTop (mkF m 129 #[.val (.int p1), .val (.int p2), .val (.int p3), .val (.int tt), .val (.int cv), .val (.int (own_pc cv tt)), .val (.long ((200 : Int64) * (cv.toInt64))), .second, .val (.long (tt.toInt64)), .second] [(.long ((2 : Int64) * ((own_pc cv tt).toInt64)))])) _
        refine XS.lconst X17.here hx rfl (hb hby at_129) ?_
        show Steps p.tables e below (T17.setTop (mkF m 130 #[.val (.int p1), .val (.int p2), .val (.int p3), .val (.int tt), .val (.int cv), .val (.int (own_pc cv tt)), .val (.long ((200 : Int64) * (cv.toInt64))), .second, .val (.long (tt.toInt64)), .second] [(.long (1 : Int64)), (.long ((2 : Int64) * ((own_pc cv tt).toInt64)))])) _
        refine XS.lsub X17.here hx rfl (hb hby at_130) rfl ?_
        show Steps p.tables e below (T17.setTop (mkF m 131 #[.val (.int p1), .val (.int p2), .val (.int p3), .val (.int tt), .val (.int cv), .val (.int (own_pc cv tt)), .val (.long ((200 : Int64) * (cv.toInt64))), .second, .val (.long (tt.toInt64)), .second] [(.long (((2 : Int64) * ((own_pc cv tt).toInt64)) - (1 : Int64)))])) _
        refine XS.lload X17.here hx rfl (hb hby at_131) rfl ?_
        show Steps p.tables e below (T17.setTop (mkF m 133 #[.val (.int p1), .val (.int p2), .val (.int p3), .val (.int tt), .val (.int cv), .val (.int (own_pc cv tt)), .val (.long ((200 : Int64) * (cv.toInt64))), .second, .val (.long (tt.toInt64)), .second] [(.long (tt.toInt64)), (.long (((2 : Int64) * ((own_pc cv tt).toInt64)) - (1 : Int64)))])) _
        refine XS.lmul X17.here hx rfl (hb hby at_133) rfl ?_
        show Steps p.tables e below (T17.setTop (mkF m 134 #[.val (.int p1), .val (.int p2), .val (.int p3), .val (.int tt), .val (.int cv), .val (.int (own_pc cv tt)), .val (.long ((200 : Int64) * (cv.toInt64))), .second, .val (.long (tt.toInt64)), .second] [(.long ((((2 : Int64) * ((own_pc cv tt).toInt64)) - (1 : Int64)) * (tt.toInt64)))])) _
        refine XS.lload X17.here hx rfl (hb hby at_134) rfl ?_
        show Steps p.tables e below (T17.setTop (mkF m 136 #[.val (.int p1), .val (.int p2), .val (.int p3), .val (.int tt), .val (.int cv), .val (.int (own_pc cv tt)), .val (.long ((200 : Int64) * (cv.toInt64))), .second, .val (.long (tt.toInt64)), .second] [(.long ((200 : Int64) * (cv.toInt64))), (.long ((((2 : Int64) * ((own_pc cv tt).toInt64)) - (1 : Int64)) * (tt.toInt64)))])) _
        refine XS.lcmp X17.here hx rfl (hb hby at_136) rfl ?_
        show Steps p.tables e below (T17.setTop (mkF m 137 #[.val (.int p1), .val (.int p2), .val (.int p3), .val (.int tt), .val (.int cv), .val (.int (own_pc cv tt)), .val (.long ((200 : Int64) * (cv.toInt64))), .second, .val (.long (tt.toInt64)), .second] [(.int (lcmpW ((((2 : Int64) * ((own_pc cv tt).toInt64)) - (1 : Int64)) * (tt.toInt64)) ((200 : Int64) * (cv.toInt64))))])) _
        refine XS.ifNo X17.here hx rfl (hb hby at_137) rfl ((if0 _ _).trans (flt ((own_D hcv hct c54 c101).1 : ¬ ((0 : Int32) < (lcmpW ((((2 : Int64) * ((own_pc cv tt).toInt64)) - (1 : Int64)) * (tt.toInt64)) ((200 : Int64) * (cv.toInt64)))))).2.2.1) ?_
        show Steps p.tables e below (T17.setTop (mkF m 140 #[.val (.int p1), .val (.int p2), .val (.int p3), .val (.int tt), .val (.int cv), .val (.int (own_pc cv tt)), .val (.long ((200 : Int64) * (cv.toInt64))), .second, .val (.long (tt.toInt64)), .second] [])) _
        refine XS.lload X17.here hx rfl (hb hby at_140) rfl ?_
        show Steps p.tables e below (T17.setTop (mkF m 142 #[.val (.int p1), .val (.int p2), .val (.int p3), .val (.int tt), .val (.int cv), .val (.int (own_pc cv tt)), .val (.long ((200 : Int64) * (cv.toInt64))), .second, .val (.long (tt.toInt64)), .second] [(.long ((200 : Int64) * (cv.toInt64)))])) _
        refine X17.ldc2Long hx hown (mvT hZ (hw _ (List.mem_of_getElem? (i := 13) rfl))) (g := (mkF m 142 #[.val (.int p1), .val (.int p2), .val (.int p3), .val (.int tt), .val (.int cv), .val (.int (own_pc cv tt)), .val (.long ((200 : Int64) * (cv.toInt64))), .second, .val (.long (tt.toInt64)), .second] [(.long ((200 : Int64) * (cv.toInt64)))])) rfl (hb hby at_142) _ ?_
        show Steps p.tables e below (T17.setTop (mkF m 145 #[.val (.int p1), .val (.int p2), .val (.int p3), .val (.int tt), .val (.int cv), .val (.int (own_pc cv tt)), .val (.long ((200 : Int64) * (cv.toInt64))), .second, .val (.long (tt.toInt64)), .second] [(.long (2 : Int64)), (.long ((200 : Int64) * (cv.toInt64)))])) _
        refine XS.iload X17.here hx rfl (hb hby at_145) rfl ?_
        show Steps p.tables e below (T17.setTop (mkF m 147 #[.val (.int p1), .val (.int p2), .val (.int p3), .val (.int tt), .val (.int cv), .val (.int (own_pc cv tt)), .val (.long ((200 : Int64) * (cv.toInt64))), .second, .val (.long (tt.toInt64)), .second] [(.int (own_pc cv tt)), (.long (2 : Int64)), (.long ((200 : Int64) * (cv.toInt64)))])) _
        refine XS.i2l X17.here hx rfl (hb hby at_147) rfl ?_
        show Steps p.tables e below (T17.setTop (mkF m 148 #[.val (.int p1), .val (.int p2), .val (.int p3), .val (.int tt), .val (.int cv), .val (.int (own_pc cv tt)), .val (.long ((200 : Int64) * (cv.toInt64))), .second, .val (.long (tt.toInt64)), .second] [(.long ((own_pc cv tt).toInt64)), (.long (2 : Int64)), (.long ((200 : Int64) * (cv.toInt64)))])) _
        refine XS.lmul X17.here hx rfl (hb hby at_148) rfl ?_
        show Steps p.tables e below (T17.setTop (mkF m 149 #[.val (.int p1), .val (.int p2), .val (.int p3), .val (.int tt), .val (.int cv), .val (.int (own_pc cv tt)), .val (.long ((200 : Int64) * (cv.toInt64))), .second, .val (.long (tt.toInt64)), .second] [(.long ((2 : Int64) * ((own_pc cv tt).toInt64))), (.long ((200 : Int64) * (cv.toInt64)))])) _
        refine XS.lconst X17.here hx rfl (hb hby at_149) ?_
        show Steps p.tables e below (T17.setTop (mkF m 150 #[.val (.int p1), .val (.int p2), .val (.int p3), .val (.int tt), .val (.int cv), .val (.int (own_pc cv tt)), .val (.long ((200 : Int64) * (cv.toInt64))), .second, .val (.long (tt.toInt64)), .second] [(.long (1 : Int64)), (.long ((2 : Int64) * ((own_pc cv tt).toInt64))), (.long ((200 : Int64) * (cv.toInt64)))])) _
        refine XS.ladd X17.here hx rfl (hb hby at_150) rfl ?_
        show Steps p.tables e below (T17.setTop (mkF m 151 #[.val (.int p1), .val (.int p2), .val (.int p3), .val (.int tt), .val (.int cv), .val (.int (own_pc cv tt)), .val (.long ((200 : Int64) * (cv.toInt64))), .second, .val (.long (tt.toInt64)), .second] [(.long (((2 : Int64) * ((own_pc cv tt).toInt64)) + (1 : Int64))), (.long ((200 : Int64) * (cv.toInt64)))])) _
        refine XS.lload X17.here hx rfl (hb hby at_151) rfl ?_
        show Steps p.tables e below (T17.setTop (mkF m 153 #[.val (.int p1), .val (.int p2), .val (.int p3), .val (.int tt), .val (.int cv), .val (.int (own_pc cv tt)), .val (.long ((200 : Int64) * (cv.toInt64))), .second, .val (.long (tt.toInt64)), .second] [(.long (tt.toInt64)), (.long (((2 : Int64) * ((own_pc cv tt).toInt64)) + (1 : Int64))), (.long ((200 : Int64) * (cv.toInt64)))])) _
        refine XS.lmul X17.here hx rfl (hb hby at_153) rfl ?_
        show Steps p.tables e below (T17.setTop (mkF m 154 #[.val (.int p1), .val (.int p2), .val (.int p3), .val (.int tt), .val (.int cv), .val (.int (own_pc cv tt)), .val (.long ((200 : Int64) * (cv.toInt64))), .second, .val (.long (tt.toInt64)), .second] [(.long ((((2 : Int64) * ((own_pc cv tt).toInt64)) + (1 : Int64)) * (tt.toInt64))), (.long ((200 : Int64) * (cv.toInt64)))])) _
        refine XS.lcmp X17.here hx rfl (hb hby at_154) rfl ?_
        show Steps p.tables e below (T17.setTop (mkF m 155 #[.val (.int p1), .val (.int p2), .val (.int p3), .val (.int tt), .val (.int cv), .val (.int (own_pc cv tt)), .val (.long ((200 : Int64) * (cv.toInt64))), .second, .val (.long (tt.toInt64)), .second] [(.int (lcmpW ((200 : Int64) * (cv.toInt64)) ((((2 : Int64) * ((own_pc cv tt).toInt64)) + (1 : Int64)) * (tt.toInt64))))])) _
        refine XS.ifNo X17.here hx rfl (hb hby at_155) rfl ((if0 _ _).trans (tlt ((own_D hcv hct c54 c101).2 : (lcmpW ((200 : Int64) * (cv.toInt64)) ((((2 : Int64) * ((own_pc cv tt).toInt64)) + (1 : Int64)) * (tt.toInt64))) < (0 : Int32))).2.1) ?_
        show Steps p.tables e below (T17.setTop (mkF m 158 #[.val (.int p1), .val (.int p2), .val (.int p3), .val (.int tt), .val (.int cv), .val (.int (own_pc cv tt)), .val (.long ((200 : Int64) * (cv.toInt64))), .second, .val (.long (tt.toInt64)), .second] [])) _
        refine XS.iconst X17.here hx rfl (hb hby at_158) ?_
        show Steps p.tables e below (T17.setTop (mkF m 159 #[.val (.int p1), .val (.int p2), .val (.int p3), .val (.int tt), .val (.int cv), .val (.int (own_pc cv tt)), .val (.long ((200 : Int64) * (cv.toInt64))), .second, .val (.long (tt.toInt64)), .second] [(.int (1 : Int32))])) _
        refine XS.goto X17.here hx rfl (pc0 := 159) (pc' := 163) rfl (hb hby at_159) (by decide) (by decide) ?_
        exact kt
      obtain ⟨fs, hr, hrun, hended, hW, hsame⟩ := X17.leave (v := some (.int (1 : Int32))) (fun h => by rw [Bd.returns] at h; cases h)
      refine ⟨_, _, (pre0 _ (pre13 _ (pre14 _ (pre15 _ (pre16 _ (pre18 _ (pre20 _ (pre22 _ ?_)))))))), hrun, hended, _, _, rfl, ?_, ⟨_, rfl⟩, hW, hsame.mono (by decide) (by decide)⟩
      · show Steps p.tables e below (T17.setTop (mkF m 163 #[.val (.int p1), .val (.int p2), .val (.int p3), .val (.int tt), .val (.int cv), .val (.int (own_pc cv tt)), .val (.long ((200 : Int64) * (cv.toInt64))), .second, .val (.long (tt.toInt64)), .second] [(.int (1 : Int32))])) _
        exact retN X17 hx (t := .boolean) Bd.returns (by simp) (hb hby at_163) hr
      · show Q0 Z p1 p2 p3 h0 n0 _ T17.heap _
        exact ⟨rfl, N17⟩
set_option maxRecDepth 65536 in
set_option maxHeartbeats 40000000 in
theorem comes_1 {Post : Tables → Env → Array Value → State → Outcome → State → Prop} (hpost : ∀ tb e args s v u, (limb_1_1.after args s (.returned v) u = true ∧ limb_1_2.after args s (.returned v) u = true ∧ True) → FrameEnd s (.returned v) u (Jvm.fieldLocs frame_1_writes args s ++ Jvm.arrayLocs frame_1_arrays args s ++ Jvm.staticLocs frame_1_statics s) 0 0 → Post tb e args s (.returned v) u) :
    ArmFor flags0 classFile x code maxLocals ret World_1 tables_1 room_1 Calls_1 rest_1 Pre_1 Post := by
  intro l hfl _ _ p e ha hc hk s m args below hf hA hF happ hP
  obtain ⟨hcalls, hrest, hpre⟩ := hP
  obtain ⟨-, -, -, hnamed, -, -, -, hat⟩ := (Spec.applies_iff hf).mp happ
  obtain ⟨hg, hn⟩ := and_e (Cond.before_iff.mp (show (Jvm.Cond.and given_1 narrow_1).before args s = true from hpre))
  obtain ⟨gc, g0⟩ := and_e hg
  obtain ⟨ga0, g1⟩ := and_e g0
  obtain ⟨ga1, g2⟩ := and_e g1
  obtain ⟨w0, w1, w2, rfl⟩ : ∃ w0 w1 w2 : Value, args = #[w0, w1, w2] := by
    have hs : args.size = 3 := by simpa [Cond.value, given_1] using gc
    obtain ⟨L⟩ := args
    match L, hs with
    | [w0, w1, w2], _ => exact ⟨w0, w1, w2, rfl⟩
  have hw := fun d (hd : d ∈ tables_1) => atoms_spec (ws := Jvm.Cond.code x code maxLocals ret :: tables_1) hat d (List.mem_cons_of_mem _ hd)
  have hfit : Fit s := fun {y c} hc i hi => by
    obtain ⟨ha, rfl⟩ := Array.getElem?_eq_some_iff.mp hc
    have q := List.all_eq_true.mp ((Array.all_eq_true_iff_forall_mem.mp hF) _ (Array.getElem_mem ha)) i (List.mem_range.mpr hi)
    simpa [Array.getElem?_eq_getElem hi] using q
  obtain ⟨i0, ei0⟩ := is_v ga0
  obtain rfl : w0 = (.int i0) := Option.some.inj ei0
  obtain ⟨i1, ei1⟩ := is_v ga1
  obtain rfl : w1 = (.int i1) := Option.some.inj ei1
  obtain ⟨i2, ei2⟩ := is_v g2
  obtain rfl : w2 = (.int i2) := Option.some.inj ei2
  obtain ⟨n, o, h1, h2, h3, _, L, rfl, ⟨rfl, N⟩, hq⟩ := rm0 l s _ hw tables_1 i0 i1 i2 s.heap s.heap.size (Nat.le_refl _) p e ha hc hk s m _ below hf ((Spec.applies_iff_loose hf).mp happ).1 ⟨rfl, State.Warmed39.refl s, rfl⟩ trivial
  refine ⟨n, _, h1, h2, h3, hpost _ _ _ _ _ _ ⟨Cond.after_iff.mpr rfl, Cond.after_iff.mpr (eq_i res_at (Term.int_eval (1)) rfl), trivial⟩ ⟨hq.1, hq.2.1, (hq.2.2.sift fun y hy => Or.inr (N y hy)).mono (by decide) (by decide)⟩⟩
theorem main_1_1 : Claimed_1_1 := comes_1 fun _ _ _ _ _ _ h hF => ⟨h.1, hF⟩
theorem main_1_2 : Claimed_1_2 := comes_1 fun _ _ _ _ _ _ h hF => ⟨h.2.1, hF⟩
end Jvm.Pilot.@@N@@
namespace Jvm.Pilot.@@N@@
open Jvm Jvm.ClassFile Sem Op Lib Jvm.Free Jvm.Stand Jvm.Pilot.@@N@@.Jvm.D
/-! MADE BY PROGRAM (witnessworld.py) out of the Statement's table words and the real class files: 10 classes; the members and pool entries that the words name. The judged class is class 1, her method 1. -/
namespace start1
open Jvm.ClassFile
def u (s : String) : CpInfo := .utf8 (stringToUtf16 s)
/-- a pool by its gaps: so many unusable entries, then the entry; so many at the end -/
def gap : Nat → List CpInfo → List CpInfo
  | 0, r => r
  | n + 1, r => .unusable :: gap n r
def poolList (es : List (Nat × CpInfo)) (last : Nat) : List CpInfo := es.foldr (fun e r => gap e.1 (e.2 :: r)) (gap last [])
def pool (es : List (Nat × CpInfo)) (last : Nat) : Array CpInfo := ⟨poolList es last⟩
def fileOf (pool : Array CpInfo) (this : Nat) (attrs : Array Attribute := #[]) (ms : Array MethodInfo := #[]) (fl : Nat := 33) (sup : Nat := 0) (ifs : Array Nat := #[]) (fds : Array FieldInfo := #[]) : ClassFile where
  minorVersion := 0
  majorVersion := 65
  constantPool := pool
  accessFlags := fl
  thisClass := this
  superClass := sup
  interfaces := ifs
  fields := fds
  methods := ms
  attributes := attrs
def plain (name : String) (sup : Option ClassId) : Class where
  name := name
  kind := .ordinary
  loader := none
  accessFlags := 33
  super := sup
  interfaces := #[]
  cf := none
  fields := #[]
  methods := #[]
  instanceTypes := #[]
  staticTypes := #[]
  resolved := #[]
  callSites := []
  init := .initialized
  statics := none
  mirror := none

def pool0 : Array CpInfo := pool [(5, u "<init>"), (0, u "()V"), (1, .class_ 10), (1, u "java/lang/Object")] 113

def k0m0 : Method := { name := "<init>", desc := "()V", sig := { parameters := [], returnType := none }, accessFlags := 1, code := none }
/-- java/lang/Object -/
def k0 : Class := { plain "java/lang/Object" none with
  accessFlags := 33
  interfaces := #[]
  cf := some (fileOf pool0 8 #[] #[{ accessFlags := 1, nameIndex := 5, descriptorIndex := 6, attributes := #[] }] 33 0 #[] #[])
  fields := #[]
  methods := #[k0m0]
  instanceTypes := #[]
  staticTypes := #[]
  resolved := Array.replicate 124 none
  statics := none }

def pool1 : Array CpInfo := pool [(2, .class_ 4), (1, u "java/lang/Object"), (0, u "<init>"), (0, u "()V"), (0, .integer 2147483647), (0, .long 2147483647), (1, .methodref 11 12), (0, .class_ 13), (0, .nameAndType 14 15), (0, u "com/example/formal_model_bench/formalmodelbench/engine/CoverageTable"), (0, u "percent"), (0, u "(II)I"), (0, .long 200), (1, .long 197), (1, .long 2), (1, .class_ 23), (0, u "com/example/formal_model_bench/formalmodelbench/engine/CoverageTablePercentPinLaw"), (2, u "law"), (0, u "(III)Z")] 3

def k1m0 : Method := { name := "<init>", desc := "()V", sig := { parameters := [], returnType := none }, accessFlags := 1, code := none }
def k1c1 : Code := { maxStack := 6, maxLocals := 10, code := code, exceptionTable := #[], attributes := #[] }
def k1m1 : Method := { name := "law", desc := "(III)Z", sig := { parameters := [.int, .int, .int], returnType := some .boolean }, accessFlags := 9, code := some k1c1 }
/-- com/example/formal_model_bench/formalmodelbench/engine/CoverageTablePercentPinLaw -/
def k1 : Class := { plain "com/example/formal_model_bench/formalmodelbench/engine/CoverageTablePercentPinLaw" (some 0) with
  accessFlags := 49
  interfaces := #[]
  cf := some (fileOf pool1 22 #[] #[{ accessFlags := 1, nameIndex := 5, descriptorIndex := 6, attributes := #[] }, { accessFlags := 9, nameIndex := 26, descriptorIndex := 27, attributes := #[] }] 49 2 #[] #[])
  fields := #[]
  methods := #[k1m0, k1m1]
  instanceTypes := #[]
  staticTypes := #[]
  resolved := Array.replicate 31 none
  statics := none }

def pool2 : Array CpInfo := pool [(2, .class_ 4), (1, u "java/lang/Object"), (3, .class_ 10), (1, u "com/example/formal_model_bench/formalmodelbench/engine/CoverageTable"), (0, u "className"), (0, u "Ljava/lang/String;"), (8, u "rows"), (0, u "Ljava/util/List;"), (2, u "total"), (0, u "I"), (142, .class_ 170), (0, u "com/example/formal_model_bench/formalmodelbench/engine/CoverageTable$Row"), (3, u "percent"), (0, u "(II)I"), (8, .long 200), (1, .long 2), (1, .methodref 189 190), (0, .class_ 191), (0, .nameAndType 192 175), (0, u "java/lang/Math"), (0, u "min"), (66, u "CHANGED")] 44

def k2c0 : Code := { maxStack := 6, maxLocals := 3, code := prog_20_method_4_code, exceptionTable := #[], attributes := #[] }
def k2m0 : Method := { name := "percent", desc := "(II)I", sig := { parameters := [.int, .int], returnType := some .int }, accessFlags := 8, code := some k2c0 }
/-- com/example/formal_model_bench/formalmodelbench/engine/CoverageTable -/
def k2 : Class := { plain "com/example/formal_model_bench/formalmodelbench/engine/CoverageTable" (some 0) with
  accessFlags := 49
  interfaces := #[]
  cf := some (fileOf pool2 8 #[.nestMembers #[169]] #[{ accessFlags := 8, nameIndex := 174, descriptorIndex := 175, attributes := #[] }] 49 2 #[] #[{ accessFlags := 26, nameIndex := 259, descriptorIndex := 12, attributes := #[] }, { accessFlags := 18, nameIndex := 11, descriptorIndex := 12, attributes := #[] }, { accessFlags := 18, nameIndex := 21, descriptorIndex := 22, attributes := #[] }, { accessFlags := 18, nameIndex := 25, descriptorIndex := 26, attributes := #[] }])
  fields := #[{ name := "CHANGED", type := (.object "java/lang/String"), accessFlags := 26, slot := 0, constantValue := 0 }, { name := "className", type := (.object "java/lang/String"), accessFlags := 18, slot := 0, constantValue := 0 }, { name := "rows", type := (.object "java/util/List"), accessFlags := 18, slot := 1, constantValue := 0 }, { name := "total", type := .int, accessFlags := 18, slot := 2, constantValue := 0 }]
  methods := #[k2m0]
  instanceTypes := #[(.object "java/lang/String"), (.object "java/util/List"), .int]
  staticTypes := #[(.object "java/lang/String")]
  resolved := Array.replicate 304 none
  statics := none }

def pool3 : Array CpInfo := pool [(1, .class_ 2), (0, u "java/lang/Math"), (1, .class_ 6), (1, u "java/lang/Object"), (0, u "<init>"), (0, u "()V"), (89, .class_ 100), (1, u "java/lang/Math$RandomNumberGeneratorHolder"), (71, u "negativeZeroFloatBits"), (0, u "J"), (2, u "negativeZeroDoubleBits"), (24, u "min"), (43, u "$assertionsDisabled"), (0, u "Z"), (88, u "(II)I"), (2, u "twoToTheDoubleScaleDown"), (0, u "D"), (4, u "twoToTheDoubleScaleUp"), (9, u "E"), (3, u "PI"), (2, u "TAU"), (2, u "DEGREES_TO_RADIANS"), (0, u "RADIANS_TO_DEGREES")] 94

def k3m0 : Method := { name := "<init>", desc := "()V", sig := { parameters := [], returnType := none }, accessFlags := 2, code := none }
def k3c1 : Code := { maxStack := 2, maxLocals := 2, code := jdk_29_method_69_code, exceptionTable := #[], attributes := #[] }
def k3m1 : Method := { name := "min", desc := "(II)I", sig := { parameters := [.int, .int], returnType := some .int }, accessFlags := 9, code := some k3c1 }
/-- java/lang/Math -/
def k3 : Class := { plain "java/lang/Math" (some 0) with
  accessFlags := 49
  interfaces := #[]
  cf := some (fileOf pool3 1 #[.nestMembers #[98]] #[{ accessFlags := 2, nameIndex := 7, descriptorIndex := 8, attributes := #[] }, { accessFlags := 9, nameIndex := 201, descriptorIndex := 335, attributes := #[] }] 49 4 #[] #[{ accessFlags := 25, nameIndex := 354, descriptorIndex := 339, attributes := #[] }, { accessFlags := 25, nameIndex := 358, descriptorIndex := 339, attributes := #[] }, { accessFlags := 25, nameIndex := 361, descriptorIndex := 339, attributes := #[] }, { accessFlags := 26, nameIndex := 364, descriptorIndex := 339, attributes := #[] }, { accessFlags := 26, nameIndex := 365, descriptorIndex := 339, attributes := #[] }, { accessFlags := 26, nameIndex := 172, descriptorIndex := 173, attributes := #[] }, { accessFlags := 26, nameIndex := 176, descriptorIndex := 173, attributes := #[] }, { accessFlags := 8, nameIndex := 344, descriptorIndex := 339, attributes := #[] }, { accessFlags := 8, nameIndex := 338, descriptorIndex := 339, attributes := #[] }, { accessFlags := 4120, nameIndex := 245, descriptorIndex := 246, attributes := #[] }])
  fields := #[{ name := "E", type := .double, accessFlags := 25, slot := 0, constantValue := 0 }, { name := "PI", type := .double, accessFlags := 25, slot := 1, constantValue := 0 }, { name := "TAU", type := .double, accessFlags := 25, slot := 2, constantValue := 0 }, { name := "DEGREES_TO_RADIANS", type := .double, accessFlags := 26, slot := 3, constantValue := 0 }, { name := "RADIANS_TO_DEGREES", type := .double, accessFlags := 26, slot := 4, constantValue := 0 }, { name := "negativeZeroFloatBits", type := .long, accessFlags := 26, slot := 5, constantValue := 0 }, { name := "negativeZeroDoubleBits", type := .long, accessFlags := 26, slot := 6, constantValue := 0 }, { name := "twoToTheDoubleScaleUp", type := .double, accessFlags := 8, slot := 7, constantValue := 0 }, { name := "twoToTheDoubleScaleDown", type := .double, accessFlags := 8, slot := 8, constantValue := 0 }, { name := "$assertionsDisabled", type := .boolean, accessFlags := 4120, slot := 9, constantValue := 0 }]
  methods := #[k3m0, k3m1]
  instanceTypes := #[]
  staticTypes := #[.double, .double, .double, .double, .double, .long, .long, .double, .double, .boolean]
  resolved := Array.replicate 460 none
  statics := none }

def pool4 : Array CpInfo := pool [(1, u "java/lang/Cloneable"), (0, .class_ 1), (0, u "java/lang/Object"), (0, .class_ 3)] 3

/-- java/lang/Cloneable -/
def k4 : Class := { plain "java/lang/Cloneable" (some 0) with
  accessFlags := 1537
  interfaces := #[]
  cf := some (fileOf pool4 2 #[] #[] 1537 4 #[] #[])
  fields := #[]
  methods := #[]
  instanceTypes := #[]
  staticTypes := #[]
  resolved := Array.replicate 8 none
  statics := none }

def pool5 : Array CpInfo := pool [(1, u "java/io/Serializable"), (0, .class_ 1), (0, u "java/lang/Object"), (0, .class_ 3)] 3

/-- java/io/Serializable -/
def k5 : Class := { plain "java/io/Serializable" (some 0) with
  accessFlags := 1537
  interfaces := #[]
  cf := some (fileOf pool5 2 #[] #[] 1537 4 #[] #[])
  fields := #[]
  methods := #[]
  instanceTypes := #[]
  staticTypes := #[]
  resolved := Array.replicate 8 none
  statics := none }

/-- the primitive byte -/
def k6 : Class := { plain "byte" none with kind := .primitive 'B', accessFlags := 0x411 }
/-- [B -/
def k7 : Class := { plain "[B" (some 0) with kind := .array 6 .byte, interfaces := #[4, 5], accessFlags := 1041 }

/-- the primitive int -/
def k8 : Class := { plain "int" none with kind := .primitive 'I', accessFlags := 0x411 }
/-- [I -/
def k9 : Class := { plain "[I" (some 0) with kind := .array 8 .int, interfaces := #[4, 5], accessFlags := 1041 }

def heap : Heap := #[]
def classes : Array Class := #[k0, k1, k2, k3, k4, k5, k6, k7, k8, k9]
def interned : List (Array UInt16 × Addr) := []
def slotsUsed : Nat := 0
def theMethod : MethodId := ⟨1, 1⟩
def args0 : Array Value := #[.int 5, .int 300, .int 7]
def aboutOver (below : List Frame) : State where
  vm := { classes := classes, interned := interned.toArray }
  heap := heap
  slotsUsed := slotsUsed
  threads := #[{ frames := .invoking theMethod args0 :: below }]
def below0 : List Frame := [.native { method := ⟨0, 0⟩, args := #[] }]
def about1 : State := aboutOver below0
def p0 : Program := .bare "" "" ""
def e0 : Env := launch0.env 0 0 0
theorem w_frames : about1.frames = Frame.invoking theMethod args0 :: below0 := rfl
set_option maxRecDepth 65536 in
theorem w_args : argsFit about1.vm theMethod args0 = true := by decide +kernel
set_option maxRecDepth 65536 in
theorem w_heap : heapFits about1 = true := by decide +kernel
set_option maxRecDepth 65536 in
theorem w_runnable : about1.curStatus? = some .runnable := by decide +kernel
set_option maxRecDepth 65536 in
theorem w_alone : about1.alone = true := by decide +kernel
set_option maxRecDepth 65536 in
theorem w_named : about1.methodNamed? x = some theMethod := by decide +kernel
set_option maxRecDepth 65536 in
theorem w_hears : about1.hears theMethod below0 = true := by decide +kernel
set_option maxRecDepth 65536 in
theorem w_ripe : about1.ripe theMethod args0 below0 = true := by decide +kernel
theorem w_running : about1.status = .running := rfl
set_option maxRecDepth 65536 in
theorem w_room : about1.hasRoom e0.platform room_1 = true :=
  launch0.hasRoom_least _ room_1 (by decide +kernel) (by decide +kernel) (by decide +kernel) (by decide +kernel) (by decide +kernel) (by decide +kernel)
theorem allAtoms_all (ts : List Jvm.Cond) (a : Array Jvm.Value) (st : Jvm.State) : (allAtoms ts).before a st = ts.all (fun c => c.before a st) := by
  induction ts with
  | nil => rfl
  | cons c t ih =>
    show (Jvm.Cond.and c (allAtoms t)).before a st = _
    rw [Jvm.Cond.before_and, ih, List.all_cons]
def words1 : List Jvm.Cond := Jvm.Cond.code x code maxLocals ret :: tables_1
/-- a 'code' word, met by the world's own term for the bytes: nothing is compared byte by byte -/
theorem code_word {y : MethodName} {bytes : ByteArray} {mx : Nat} {rt : Option FieldType} {a : Array Value} {s : State} {m : MethodId} {meth : Method} {c : Code} (h1 : s.methodNamed? y = some m) (h2 : s.vm.method? m = some meth) (h3 : meth.code = some c) (h4 : c.code = bytes)
    (h5 : (c.maxLocals == mx && c.exceptionTable.isEmpty && decide (c.maxStack ≤ mostOperands) && decide (meth.sig.returnType = rt) && !meth.locks && decide (parseMethodDescriptor y.desc = some meth.sig)) = true) : (Jvm.Cond.code y bytes mx rt).before a s = true := by
  simp only [Bool.and_eq_true, beq_iff_eq, Bool.not_eq_true', decide_eq_true_eq] at h5
  obtain ⟨⟨⟨⟨⟨g1, g2⟩, g3⟩, g4⟩, g5⟩, g6⟩ := h5
  simp [Cond.before, Cond.holds, Cond.value, h1, h2, h3, h4, g1, g2, g3, g4, g5, g6]
def isCode : Jvm.Cond → Bool
  | .code _ _ _ _ => true
  | _ => false
theorem all_split {L : List Jvm.Cond} {P : Jvm.Cond → Bool} (h1 : L.all (fun c => isCode c || P c) = true) (h2 : ∀ c ∈ L.filter isCode, P c = true) : L.all P = true := by
  refine List.all_eq_true.mpr fun c hc => ?_
  have h := List.all_eq_true.mp h1 c hc
  rcases Bool.eq_false_or_eq_true (isCode c) with hi | hi
  · exact h2 c (List.mem_filter.mpr ⟨hc, hi⟩)
  · simpa [hi] using h
set_option maxRecDepth 65536 in
theorem w_c0 : (Jvm.Cond.code x code maxLocals ret).before args0 about1 = true := code_word (m := ⟨1, 1⟩) (meth := k1m1) (c := k1c1) (by decide +kernel) rfl rfl rfl (by decide +kernel)
set_option maxRecDepth 65536 in
theorem w_c1 : (Jvm.Cond.code ({ cls := "com/example/formal_model_bench/formalmodelbench/engine/CoverageTable", name := "percent", desc := "(II)I" } : Jvm.MethodName) prog_20_method_4_code (3 : Nat) (Option.some Jvm.ClassFile.FieldType.int)).before args0 about1 = true := code_word (m := ⟨2, 0⟩) (meth := k2m0) (c := k2c0) (by decide +kernel) rfl rfl rfl (by decide +kernel)
set_option maxRecDepth 65536 in
theorem w_c2 : (Jvm.Cond.code ({ cls := "java/lang/Math", name := "min", desc := "(II)I" } : Jvm.MethodName) jdk_29_method_69_code (2 : Nat) (Option.some Jvm.ClassFile.FieldType.int)).before args0 about1 = true := code_word (m := ⟨3, 1⟩) (meth := k3m1) (c := k3c1) (by decide +kernel) rfl rfl rfl (by decide +kernel)
def codes1 : List Jvm.Cond := [Jvm.Cond.code x code maxLocals ret, Jvm.Cond.code ({ cls := "com/example/formal_model_bench/formalmodelbench/engine/CoverageTable", name := "percent", desc := "(II)I" } : Jvm.MethodName) prog_20_method_4_code (3 : Nat) (Option.some Jvm.ClassFile.FieldType.int), Jvm.Cond.code ({ cls := "java/lang/Math", name := "min", desc := "(II)I" } : Jvm.MethodName) jdk_29_method_69_code (2 : Nat) (Option.some Jvm.ClassFile.FieldType.int)]
set_option maxRecDepth 65536 in
theorem codes_eq : words1.filter isCode = codes1 := rfl
theorem w_codes : ∀ c ∈ words1.filter isCode, c.before args0 about1 = true := by
  rw [codes_eq]
  intro c hc
  simp only [codes1, List.mem_cons, List.not_mem_nil, or_false] at hc
  rcases hc with rfl | rfl | rfl
  · exact w_c0
  · exact w_c1
  · exact w_c2
set_option maxRecDepth 65536 in
theorem w_t1 : words1.all (fun c => isCode c || c.before args0 about1) = true := by decide +kernel
theorem w_tables : (allAtoms (Jvm.Cond.code x code maxLocals ret :: tables_1)).before args0 about1 = true := by
  rw [allAtoms_all]
  show words1.all (fun c => c.before args0 about1) = true
  refine all_split ?_ w_codes
  rw [w_t1]
set_option maxRecDepth 65536 in
theorem w_case : (Jvm.Cond.and given_1 narrow_1).before args0 about1 = true := by decide +kernel
theorem w_applies : (headSpec (Jvm.Cond.code x code maxLocals ret :: tables_1) room_1).applies x e0.platform about1 = true :=
  (Spec.applies_iff w_frames).mpr ⟨w_running, w_runnable, w_alone, w_named, w_hears, w_ripe, w_room, w_tables⟩
theorem atStart : AtStart classFile x code maxLocals ret World_1 tables_1 room_1 Calls_1 rest_1 Pre_1 launch0 p0 e0 about1 theMethod args0 below0 :=
  ⟨lists_1, trivial, launch0.admits_env _ _ _, launch0.least_env, fairChoices_fair.cas, fairChoices_fair.clock, w_frames, w_args, w_heap, w_applies, trivial, trivial, w_case⟩
end start1
theorem witness_1 : WitnessClaimed_1 := ⟨start1.p0, start1.e0, start1.about1, start1.theMethod, start1.args0, start1.below0, start1.atStart⟩
end Jvm.Pilot.@@N@@
